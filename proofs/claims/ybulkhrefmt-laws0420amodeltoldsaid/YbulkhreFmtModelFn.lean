/-
  Seat b0420aF: zzs0420amodel, walked.
-/
import Derived.Test.YbulkhreFmtCarry
namespace Go.Proofs.YbulkhreFmt
open Go Go.RowKit

/-! ### What the model comes to, plainly -/
theorem beq_of' {x : UInt8} {c : Nat} (h : x.toNat = c) : ((x.toNat : Int) == (c : Int)) = true := by rw [h]; simp
theorem beq_ne' {x : UInt8} {c : Nat} (h : x.toNat ≠ c) : ((x.toNat : Int) == (c : Int)) = false := beq_eq_false_iff_ne.2 (by omega)
theorem zero_LL {D : List UInt8} {i : Nat} (h : (peekB D i).toNat = 48) : LL D i = 1 ∧ dv D i 1 = 0 ∧ isDg (peekB D i) = true := by
  refine ⟨?_, ?_, ?_⟩
  · unfold LL
    rw [if_pos (show zeroQ (peekB D i) = true from decide_eq_true h)]
  · rw [dv_succ, Nat.add_zero, h]
    rfl
  · unfold isDg
    rw [decide_eq_true_iff]
    omega
theorem up_zero_bad {D : List UInt8} {i : Nat} (h : (peekB D i).toNat = 48) (hd : dotQ (peekB D (i + 1)) = true ∨ eQ (peekB D (i + 1)) = true) : UPost D i 0 0 false := up_bad fun g => by
  have h1 := g.2.1
  have h2 := g.2.2.1
  rw [(zero_LL h).1] at h1 h2
  rcases hd with hd | hd
  · rw [hd] at h1; cases h1
  · rw [hd] at h2; cases h2
theorem up_zero_good {D : List UInt8} {i : Nat} (h : (peekB D i).toNat = 48) (hd : dotQ (peekB D (i + 1)) = false) (he : eQ (peekB D (i + 1)) = false) : UPost D i 0 (i + 1) true := by
  obtain ⟨h1, h2, h3⟩ := zero_LL h
  refine ⟨fun _ => ⟨rfl, by rw [h1, h2], by rw [h1]⟩, fun hb => absurd ⟨h3, by rw [h1]; exact hd, by rw [h1]; exact he, ?_⟩ hb⟩
  rw [h1, h2]
  unfold B64
  omega
theorem nz_LL {D : List UInt8} {i : Nat} (h : (peekB D i).toNat ≠ 48) : LL D i = run isDg D i := by
  unfold LL
  rw [if_neg (by rw [zeroQ, decide_eq_true_iff]; exact h)]
theorem up_nz_over {D : List UInt8} {i : Nat} (h : (peekB D i).toNat ≠ 48) (hv : B64 ≤ dv D i (run isDg D i)) : UPost D i 0 0 false := up_bad fun g => by
  have := g.2.2.2
  rw [nz_LL h] at this
  omega
theorem up_nz_bad {D : List UInt8} {i : Nat} (h : (peekB D i).toNat ≠ 48) (hd : dotQ (peekB D (i + run isDg D i)) = true ∨ eQ (peekB D (i + run isDg D i)) = true) : UPost D i 0 0 false := up_bad fun g => by
  have h1 := g.2.1
  have h2 := g.2.2.1
  rw [nz_LL h] at h1 h2
  rcases hd with hd | hd
  · rw [hd] at h1; cases h1
  · rw [hd] at h2; cases h2
theorem up_nz_good {D : List UInt8} {i : Nat} (h0 : isDg (peekB D i) = true) (h : (peekB D i).toNat ≠ 48) (hv : dv D i (run isDg D i) < B64) (hd : dotQ (peekB D (i + run isDg D i)) = false) (he : eQ (peekB D (i + run isDg D i)) = false) :
    UPost D i (dv D i (run isDg D i)) (i + run isDg D i) true := by
  have h1 := nz_LL h
  refine ⟨fun _ => ⟨rfl, by rw [h1], by rw [h1]⟩, fun hb => absurd ⟨h0, by rw [h1]; exact hd, by rw [h1]; exact he, ?_⟩ hb⟩
  rw [h1]
  exact hv

/-- The state of the model's loop behind q digits. -/
structure MSt (D : List UInt8) (i q N : Nat) (o : Bool) : Prop where
  le : q ≤ run isDg D i
  num : dv D i q % B64 = N
  ovf : o = decide (B64 ≤ dv D i q)
theorem mst_next {D : List UInt8} {i q N : Nat} {o : Bool} (h : MSt D i q N o) (hq : q < run isDg D i) (x : UInt8) (hx : peekB D (i + q) = x) (T : Nat) (hT : T = N * 10 + (x.toNat - 48)) (o' : Bool) (ho : o' = (o || decide (B64 ≤ T))) (N' : Nat) (hN : N' = T % B64) : MSt D i (q + 1) N' o' := by
  have hs : dv D i (q + 1) = dv D i q * 10 + (x.toNat - 48) := by rw [dv_succ, hx]
  have hnum := h.num
  have hovf := h.ovf
  refine ⟨by omega, ?_, ?_⟩
  · rw [hN, hT, hs, ← hnum]
    unfold B64
    omega
  · rw [ho, hovf, hs, hT, ← hnum, Bool.eq_iff_iff, Bool.or_eq_true, decide_eq_true_iff, decide_eq_true_iff, decide_eq_true_iff]
    unfold B64
    omega

/-- Mul64 at ten, its two words under names. -/
theorem mul14v (x : Nat) (hx : x < 18446744073709551616) (w : World) :
    Calls Ybaf.prog 14 #[.int .u64 x, .int .u64 10] w fun e w' => ∃ H Lo : Nat, e = .returned (.tuple #[.int .u64 H, .int .u64 Lo]) ∧ w' = w ∧ Hid (x * 10 = H * B64 + Lo ∧ Lo < B64) :=
  (mul14 x hx w).mono fun e w' ⟨h1, h2⟩ => ⟨x * 10 / 18446744073709551616, x * 10 % 18446744073709551616, by
    rw [h1]
    have e1 : ((x * 10 / 18446744073709551616 : Nat) : Int) = (x : Int) * 10 / 18446744073709551616 := by omega
    have e2 : ((x * 10 % 18446744073709551616 : Nat) : Int) = (x : Int) * 10 % 18446744073709551616 := by omega
    rw [e1, e2], h2, by unfold B64; exact ⟨by omega, by omega⟩⟩
/-- Add64 without a carry that comes in, its two words under names. -/
theorem add15v (x : Nat) (y : Int) (hy : 0 ≤ y) : ∃ S C : Nat, (∀ w, (callFunc 15 #[.int .u64 x, .int .u64 y, .int .u64 0]).run Ybaf.prog w = .ok (.value (.tuple #[.int .u64 S, .int .u64 C])) w) ∧ Hid (x + y.toNat = C * B64 + S ∧ S < B64) := by
  refine ⟨(x + y.toNat) % 18446744073709551616, (x + y.toNat) / 18446744073709551616, fun w => ?_, by unfold B64; exact ⟨by omega, by omega⟩⟩
  rw [add15 x y (by omega) hy w]
  have e1 : (((x + y.toNat) % 18446744073709551616 : Nat) : Int) = ((x : Int) + y) % 18446744073709551616 := by omega
  have e2 : (((x + y.toNat) / 18446744073709551616 : Nat) : Int) = ((x : Int) + y) / 18446744073709551616 := by omega
  rw [e1, e2]
/-- The two words say whether the number has grown beyond 64 bits. -/
theorem words (N z H Lo S C T : Nat) (h1 : N * 10 = H * B64 + Lo ∧ Lo < B64) (h2 : Lo + z = C * B64 + S ∧ S < B64) (hT : T = N * 10 + z) (hz : z ≤ 9) : S = T % B64 ∧ ((H ≠ 0 ∨ C ≠ 0) ↔ B64 ≤ T) := by
  unfold B64 at *
  refine ⟨by omega, by omega⟩

/-- The end that every way of the model comes to. -/
def MEnd (w w' : World) (D : List UInt8) (i : Nat) (e : Ending) : Prop :=
  ∃ val k' ok, e = .returned (.tuple #[.int .u64 (val : Nat), .bool ok, .int .i64 (k' : Nat)]) ∧ w' = w ∧ UPost D i val k' ok

set_option maxRecDepth 100000 in
set_option maxHeartbeats 4000000 in
theorem model7 (g n cap : Nat) (D : List UInt8) (w : World) (hrow : ∀ j (h : j < D.length), w.cell? ⟨g, j, none⟩ = some (.int .u8 (D[j].toNat : Int))) (hlen : D.length = n) (hn : n ≤ 4096) :
    Calls Ybaf.prog 7 #[.slice (some ⟨g, 0, none⟩) n cap] w fun e w' => MEnd w w' D (run isSp D 0) e := by
  have HL : Hid (D.length = n) := hlen
  have HR : Hid (∀ j (h : j < D.length), w.cell? ⟨g, j, none⟩ = some (.int .u8 (D[j].toNat : Int))) := hrow
  clear hlen hrow
  obtain ⟨m, HM⟩ : ∃ m, Hid (0 + run isSp D 0 = m) := ⟨_, rfl⟩
  rw [← Nat.zero_add (run isSp D 0), HM.out]
  go_enter Ybaf.func7, Ybaf.ntmps7
  go_wp2
  go_loop [5] (fun i => ∃ q : Nat, q ≤ n ∧ i = .int .i64 q ∧ Hid (q + run isSp D q = m)) (fun i => n - (intOf i).toNat)
  case atStart => exact ⟨0, by omega, rfl, HM⟩
  case round =>
    obtain ⟨q, hq, rfl, hm⟩ := hrel
    by_cases hlt : q < n
    · have hlt' : q < D.length := by have := HL.out; omega
      have hc := HR.out q hlt'
      have HP : Hid (peekB D q = D[q]) := peekB_in hlt'
      have HY : Hid (isSp D[q] = true → (q + 1) + run isSp D (q + 1) = m) := fun e => by have := hm.out; rw [run_yes hlt' e] at this; omega
      have HN : Hid (isSp D[q] = false → q = m) := fun e => by have := hm.out; rw [run_no hlt' e] at this; omega
      generalize D[q] = x at hc HP HY HN
      clear hlt'
      cases hx : isSp x with
      | true =>
        have HX : Hid (isSp x = true) := hx
        have HS : Hid ((q + 1) + run isSp D (q + 1) = m) := HY.out hx
        clear HY HN hx
        go_wp2_with fail
        refine (space12 x _ true HX.out).mono ?_
        rintro e w1 ⟨rfl, rfl⟩
        go_wp2
        go_round
        case rel => exact ⟨q + 1, by omega, by go_num, HS⟩
        case measure => simp [intOf]; omega
      | false =>
        have HX : Hid (isSp x = false) := hx
        have HS : Hid (q = m) := HN.out hx
        clear HY HN hx
        go_wp2_with fail
        refine (space12 x _ false HX.out).mono ?_
        rintro e w1 ⟨rfl, rfl⟩
        cases hd : isDg x with
        | false =>
          have HD : Hid (isDg x = false) := hd
          clear hd
          go_wp2_with fail
          refine (digit13 x _ false HD.out).mono ?_
          rintro e w1 ⟨rfl, rfl⟩
          go_wp2
          go_ret3
          rw [← HS.out]
          exact ⟨0, 0, false, rfl, rfl, up_nodigit (by rw [HP.out]; exact HD.out)⟩
        | true =>
          have HD : Hid (isDg x = true) := hd
          clear hd
          by_cases h48 : x.toNat = 48
          · have b1 : ((x.toNat : Int) == 48) = true := beq_of' h48
            have H48 : Hid ((peekB D q).toNat = 48) := by show _ = _; rw [HP.out]; exact h48
            clear h48
            by_cases hj : q + 1 < n
            · have hj' : q + 1 < D.length := by have := HL.out; omega
              have hc2 := HR.out (q + 1) hj'
              have HP2 : Hid (peekB D (q + 1) = D[q + 1]) := peekB_in hj'
              generalize D[q + 1] = y at hc2 HP2
              have hji : (q : Int) + 1 < (n : Int) := by omega
              clear hj'
              by_cases h46 : y.toNat = 46
              · have c46 : ((y.toNat : Int) == 46) = true := beq_of' h46
                have HY : Hid (y.toNat = 46) := h46
                clear h46
                go_wp2_with fail
                refine (digit13 x _ true HD.out).mono ?_
                rintro e w1 ⟨rfl, rfl⟩
                go_wp2
                go_ret3
                rw [← HS.out]
                exact ⟨0, 0, false, rfl, rfl, up_zero_bad H48.out (by rw [HP2.out]; exact .inl (decide_eq_true HY.out))⟩
              · have c46 : ((y.toNat : Int) == 46) = false := beq_ne' h46
                by_cases h101 : y.toNat = 101
                · have c101 : ((y.toNat : Int) == 101) = true := beq_of' h101
                  have HY : Hid (y.toNat = 101) := h101
                  clear h101
                  go_wp2_with fail
                  refine (digit13 x _ true HD.out).mono ?_
                  rintro e w1 ⟨rfl, rfl⟩
                  go_wp2
                  go_ret3
                  rw [← HS.out]
                  exact ⟨0, 0, false, rfl, rfl, up_zero_bad H48.out (by rw [HP2.out]; exact .inr (decide_eq_true (.inl HY.out)))⟩
                · have c101 : ((y.toNat : Int) == 101) = false := beq_ne' h101
                  by_cases h69 : y.toNat = 69
                  · have c69 : ((y.toNat : Int) == 69) = true := beq_of' h69
                    have HY : Hid (y.toNat = 69) := h69
                    clear h69
                    go_wp2_with fail
                    refine (digit13 x _ true HD.out).mono ?_
                    rintro e w1 ⟨rfl, rfl⟩
                    go_wp2
                    go_ret3
                    rw [← HS.out]
                    exact ⟨0, 0, false, rfl, rfl, up_zero_bad H48.out (by rw [HP2.out]; exact .inr (decide_eq_true (.inr HY.out)))⟩
                  · have c69 : ((y.toNat : Int) == 69) = false := beq_ne' h69
                    have HYN : Hid (dotQ y = false ∧ eQ y = false) := ⟨decide_eq_false h46, decide_eq_false (fun h => h.elim h101 h69)⟩
                    clear h46 h101 h69
                    go_wp2_with fail
                    refine (digit13 x _ true HD.out).mono ?_
                    rintro e w1 ⟨rfl, rfl⟩
                    go_wp2
                    go_ret3
                    rw [← HS.out]
                    refine ⟨0, q + 1, true, ?_, rfl, up_zero_good H48.out ?_ ?_⟩
                    · rw [Int.natCast_add]; rfl
                    · rw [HP2.out]; exact HYN.out.1
                    · rw [HP2.out]; exact HYN.out.2
            · have hji : ¬ (q : Int) + 1 < (n : Int) := by omega
              go_wp2_with fail
              refine (digit13 x _ true HD.out).mono ?_
              rintro e w1 ⟨rfl, rfl⟩
              go_wp2
              go_ret3
              rw [← HS.out]
              refine ⟨0, q + 1, true, ?_, rfl, up_zero_good H48.out ?_ ?_⟩
              · rw [Int.natCast_add]; rfl
              · rw [peekB_out (by have := HL.out; omega)]; rfl
              · rw [peekB_out (by have := HL.out; omega)]; rfl
          · have b1 : ((x.toNat : Int) == 48) = false := beq_ne' h48
            have H48 : Hid ((peekB D q).toNat ≠ 48) := by show _ ≠ _; rw [HP.out]; exact h48
            have H0 : Hid (isDg (peekB D q) = true) := by show _ = _; rw [HP.out]; exact HD.out
            go_wp2_with fail
            refine (digit13 x _ true HD.out).mono ?_
            rintro e w1 ⟨rfl, rfl⟩
            go_wp2
            clear hc HP h48 b1
            go_loop [8, 9, 10] (fun nv ov jv => ∃ (t N : Nat) (o : Bool), jv = .int .i64 ((q : Int) + (t : Int)) ∧ nv = .int .u64 N ∧ ov = .bool o ∧ N < 18446744073709551616 ∧ q + t ≤ n ∧ Hid (MSt D q t N o)) (fun _ _ jv => n - (intOf jv).toNat)
            case atStart => exact ⟨0, 0, false, by simp, rfl, rfl, by omega, by omega, ⟨by omega, by simp [dv], by simp [dv, B64]⟩⟩
            case round =>
              obtain ⟨t, N, o, rfl, rfl, rfl, hNb, hqt, hst⟩ := hrel
              have HRL : Hid (q + run isDg D q ≤ n) := by have := run_le isDg D q; have := HL.out; show _ ≤ _; omega
              by_cases ht : t < run isDg D q
              · have hlt2 : q + t < D.length := by have := HRL.out; have := HL.out; omega
                have hc2 := HR.out (q + t) hlt2
                have HP2 : Hid (peekB D (q + t) = D[q + t]) := peekB_in hlt2
                have HD2 : Hid (isDg D[q + t] = true) := run_all isDg _ D q (q + t) hlt2 rfl (by omega) (by omega)
                generalize D[q + t] = z at hc2 HP2 HD2
                have hji : (q : Int) + (t : Int) < (n : Int) := by have := HL.out; omega
                obtain ⟨hz1, hz2⟩ := of_decide_eq_true HD2.out
                clear hlt2
                go_wp2_with fail
                refine (digit13 z _ true HD2.out).mono ?_
                rintro e w1 ⟨rfl, rfl⟩
                go_wp2_with fail
                refine (mul14v N hNb _).mono ?_
                rintro e w1 ⟨H, Lo, rfl, hw1, hml⟩
                rw [hw1]
                clear hw1 w1
                obtain ⟨S, C, hadd, hsc⟩ := add15v Lo ((z.toNat : Int) - 48) (by omega)
                have HW := words N (z.toNat - 48) H Lo S C _ hml.out (by have := hsc.out; rw [show ((z.toNat : Int) - 48).toNat = z.toNat - 48 by omega] at this; exact this) rfl (by omega)
                have hSb : S < 18446744073709551616 := hsc.out.2
                have HN : Hid (∀ o' : Bool, o' = (o || decide (H ≠ 0 ∨ C ≠ 0)) → MSt D q (t + 1) S o') := fun o' ho => mst_next hst.out ht z HP2.out _ rfl o' (by rw [ho]; congr 1; exact decide_eq_decide.2 HW.2) S HW.1
                clear HW hml hsc
                by_cases hH : H = 0
                · by_cases hC : C = 0
                  · have b1 : ((H : Int) != 0) = false := by rw [bne_eq_false_iff_eq]; omega
                    have b2 : ((C : Int) != 0) = false := by rw [bne_eq_false_iff_eq]; omega
                    have HM2 : Hid (MSt D q (t + 1) S o) := HN.out o (by rw [decide_eq_false (by omega)]; simp)
                    clear hH hC
                    go_wp2
                    go_round
                    case rel => exact ⟨t + 1, S, o, by go_num, rfl, rfl, hSb, by have := HL.out; omega, HM2⟩
                    case measure => simp [intOf]; omega
                  · have b1 : ((H : Int) != 0) = false := by rw [bne_eq_false_iff_eq]; omega
                    have b2 : ((C : Int) != 0) = true := by rw [bne_iff_ne]; omega
                    have HM2 : Hid (MSt D q (t + 1) S true) := HN.out true (by rw [decide_eq_true (.inr hC)]; simp)
                    clear hH hC
                    go_wp2
                    go_round
                    case rel => exact ⟨t + 1, S, true, by go_num, rfl, rfl, hSb, by have := HL.out; omega, HM2⟩
                    case measure => simp [intOf]; omega
                · have b1 : ((H : Int) != 0) = true := by rw [bne_iff_ne]; omega
                  have HM2 : Hid (MSt D q (t + 1) S true) := HN.out true (by rw [decide_eq_true (.inl hH)]; simp)
                  clear hH
                  go_wp2
                  go_round
                  case rel => exact ⟨t + 1, S, true, by go_num, rfl, rfl, hSb, by have := HL.out; omega, HM2⟩
                  case measure => simp [intOf]; omega
              · have HT : Hid (t = run isDg D q) := by have := hst.out.le; show _ = _; omega
                have HOV : Hid (o = decide (B64 ≤ dv D q (run isDg D q))) := by have := hst.out.ovf; rw [HT.out] at this; exact this
                have HNM : Hid (dv D q (run isDg D q) % B64 = N) := by have := hst.out.num; rw [HT.out] at this; exact this
                clear hst ht
                by_cases hend : q + t < n
                · have hlt2 : q + t < D.length := by have := HL.out; omega
                  have hc2 := HR.out (q + t) hlt2
                  have HP2 : Hid (peekB D (q + run isDg D q) = D[q + t]) := by show _ = _; rw [← HT.out]; exact peekB_in hlt2
                  have HDY : Hid (isDg D[q + t] = false) := run_stop isDg t D q HT.out.symm hlt2
                  generalize D[q + t] = y at hc2 HP2 HDY
                  have hji : (q : Int) + (t : Int) < (n : Int) := by omega
                  clear hlt2
                  cases o with
                  | true =>
                    go_wp2_with fail
                    refine (digit13 y _ false HDY.out).mono ?_
                    rintro e w1 ⟨rfl, rfl⟩
                    go_wp2
                    go_ret3
                    rw [← HS.out]
                    exact ⟨0, 0, false, rfl, rfl, up_nz_over H48.out (of_decide_eq_true HOV.out.symm)⟩
                  | false =>
                    by_cases h46 : y.toNat = 46
                    · have c46 : ((y.toNat : Int) == 46) = true := beq_of' h46
                      have HY : Hid (y.toNat = 46) := h46
                      clear h46
                      go_wp2_with fail
                      refine (digit13 y _ false HDY.out).mono ?_
                      rintro e w1 ⟨rfl, rfl⟩
                      go_wp2
                      go_ret3
                      rw [← HS.out]
                      exact ⟨0, 0, false, rfl, rfl, up_nz_bad H48.out (by rw [HP2.out]; exact .inl (decide_eq_true HY.out))⟩
                    · have c46 : ((y.toNat : Int) == 46) = false := beq_ne' h46
                      by_cases h101 : y.toNat = 101
                      · have c101 : ((y.toNat : Int) == 101) = true := beq_of' h101
                        have HY : Hid (y.toNat = 101) := h101
                        clear h101
                        go_wp2_with fail
                        refine (digit13 y _ false HDY.out).mono ?_
                        rintro e w1 ⟨rfl, rfl⟩
                        go_wp2
                        go_ret3
                        rw [← HS.out]
                        exact ⟨0, 0, false, rfl, rfl, up_nz_bad H48.out (by rw [HP2.out]; exact .inr (decide_eq_true (.inl HY.out)))⟩
                      · have c101 : ((y.toNat : Int) == 101) = false := beq_ne' h101
                        by_cases h69 : y.toNat = 69
                        · have c69 : ((y.toNat : Int) == 69) = true := beq_of' h69
                          have HY : Hid (y.toNat = 69) := h69
                          clear h69
                          go_wp2_with fail
                          refine (digit13 y _ false HDY.out).mono ?_
                          rintro e w1 ⟨rfl, rfl⟩
                          go_wp2
                          go_ret3
                          rw [← HS.out]
                          exact ⟨0, 0, false, rfl, rfl, up_nz_bad H48.out (by rw [HP2.out]; exact .inr (decide_eq_true (.inr HY.out)))⟩
                        · have c69 : ((y.toNat : Int) == 69) = false := beq_ne' h69
                          have HYN : Hid (dotQ y = false ∧ eQ y = false) := ⟨decide_eq_false h46, decide_eq_false (fun h => h.elim h101 h69)⟩
                          clear h46 h101 h69
                          go_wp2_with fail
                          refine (digit13 y _ false HDY.out).mono ?_
                          rintro e w1 ⟨rfl, rfl⟩
                          go_wp2
                          go_ret3
                          rw [← HS.out]
                          have hlt3 : dv D q (run isDg D q) < B64 := by have := of_decide_eq_false HOV.out.symm; omega
                          refine ⟨dv D q (run isDg D q), q + run isDg D q, true, ?_, rfl, up_nz_good H0.out H48.out hlt3 ?_ ?_⟩
                          · have e1 := HNM.out
                            rw [Nat.mod_eq_of_lt hlt3] at e1
                            rw [e1, ← HT.out, Int.natCast_add]
                            rfl
                          · rw [HP2.out]; exact HYN.out.1
                          · rw [HP2.out]; exact HYN.out.2
                · have hji : ¬ (q : Int) + (t : Int) < (n : Int) := by omega
                  cases o with
                  | true =>
                    go_wp2
                    go_ret3
                    rw [← HS.out]
                    exact ⟨0, 0, false, rfl, rfl, up_nz_over H48.out (of_decide_eq_true HOV.out.symm)⟩
                  | false =>
                    go_wp2
                    go_ret3
                    rw [← HS.out]
                    have hlt3 : dv D q (run isDg D q) < B64 := by have := of_decide_eq_false HOV.out.symm; omega
                    have hz : peekB D (q + run isDg D q) = 0 := peekB_out (by have := HL.out; have := HT.out; omega)
                    refine ⟨dv D q (run isDg D q), q + run isDg D q, true, ?_, rfl, up_nz_good H0.out H48.out hlt3 ?_ ?_⟩
                    · have e1 := HNM.out
                      rw [Nat.mod_eq_of_lt hlt3] at e1
                      rw [e1, ← HT.out, Int.natCast_add]
                      rfl
                    · rw [hz]; rfl
                    · rw [hz]; rfl
    · have HE : Hid (q = m) := by
        have e1 := hm.out
        have e2 := HL.out
        rw [run_end (by omega)] at e1
        show _ = _
        omega
      have hi : ¬ (q : Int) < (n : Int) := by omega
      go_wp2
      go_ret3
      rw [← HE.out]
      exact ⟨0, 0, false, rfl, rfl, up_nodigit (by rw [peekB_out (by have := HL.out; omega)]; rfl)⟩
end Go.Proofs.YbulkhreFmt
