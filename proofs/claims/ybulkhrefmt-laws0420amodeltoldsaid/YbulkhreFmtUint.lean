/-
  Seat b0420aF: Uint, walked.
-/
import Derived.Test.YbulkhreFmtNumber
import Derived.Test.YbulkhreFmtUnum
namespace Go.Proofs.YbulkhreFmt
open Go Go.RowKit Go.Extern.Stop Go.Stop Go.Extern

/-- The end that every way of Uint comes to. -/
def UEnd (w w' : World) (R g n cap : Nat) (D : List UInt8) (i : Nat) (e : Ending) : Prop :=
  ∃ val k' v ok, e = .returned (.int .u64 (val : Nat)) ∧ w.grownBy w' (some R) ∧ Rd w' R g n cap D k' v ∧ ErrIs ok v ∧ UPost D i val k' ok

/-- The byte opens no number. -/
def badC (c : UInt8) : Bool := decide (c.toNat ≠ 45 ∧ isDg c = false)
theorem badC_no {c : UInt8} (h : c.toNat = 45 ∨ isDg c = true) : badC c = false := decide_eq_false fun ⟨a, b⟩ => by
  rcases h with h | h
  · exact a h
  · rw [b] at h; cases h
theorem badC_yes {c : UInt8} (h : c.toNat ≠ 45) (h2 : isDg c = false) : badC c = true := decide_eq_true ⟨h, h2⟩

set_option maxRecDepth 100000 in
set_option maxHeartbeats 4000000 in
theorem uint6 (F : Interp) (R g n cap : Nat) (D : List UInt8) (w : World) (h : Rd w R g n cap D 0 .nilIface) (hn : n ≤ 4096) (hcap : n ≤ cap) (hF : F.answers w.tape) :
    Calls Ybaf.prog 6 #[.pointer (some ⟨R, 0, none⟩)] w fun e w' => UEnd w w' R g n cap D (run isSp D 0) e := by
  have HL : Hid (D.length = n) := h.len
  have HF : Hid (F.answers w.tape) := hF
  clear hF
  have hi : run isSp D 0 ≤ n := by have := run_le isSp D 0; have := HL.out; omega
  have P := peek8 R g n cap D 0 w h (by omega) hn
  rw [Nat.zero_add] at P
  generalize run isSp D 0 = i at *
  have PP : Hid (Calls Ybaf.prog 8 #[.pointer (some ⟨R, 0, none⟩)] w fun e w' => e = .returned (.int .u8 ((peekB D i).toNat : Int)) ∧ Rd w' R g n cap D i .nilIface ∧ w.grownBy w' (some R)) := P
  clear P h
  go_enter Ybaf.func6, Ybaf.ntmps6
  go_wp2_with fail
  refine Calls.mono PP.out ?_
  rintro e w1 ⟨rfl, r1, g1⟩
  clear PP
  have HF1 : Hid (F.answers w1.tape) := by show F.answers w1.tape; rw [g1.tape]; exact HF.out
  obtain ⟨c, HC⟩ : ∃ c, Hid (peekB D i = c) := ⟨_, rfl⟩
  rw [HC.out]
  go_upto_region 2 with fail
  go_cut [17] (fun s17 wx => s17 = .bool (badC c) ∧ w1 = wx)
  case first =>
    as_aux_lemma =>
      by_cases h45 : c.toNat = 45
      · have b1 : ((c.toNat : Int) != 45) = false := by rw [bne_eq_false_iff_eq]; omega
        go_wp2
        go_meet
        exact ⟨congrArg Value.bool (badC_no (.inl h45)).symm, rfl⟩
      · have b1 : ((c.toNat : Int) != 45) = true := by rw [bne_iff_ne]; omega
        cases hd : isDg c with
        | false =>
          have HD : Hid (isDg c = false) := hd
          clear hd
          go_wp2_with fail
          refine (digit9' c _ false HD.out).mono ?_
          rintro e w2 ⟨rfl, rfl⟩
          go_wp2
          go_meet
          exact ⟨congrArg Value.bool (badC_yes h45 HD.out).symm, rfl⟩
        | true =>
          have HD : Hid (isDg c = true) := hd
          clear hd
          go_wp2_with fail
          refine (digit9' c _ true HD.out).mono ?_
          rintro e w2 ⟨rfl, rfl⟩
          go_wp2
          go_meet
          exact ⟨congrArg Value.bool (badC_no (.inr HD.out)).symm, rfl⟩
  case rest =>
    obtain ⟨rfl, rfl⟩ := hcut
    cases hb : badC c with
    | true =>
      have HB : Hid (badC c = true) := hb
      clear hb
      go_wp2_with fail
      refine (fail10 F _ R g n cap D _ _ r1 HF1.out).mono ?_
      rintro e w3 ⟨rfl, ⟨a, r3⟩, g3⟩
      go_wp2
      go_ret
      exact ⟨0, _, _, false, rfl, gb_trans g1 g3, r3, .inr ⟨rfl, a, rfl⟩, up_nodigit (by rw [HC.out]; exact (of_decide_eq_true HB.out).2)⟩
    | false =>
      have HB : Hid (badC c = false) := hb
      clear hb
      have hlt : i < n := by
        rcases Nat.lt_or_ge i n with a | a
        · exact a
        · have e := HC.out
          rw [peekB_out (by have := HL.out; omega)] at e
          subst e
          have := HB.out
          cases this
      have c1 := r1.c1
      go_wp2_with fail
      refine (number11 F R g n cap D i _ r1 hlt hn HF1.out).mono ?_
      rintro e w3 ⟨rfl, g3, k3, v3, ok, r3, he3, np⟩
      have g3' := gb_trans g1 g3
      have HF3 : Hid (F.answers w3.tape) := by show F.answers w3.tape; rw [g3.tape]; exact HF1.out
      clear c1 r1 g1 HF1 g3
      have q3 := r3.c3
      have hk3 : k3 ≤ n := np.le
      have NP : Hid (NumPost D n i k3 ok) := np
      clear np
      rcases he3 with ⟨rfl, rfl⟩ | ⟨rfl, a, rfl⟩
      rotate_left
      · go_wp2
        go_ret
        exact ⟨0, _, _, false, rfl, g3', r3, .inr ⟨rfl, a, rfl⟩, up_numfail NP.out⟩
      have q0 := r3.c0
      have q1 := r3.c1
      have hgt : i < k3 := NP.out.gt rfl
      have hi1 : (i : Int) ≤ (k3 : Int) := by omega
      have hi2 : (k3 : Int) ≤ (cap : Int) := by omega
      go_wp2
      go_quiet (fail)
      have r4 := r3.drewN nq
      have g4 := gb_drewN g3' nq
      have HF4 : Hid (F.answers (w3.drewN nq).tape) := HF3
      clear r3 g3' HF3 q3 q0 q1 hi1 hi2
      generalize w3.drewN nq = w4 at *
      go_wp2
      go_loop [5, 42] (fun nv ix => ∃ q : Nat, q ≤ k3 - i ∧ ix = .int .i64 q ∧ nv = .int .u64 (dv D i q : Nat) ∧ Hid (dv D i q < B64) ∧ Hid (∀ j, j < q → isDg (peekB D (i + j)) = true)) (fun _ ix => k3 - i - (intOf ix).toNat)
      case atStart => exact ⟨0, by omega, rfl, rfl, (by show 0 < B64; unfold B64; omega), fun j hj => absurd hj (by omega)⟩
      case round =>
        obtain ⟨q, hq, rfl, rfl, hv, hall⟩ := hrel
        by_cases hlq : q < k3 - i
        · have hlt' : i + q < D.length := by have := HL.out; omega
          have hc := r4.row (i + q) hlt'
          have HP : Hid (peekB D (i + q) = D[i + q]) := peekB_in hlt'
          generalize D[i + q] = x at hc HP
          clear hlt'
          obtain ⟨N, HN⟩ : ∃ N, Hid (dv D i q = N) := ⟨_, rfl⟩
          have hNb : N < 18446744073709551616 := by have := hv.out; rw [HN.out] at this; exact this
          rw [HN.out]
          cases hd : isDg x with
          | false =>
            have HD : Hid (isDg x = false) := hd
            clear hd
            go_wp2_with fail
            refine (digit9' x _ false HD.out).mono ?_
            rintro e w5 ⟨rfl, rfl⟩
            go_wp2_with fail
            refine (fail10 F _ R g n cap D _ _ r4 HF4.out).mono ?_
            rintro e w6 ⟨rfl, ⟨a, r6⟩, g6⟩
            go_wp2
            go_ret
            exact ⟨0, _, _, false, rfl, gb_trans g4 g6, r6, .inr ⟨rfl, a, rfl⟩, up_meets (q := q) NP.out (by omega) (by rw [HP.out]; exact HD.out)⟩
          | true =>
            have HD : Hid (isDg x = true) := hd
            obtain ⟨hx1, hx2⟩ := of_decide_eq_true hd
            clear hd
            have HS : Hid (dv D i (q + 1) = N * 10 + (x.toNat - 48)) := by show _ = _; rw [dv_succ, HN.out, HP.out]
            by_cases hov : (N : Int) ≤ (18446744073709551615 - ((x.toNat : Int) - 48)) / 10
            · have HB2 : Hid (dv D i (q + 1) < B64) := by show _ < _; rw [HS.out]; unfold B64; omega
              have HA2 : Hid (∀ j, j < q + 1 → isDg (peekB D (i + j)) = true) := fun j hj => by
                by_cases e : j = q
                · subst e; rw [HP.out]; exact HD.out
                · exact hall.out j (by omega)
              go_wp2_with fail
              refine (digit9' x _ true HD.out).mono ?_
              rintro e w5 ⟨rfl, rfl⟩
              go_wp2
              go_round
              case rel => exact ⟨q + 1, by omega, by go_num, (by rw [HS.out]; go_num), HB2, HA2⟩
              case measure => simp [intOf]; omega
            · have HB2 : Hid (B64 ≤ dv D i (q + 1)) := by show _ ≤ _; rw [HS.out]; unfold B64; omega
              go_wp2_with fail
              refine (digit9' x _ true HD.out).mono ?_
              rintro e w5 ⟨rfl, rfl⟩
              go_wp2_with fail
              refine (fail10 F _ R g n cap D _ _ r4 HF4.out).mono ?_
              rintro e w6 ⟨rfl, ⟨a, r6⟩, g6⟩
              go_wp2
              go_ret
              exact ⟨0, _, _, false, rfl, gb_trans g4 g6, r6, .inr ⟨rfl, a, rfl⟩, up_over (q := q) NP.out (by omega) HB2.out⟩
        · obtain rfl : q = k3 - i := by omega
          go_wp2
          go_ret
          exact ⟨dv D i (k3 - i), k3, _, true, rfl, g4, r4, .inl ⟨rfl, rfl⟩, up_good NP.out (fun j hj => hall.out j (by omega)) hv.out⟩
end Go.Proofs.YbulkhreFmt
