/-
  Seat b0425a: balance, walked.
-/
import Derived.Test.YbulkhtwNode
namespace Go.Proofs.Ybulkhtw
open Go Go.RowKit

/-- How many splits are allowed. -/
def tries (q : Bool) (n : Nat) : Nat := if q then n - 1 else n - 2

set_option maxHeartbeats 1000000 in
theorem balance5 {R Fb A n hdr : Nat} {kind : Int} {S : List UInt8} (w : World) (h : Nd w R Fb A n hdr kind S) (hn : n ≤ 256) (hh : hdr ≤ 8) (q : Bool) (hq : (kind == 1) = q) :
    Calls Yba.prog 5 #[.pointer (some ⟨R, 0, none⟩)] w fun e w' => e = .returned (.tuple #[.int .i64 (bst q S n (tries q n)).1, .int .i64 (bst q S n (tries q n)).2]) ∧ ∃ m, w' = w.drewN m := by
  have HN : Hid (Nd w R Fb A n hdr kind S) := h
  have c2 := h.c2
  have HQ : Hid ((kind == 1) = q) := hq
  clear hq h
  have e0 : ((hdr + pre S 0 : Nat) : Int) = (hdr : Int) := by simp [pre]
  have P0 := start6 w HN.out hn hh 0 (by omega) 0 rfl
  rw [e0] at P0
  have PP0 : Hid (Calls Yba.prog 6 #[.pointer (some ⟨R, 0, none⟩), .int .i64 0] w fun e w' => e = .returned (.int .i64 (hdr : Int)) ∧ w' = w) := P0
  clear P0 e0
  have ec : ((hdr + pre S n : Nat) : Int) = (hdr : Int) + (pre S n : Int) := by omega
  rw [ec] at c2
  clear ec
  have hpn : pre S n ≤ 65280 := by have := pre_le S n; omega
  obtain ⟨pn, HPN⟩ : ∃ pn, Hid (pre S n = pn) := ⟨_, rfl⟩
  rw [HPN.out] at c2 hpn
  go_enter Yba.func5, Yba.ntmps5
  go_wp2_with fail
  refine Calls.mono PP0.out ?_
  rintro e w1 ⟨rfl, hw⟩
  rw [hw]
  clear hw w1 PP0
  go_wp2_with fail
  refine (count7 _ HN.out).mono ?_
  rintro e w1 ⟨rfl, hw⟩
  rw [hw]
  clear hw w1
  go_wp2_with fail
  refine (leaf8 _ HN.out q HQ.out).mono ?_
  rintro e w1 ⟨rfl, hw⟩
  rw [hw]
  clear hw w1
  cases q with
  | true =>
    go_wp2
    go_loopw [7, 8, 9] (fun b s m wr => ∃ (k d : Nat), k ≤ n - 1 ∧ m = .int .i64 ((k : Int) + 1) ∧ b = .int .i64 (bst true S n k).1 ∧ s = .int .i64 (bst true S n k).2 ∧ Hid (wr = w.drewN d)) (fun _ _ m _ => n - (intOf m).toNat)
    case atStart => exact ⟨0, 0, by omega, rfl, rfl, rfl, rfl⟩
    case round =>
      obtain ⟨k, d, hk, rfl, rfl, rfl, hwr⟩ := hrel
      by_cases hlt : k < n - 1
      · have hlt2 : (k : Int) + 1 ≤ (n : Int) - 1 := by omega
        obtain ⟨B1, HB1⟩ : ∃ b, Hid ((bst true S n k).1 = b) := ⟨_, rfl⟩
        obtain ⟨B2, HB2⟩ : ∃ b, Hid ((bst true S n k).2 = b) := ⟨_, rfl⟩
        rw [HB1.out, HB2.out]
        have ND : Hid (Nd wr R Fb A n hdr kind S) := by show Nd wr R Fb A n hdr kind S; rw [hwr.out]; exact HN.out.drewN d
        obtain ⟨pm, HPM⟩ : ∃ p, Hid (pre S (k + 1) = p) := ⟨_, rfl⟩
        have hpm : pm ≤ 65280 := by have := HPM.out; have := pre_le S (k + 1); omega
        have P1 := start6 wr ND.out hn hh (k + 1) (by omega) ((k : Int) + 1) (by omega)
        rw [HPM.out, Int.natCast_add] at P1
        have PP1 : Hid (Calls Yba.prog 6 #[.pointer (some ⟨R, 0, none⟩), .int .i64 ((k : Int) + 1)] wr fun e w' => e = .returned (.int .i64 ((hdr : Int) + (pm : Int))) ∧ w' = wr) := P1
        clear P1
        go_wp2_with fail
        refine Calls.mono PP1.out ?_
        rintro e w1 ⟨rfl, hw⟩
        rw [hw]
        clear hw w1 PP1
        go_wp2_with fail
        refine (leaf8 _ ND.out true HQ.out).mono ?_
        rintro e w1 ⟨rfl, hw⟩
        rw [hw]
        clear hw w1
        have CE : Hid ((if (hdr : Int) + (pm : Int) - (hdr : Int) < (hdr : Int) + (pn : Int) - (hdr : Int) - ((hdr : Int) + (pm : Int) - (hdr : Int)) then (hdr : Int) + (pn : Int) - (hdr : Int) - ((hdr : Int) + (pm : Int) - (hdr : Int)) else (hdr : Int) + (pm : Int) - (hdr : Int)) = cost true S n (k + 1)) := by
          show _ = _
          unfold cost rest
          rw [HPM.out, HPN.out]
          simp only [if_true]
          split <;> split <;> omega
        have HT : Hid (B2 < 0 ∨ cost true S n (k + 1) < B2 → bst true S n (k + 1) = (((k + 1 : Nat) : Int), cost true S n (k + 1))) := fun hc => bst_take (by rw [HB2.out]; exact hc)
        have HKp : Hid (¬ (B2 < 0 ∨ cost true S n (k + 1) < B2) → bst true S n (k + 1) = (B1, B2)) := fun hc => by
          rw [bst_keep (by rw [HB2.out]; exact hc), ← HB1.out, ← HB2.out]
        go_wp2
        · have hc : B2 < 0 ∨ (if (hdr : Int) + (pm : Int) - (hdr : Int) < (hdr : Int) + (pn : Int) - (hdr : Int) - ((hdr : Int) + (pm : Int) - (hdr : Int)) then (hdr : Int) + (pn : Int) - (hdr : Int) - ((hdr : Int) + (pm : Int) - (hdr : Int)) else (hdr : Int) + (pm : Int) - (hdr : Int)) < B2 := by assumption
          rw [CE.out] at hc
          have e := HT.out hc
          go_roundw
          case rel => exact ⟨k + 1, d, by omega, by go_num, by rw [e]; go_num, by rw [e, CE.out], hwr⟩
          case measure => simp [intOf]; omega
        · have hc : 0 ≤ B2 ∧ B2 ≤ (if (hdr : Int) + (pm : Int) - (hdr : Int) < (hdr : Int) + (pn : Int) - (hdr : Int) - ((hdr : Int) + (pm : Int) - (hdr : Int)) then (hdr : Int) + (pn : Int) - (hdr : Int) - ((hdr : Int) + (pm : Int) - (hdr : Int)) else (hdr : Int) + (pm : Int) - (hdr : Int)) := by assumption
          rw [CE.out] at hc
          have e := HKp.out (by omega)
          go_roundw
          case rel => exact ⟨k + 1, d, by omega, by go_num, by rw [e], by rw [e], hwr⟩
          case measure => simp [intOf]; omega
        · have hc : ¬ 0 ≤ B2 := by assumption
          have e := HT.out (.inl (by omega))
          go_roundw
          case rel => exact ⟨k + 1, d, by omega, by go_num, by rw [e]; go_num, by rw [e, CE.out], hwr⟩
          case measure => simp [intOf]; omega
      · obtain rfl : k = n - 1 := by omega
        have hlt2 : ¬ (((n - 1 : Nat) : Int) + 1 ≤ (n : Int) - 1) := by omega
        go_wp2
        go_ret2
        exact ⟨rfl, d, hwr.out⟩
  | false =>
    go_wp2
    go_loopw [7, 8, 9] (fun b s m wr => ∃ (k d : Nat), k ≤ n - 2 ∧ m = .int .i64 ((k : Int) + 1) ∧ b = .int .i64 (bst false S n k).1 ∧ s = .int .i64 (bst false S n k).2 ∧ Hid (wr = w.drewN d)) (fun _ _ m _ => n - (intOf m).toNat)
    case atStart => exact ⟨0, 0, by omega, rfl, rfl, rfl, rfl⟩
    case round =>
      obtain ⟨k, d, hk, rfl, rfl, rfl, hwr⟩ := hrel
      by_cases hlt : k < n - 2
      · have hlt2 : (k : Int) + 1 ≤ (n : Int) - 1 - 1 := by omega
        obtain ⟨B1, HB1⟩ : ∃ b, Hid ((bst false S n k).1 = b) := ⟨_, rfl⟩
        obtain ⟨B2, HB2⟩ : ∃ b, Hid ((bst false S n k).2 = b) := ⟨_, rfl⟩
        rw [HB1.out, HB2.out]
        have ND : Hid (Nd wr R Fb A n hdr kind S) := by show Nd wr R Fb A n hdr kind S; rw [hwr.out]; exact HN.out.drewN d
        obtain ⟨pm, HPM⟩ : ∃ p, Hid (pre S (k + 1) = p) := ⟨_, rfl⟩
        have hpm : pm ≤ 65280 := by have := HPM.out; have := pre_le S (k + 1); omega
        have P1 := start6 wr ND.out hn hh (k + 1) (by omega) ((k : Int) + 1) (by omega)
        rw [HPM.out, Int.natCast_add] at P1
        have PP1 : Hid (Calls Yba.prog 6 #[.pointer (some ⟨R, 0, none⟩), .int .i64 ((k : Int) + 1)] wr fun e w' => e = .returned (.int .i64 ((hdr : Int) + (pm : Int))) ∧ w' = wr) := P1
        clear P1
        go_wp2_with fail
        refine Calls.mono PP1.out ?_
        rintro e w1 ⟨rfl, hw⟩
        rw [hw]
        clear hw w1 PP1
        go_wp2_with fail
        refine (leaf8 _ ND.out false HQ.out).mono ?_
        rintro e w1 ⟨rfl, hw⟩
        rw [hw]
        clear hw w1
        obtain ⟨sm, HSM⟩ : ∃ p, Hid (sz S (k + 1) = p) := ⟨_, rfl⟩
        have hsm : sm ≤ 255 := by have := HSM.out; have := sz_le S (k + 1); omega
        have P2 := size9 wr ND.out hn hh (k + 1) (by omega)
        rw [HSM.out, Int.natCast_add] at P2
        have PP2 : Hid (Calls Yba.prog 9 #[.pointer (some ⟨R, 0, none⟩), .int .i64 ((k : Int) + 1)] wr fun e w' => e = .returned (.int .i64 (sm : Int)) ∧ ∃ m, w' = wr.drewN m) := P2
        clear P2
        go_wp2_with fail
        refine Calls.mono PP2.out ?_
        rintro e w1 ⟨rfl, d2, hw⟩
        have hw1 : Hid (w1 = w.drewN (d + d2)) := by show _ = _; rw [hw, hwr.out]; simp [World.drewN, Nat.add_assoc]
        clear hw PP2
        have CE : Hid ((if (hdr : Int) + (pm : Int) - (hdr : Int) < (hdr : Int) + (pn : Int) - (hdr : Int) - ((hdr : Int) + (pm : Int) - (hdr : Int)) - (sm : Int) then (hdr : Int) + (pn : Int) - (hdr : Int) - ((hdr : Int) + (pm : Int) - (hdr : Int)) - (sm : Int) else (hdr : Int) + (pm : Int) - (hdr : Int)) = cost false S n (k + 1)) := by
          show _ = _
          unfold cost rest
          rw [HPM.out, HPN.out, HSM.out]
          simp only [Bool.false_eq_true, if_false]
          split <;> split <;> omega
        have HT : Hid (B2 < 0 ∨ cost false S n (k + 1) < B2 → bst false S n (k + 1) = (((k + 1 : Nat) : Int), cost false S n (k + 1))) := fun hc => bst_take (by rw [HB2.out]; exact hc)
        have HKp : Hid (¬ (B2 < 0 ∨ cost false S n (k + 1) < B2) → bst false S n (k + 1) = (B1, B2)) := fun hc => by
          rw [bst_keep (by rw [HB2.out]; exact hc), ← HB1.out, ← HB2.out]
        go_wp2
        · have hc : B2 < 0 ∨ (if (hdr : Int) + (pm : Int) - (hdr : Int) < (hdr : Int) + (pn : Int) - (hdr : Int) - ((hdr : Int) + (pm : Int) - (hdr : Int)) - (sm : Int) then (hdr : Int) + (pn : Int) - (hdr : Int) - ((hdr : Int) + (pm : Int) - (hdr : Int)) - (sm : Int) else (hdr : Int) + (pm : Int) - (hdr : Int)) < B2 := by assumption
          rw [CE.out] at hc
          have e := HT.out hc
          go_roundw
          case rel => exact ⟨k + 1, d + d2, by omega, by go_num, by rw [e]; go_num, by rw [e, CE.out], hw1⟩
          case measure => simp [intOf]; omega
        · have hc : 0 ≤ B2 ∧ B2 ≤ (if (hdr : Int) + (pm : Int) - (hdr : Int) < (hdr : Int) + (pn : Int) - (hdr : Int) - ((hdr : Int) + (pm : Int) - (hdr : Int)) - (sm : Int) then (hdr : Int) + (pn : Int) - (hdr : Int) - ((hdr : Int) + (pm : Int) - (hdr : Int)) - (sm : Int) else (hdr : Int) + (pm : Int) - (hdr : Int)) := by assumption
          rw [CE.out] at hc
          have e := HKp.out (by omega)
          go_roundw
          case rel => exact ⟨k + 1, d + d2, by omega, by go_num, by rw [e], by rw [e], hw1⟩
          case measure => simp [intOf]; omega
        · have hc : ¬ 0 ≤ B2 := by assumption
          have e := HT.out (.inl (by omega))
          go_roundw
          case rel => exact ⟨k + 1, d + d2, by omega, by go_num, by rw [e]; go_num, by rw [e, CE.out], hw1⟩
          case measure => simp [intOf]; omega
      · obtain rfl : k = n - 2 := by omega
        have hlt2 : ¬ (((n - 2 : Nat) : Int) + 1 ≤ (n : Int) - 1 - 1) := by omega
        go_wp2
        go_ret2
        exact ⟨rfl, d, hwr.out⟩
end Go.Proofs.Ybulkhtw
