/-
  Seat b0425a: the walk of LawS0425BExact.
-/
import Derived.Test.YbulkhtwBalance
import Derived.Test.YbulkhtwMake
namespace Go.Proofs.Ybulkhtw
open Go Go.RowKit

theorem law_long (q : Bool) (ao : Option Addr) (n cap : Nat) (w : World) (hn : 256 < n) (hm : n ≤ maxLen) :
    Calls Yba.prog 3 #[.bool q, .slice ao n cap] w fun e w' => e = .returned (.bool true) ∧ Below w.heap.size w w' := by
  unfold maxLen at hm
  go_enter Yba.func3, Yba.ntmps3
  go_wp2
  go_ret
  exact ⟨rfl, Below.refl _ _⟩

set_option maxRecDepth 100000 in
set_option maxHeartbeats 2000000 in
theorem law_main (q : Bool) (ao : Option Addr) (n cap : Nat) (S : List UInt8) (w : World) (hn : n ≤ 256) (hS : S.length = n) (hsrc : Src w ao S) :
    Calls Yba.prog 3 #[.bool q, .slice ao n cap] w fun e w' => e = .returned (.bool true) ∧ Below w.heap.size w w' := by
  have HS : Hid (S.length = n) := hS
  have HSR : Hid (Src w ao S) := hsrc
  clear hS hsrc
  cases q with
  | true =>
    have N4 := node4 true ao n cap S w hn HS.out HSR.out
    have NN4 : Hid (Calls Yba.prog 4 #[.bool true, .slice ao n cap] w fun e w' => NodeEnd w w' 4 1 n S e) := N4
    clear N4
    go_enter Yba.func3, Yba.ntmps3
    go_wp2_with fail
    refine Calls.mono NN4.out ?_
    rintro e w1 ⟨R, Fb, A, rfl, nd, bel1⟩
    clear NN4
    have B5 := balance5 w1 nd hn (by omega) true (by decide)
    have e5 : tries true n = n - 1 := rfl
    rw [e5] at B5
    obtain ⟨M1, HM1⟩ : ∃ x, Hid ((bst true S n (n - 1)).1 = x) := ⟨_, rfl⟩
    obtain ⟨M2, HM2⟩ : ∃ x, Hid ((bst true S n (n - 1)).2 = x) := ⟨_, rfl⟩
    rw [HM1.out, HM2.out] at B5
    have BB5 : Hid (Calls Yba.prog 5 #[.pointer (some ⟨R, 0, none⟩)] w1 fun e w' => e = .returned (.tuple #[.int .i64 M1, .int .i64 M2]) ∧ ∃ m, w' = w1.drewN m) := B5
    clear B5 e5 nd
    go_wp2_with fail
    refine Calls.mono BB5.out ?_
    rintro e w2 ⟨rfl, d2, hw2⟩
    have bel2 : Below w.heap.size w w2 := by rw [hw2]; exact ⟨bel1.os, bel1.tape, bel1.output, bel1.size, bel1.block⟩
    clear BB5 hw2 bel1
    go_wp2
    go_loop [8, 31] (fun t i => ∃ k : Nat, k ≤ n ∧ i = .int .i64 k ∧ t = .int .i64 (pre S k : Nat)) (fun _ i => n - (intOf i).toNat)
    case atStart => exact ⟨0, by omega, rfl, rfl⟩
    case round =>
      obtain ⟨k, hk, rfl, rfl⟩ := hrel
      by_cases hlt : k < n
      · obtain ⟨b, off, hao, hb, hcell⟩ := HSR.out (by have := HS.out; omega)
        subst hao
        have hc := (bel2.cell (p := ⟨b, off + k, none⟩) hb).trans (hcell k (by have := HS.out; omega))
        have hs := sz_le S k
        have hpk := pre_le S k
        have HPS : Hid (pre S (k + 1) = pre S k + sz S k) := pre_succ S k
        generalize sz S k = s at hc hs HPS
        obtain ⟨P, HP⟩ : ∃ P, Hid (pre S k = P) := ⟨_, rfl⟩
        have hPb : P ≤ 65280 := by have := HP.out; omega
        rw [HP.out] at HPS
        rw [HP.out]
        clear hcell hpk
        go_wp2
        go_round
        case rel => exact ⟨k + 1, by omega, by go_num, by rw [HPS.out]; go_num⟩
        case measure => simp [intOf]; omega
      · obtain rfl : k = n := by omega
        have hpn0 := pre_le S k
        obtain ⟨pn, HPN⟩ : ∃ pn, Hid (pre S k = pn) := ⟨_, rfl⟩
        have hpn : pn ≤ 65280 := by have := HPN.out; omega
        rw [HPN.out]
        clear hpn0
        go_wp2
        go_loop [12, 13, 14, 15] (fun wm wl bf kv => ∃ t : Nat, t ≤ k - 1 ∧ kv = .int .i64 ((t : Int) + 1) ∧ bf = .int .i64 (pre S t : Nat) ∧ wm = .int .i64 (bst true S k t).1 ∧ wl = .int .i64 (bst true S k t).2) (fun _ _ _ kv => k - (intOf kv).toNat)
        case atStart => exact ⟨0, by omega, rfl, rfl, rfl, rfl⟩
        case round =>
          obtain ⟨t, ht, rfl, rfl, rfl, rfl⟩ := hrel
          by_cases hlt2 : t < k - 1
          · have hi1 : (t : Int) + 1 ≤ (k : Int) - 1 := by omega
            obtain ⟨b, off, hao, hb, hcell⟩ := HSR.out (by have := HS.out; omega)
            subst hao
            have hc := (bel2.cell (p := ⟨b, off + t, none⟩) hb).trans (hcell t (by have := HS.out; omega))
            have hs := sz_le S t
            have hpt := pre_le S t
            have HPS : Hid (pre S (t + 1) = pre S t + sz S t) := pre_succ S t
            generalize sz S t = s at hc hs HPS
            obtain ⟨P, HP⟩ : ∃ P, Hid (pre S t = P) := ⟨_, rfl⟩
            have hPb : P ≤ 65280 := by have := HP.out; omega
            rw [HP.out] at HPS
            rw [HP.out]
            obtain ⟨B1, HB1⟩ : ∃ b, Hid ((bst true S k t).1 = b) := ⟨_, rfl⟩
            obtain ⟨B2, HB2⟩ : ∃ b, Hid ((bst true S k t).2 = b) := ⟨_, rfl⟩
            rw [HB1.out, HB2.out]
            have HT : Hid (B2 < 0 ∨ cost true S k (t + 1) < B2 → bst true S k (t + 1) = (((t + 1 : Nat) : Int), cost true S k (t + 1))) := fun hc => bst_take (by rw [HB2.out]; exact hc)
            have HKp : Hid (¬ (B2 < 0 ∨ cost true S k (t + 1) < B2) → bst true S k (t + 1) = (B1, B2)) := fun hc => by
              rw [bst_keep (by rw [HB2.out]; exact hc), ← HB1.out, ← HB2.out]
            have CE : Hid (cost true S k (t + 1) = if (pn : Int) - ((P : Int) + (s : Int)) > (P : Int) + (s : Int) then (pn : Int) - ((P : Int) + (s : Int)) else (P : Int) + (s : Int)) := by
              show _ = _
              unfold cost rest
              rw [HPS.out, HPN.out]
              simp only [if_true]
              split <;> split <;> omega
            clear hcell hpt
            have hi2 : (t : Int) < (k : Int) := by omega
            by_cases hr : (P : Int) + (s : Int) < (pn : Int) - ((P : Int) + (s : Int))
            · have CE2 : Hid (cost true S k (t + 1) = (pn : Int) - ((P : Int) + (s : Int))) := by show _ = _; rw [CE.out, if_pos hr]
              by_cases h2 : B2 < 0
              · have HE := HT.out (.inl h2)
                have HE2 : Hid (bst true S k (t + 1) = (((t + 1 : Nat) : Int), cost true S k (t + 1))) := HE
                clear HE
                go_wp2
                go_round
                case rel => exact ⟨t + 1, by omega, by go_num, by rw [HPS.out]; go_num, by rw [HE2.out]; go_num, by rw [HE2.out, CE2.out]⟩
                case measure => simp [intOf]; omega
              · by_cases h3 : (pn : Int) - ((P : Int) + (s : Int)) < B2
                · have HE2 : Hid (bst true S k (t + 1) = (((t + 1 : Nat) : Int), cost true S k (t + 1))) := HT.out (.inr (by rw [CE2.out]; exact h3))
                  go_wp2
                  go_round
                  case rel => exact ⟨t + 1, by omega, by go_num, by rw [HPS.out]; go_num, by rw [HE2.out]; go_num, by rw [HE2.out, CE2.out]⟩
                  case measure => simp [intOf]; omega
                · have HE2 : Hid (bst true S k (t + 1) = (B1, B2)) := HKp.out (by rw [CE2.out]; omega)
                  go_wp2
                  go_round
                  case rel => exact ⟨t + 1, by omega, by go_num, by rw [HPS.out]; go_num, by rw [HE2.out], by rw [HE2.out]⟩
                  case measure => simp [intOf]; omega
            · have CE2 : Hid (cost true S k (t + 1) = (P : Int) + (s : Int)) := by show _ = _; rw [CE.out, if_neg hr]
              by_cases h2 : B2 < 0
              · have HE2 : Hid (bst true S k (t + 1) = (((t + 1 : Nat) : Int), cost true S k (t + 1))) := HT.out (.inl h2)
                go_wp2
                go_round
                case rel => exact ⟨t + 1, by omega, by go_num, by rw [HPS.out]; go_num, by rw [HE2.out]; go_num, by rw [HE2.out, CE2.out]⟩
                case measure => simp [intOf]; omega
              · by_cases h3 : (P : Int) + (s : Int) < B2
                · have HE2 : Hid (bst true S k (t + 1) = (((t + 1 : Nat) : Int), cost true S k (t + 1))) := HT.out (.inr (by rw [CE2.out]; exact h3))
                  go_wp2
                  go_round
                  case rel => exact ⟨t + 1, by omega, by go_num, by rw [HPS.out]; go_num, by rw [HE2.out]; go_num, by rw [HE2.out, CE2.out]⟩
                  case measure => simp [intOf]; omega
                · have HE2 : Hid (bst true S k (t + 1) = (B1, B2)) := HKp.out (by rw [CE2.out]; omega)
                  go_wp2
                  go_round
                  case rel => exact ⟨t + 1, by omega, by go_num, by rw [HPS.out]; go_num, by rw [HE2.out], by rw [HE2.out]⟩
                  case measure => simp [intOf]; omega
          · obtain rfl : t = k - 1 := by omega
            have hi1 : ¬ (((k - 1 : Nat) : Int) + 1 ≤ (k : Int) - 1) := by omega
            rw [HM1.out, HM2.out]
            go_wp2
            go_ret
            exact ⟨by simp, bel2⟩
  | false =>
    have N4 := node4 false ao n cap S w hn HS.out HSR.out
    have NN4 : Hid (Calls Yba.prog 4 #[.bool false, .slice ao n cap] w fun e w' => NodeEnd w w' 8 2 n S e) := N4
    clear N4
    go_enter Yba.func3, Yba.ntmps3
    go_wp2_with fail
    refine Calls.mono NN4.out ?_
    rintro e w1 ⟨R, Fb, A, rfl, nd, bel1⟩
    clear NN4
    have B5 := balance5 w1 nd hn (by omega) false (by decide)
    have e5 : tries false n = n - 2 := rfl
    rw [e5] at B5
    obtain ⟨M1, HM1⟩ : ∃ x, Hid ((bst false S n (n - 2)).1 = x) := ⟨_, rfl⟩
    obtain ⟨M2, HM2⟩ : ∃ x, Hid ((bst false S n (n - 2)).2 = x) := ⟨_, rfl⟩
    rw [HM1.out, HM2.out] at B5
    have BB5 : Hid (Calls Yba.prog 5 #[.pointer (some ⟨R, 0, none⟩)] w1 fun e w' => e = .returned (.tuple #[.int .i64 M1, .int .i64 M2]) ∧ ∃ m, w' = w1.drewN m) := B5
    clear B5 e5 nd
    go_wp2_with fail
    refine Calls.mono BB5.out ?_
    rintro e w2 ⟨rfl, d2, hw2⟩
    have bel2 : Below w.heap.size w w2 := by rw [hw2]; exact ⟨bel1.os, bel1.tape, bel1.output, bel1.size, bel1.block⟩
    clear BB5 hw2 bel1
    go_wp2
    go_loop [8, 31] (fun t i => ∃ k : Nat, k ≤ n ∧ i = .int .i64 k ∧ t = .int .i64 (pre S k : Nat)) (fun _ i => n - (intOf i).toNat)
    case atStart => exact ⟨0, by omega, rfl, rfl⟩
    case round =>
      obtain ⟨k, hk, rfl, rfl⟩ := hrel
      by_cases hlt : k < n
      · obtain ⟨b, off, hao, hb, hcell⟩ := HSR.out (by have := HS.out; omega)
        subst hao
        have hc := (bel2.cell (p := ⟨b, off + k, none⟩) hb).trans (hcell k (by have := HS.out; omega))
        have hs := sz_le S k
        have hpk := pre_le S k
        have HPS : Hid (pre S (k + 1) = pre S k + sz S k) := pre_succ S k
        generalize sz S k = s at hc hs HPS
        obtain ⟨P, HP⟩ : ∃ P, Hid (pre S k = P) := ⟨_, rfl⟩
        have hPb : P ≤ 65280 := by have := HP.out; omega
        rw [HP.out] at HPS
        rw [HP.out]
        clear hcell hpk
        go_wp2
        go_round
        case rel => exact ⟨k + 1, by omega, by go_num, by rw [HPS.out]; go_num⟩
        case measure => simp [intOf]; omega
      · obtain rfl : k = n := by omega
        have hpn0 := pre_le S k
        obtain ⟨pn, HPN⟩ : ∃ pn, Hid (pre S k = pn) := ⟨_, rfl⟩
        have hpn : pn ≤ 65280 := by have := HPN.out; omega
        rw [HPN.out]
        clear hpn0
        go_wp2
        go_loop [12, 13, 14, 15] (fun wm wl bf kv => ∃ t : Nat, t ≤ k - 2 ∧ kv = .int .i64 ((t : Int) + 1) ∧ bf = .int .i64 (pre S t : Nat) ∧ wm = .int .i64 (bst false S k t).1 ∧ wl = .int .i64 (bst false S k t).2) (fun _ _ _ kv => k - (intOf kv).toNat)
        case atStart => exact ⟨0, by omega, rfl, rfl, rfl, rfl⟩
        case round =>
          obtain ⟨t, ht, rfl, rfl, rfl, rfl⟩ := hrel
          by_cases hlt2 : t < k - 2
          · have hi1 : (t : Int) + 1 ≤ (k : Int) - 1 - 1 := by omega
            obtain ⟨b, off, hao, hb, hcell⟩ := HSR.out (by have := HS.out; omega)
            subst hao
            have hc := (bel2.cell (p := ⟨b, off + t, none⟩) hb).trans (hcell t (by have := HS.out; omega))
            have hs := sz_le S t
            have hpt := pre_le S t
            have HPS : Hid (pre S (t + 1) = pre S t + sz S t) := pre_succ S t
            generalize sz S t = s at hc hs HPS
            obtain ⟨P, HP⟩ : ∃ P, Hid (pre S t = P) := ⟨_, rfl⟩
            have hPb : P ≤ 65280 := by have := HP.out; omega
            rw [HP.out] at HPS
            rw [HP.out]
            obtain ⟨B1, HB1⟩ : ∃ b, Hid ((bst false S k t).1 = b) := ⟨_, rfl⟩
            obtain ⟨B2, HB2⟩ : ∃ b, Hid ((bst false S k t).2 = b) := ⟨_, rfl⟩
            rw [HB1.out, HB2.out]
            have HT : Hid (B2 < 0 ∨ cost false S k (t + 1) < B2 → bst false S k (t + 1) = (((t + 1 : Nat) : Int), cost false S k (t + 1))) := fun hc => bst_take (by rw [HB2.out]; exact hc)
            have HKp : Hid (¬ (B2 < 0 ∨ cost false S k (t + 1) < B2) → bst false S k (t + 1) = (B1, B2)) := fun hc => by
              rw [bst_keep (by rw [HB2.out]; exact hc), ← HB1.out, ← HB2.out]
            have hd := (bel2.cell (p := ⟨b, off + (t + 1), none⟩) hb).trans (hcell (t + 1) (by have := HS.out; omega))
            have hsm := sz_le S (t + 1)
            obtain ⟨sm, HSM⟩ : ∃ p, Hid (sz S (t + 1) = p) := ⟨_, rfl⟩
            rw [HSM.out] at hd hsm
            have hi3 : (t : Int) + 1 < (k : Int) := by omega
            have CE : Hid (cost false S k (t + 1) = if (pn : Int) - ((P : Int) + (s : Int)) - (sm : Int) > (P : Int) + (s : Int) then (pn : Int) - ((P : Int) + (s : Int)) - (sm : Int) else (P : Int) + (s : Int)) := by
              show _ = _
              unfold cost rest
              rw [HPS.out, HPN.out, HSM.out]
              simp only [Bool.false_eq_true, if_false]
              split <;> split <;> omega
            clear hcell hpt
            have hi2 : (t : Int) < (k : Int) := by omega
            by_cases hr : (P : Int) + (s : Int) < (pn : Int) - ((P : Int) + (s : Int)) - (sm : Int)
            · have CE2 : Hid (cost false S k (t + 1) = (pn : Int) - ((P : Int) + (s : Int)) - (sm : Int)) := by show _ = _; rw [CE.out, if_pos hr]
              by_cases h2 : B2 < 0
              · have HE := HT.out (.inl h2)
                have HE2 : Hid (bst false S k (t + 1) = (((t + 1 : Nat) : Int), cost false S k (t + 1))) := HE
                clear HE
                go_wp2
                go_round
                case rel => exact ⟨t + 1, by omega, by go_num, by rw [HPS.out]; go_num, by rw [HE2.out]; go_num, by rw [HE2.out, CE2.out]⟩
                case measure => simp [intOf]; omega
              · by_cases h3 : (pn : Int) - ((P : Int) + (s : Int)) - (sm : Int) < B2
                · have HE2 : Hid (bst false S k (t + 1) = (((t + 1 : Nat) : Int), cost false S k (t + 1))) := HT.out (.inr (by rw [CE2.out]; exact h3))
                  go_wp2
                  go_round
                  case rel => exact ⟨t + 1, by omega, by go_num, by rw [HPS.out]; go_num, by rw [HE2.out]; go_num, by rw [HE2.out, CE2.out]⟩
                  case measure => simp [intOf]; omega
                · have HE2 : Hid (bst false S k (t + 1) = (B1, B2)) := HKp.out (by rw [CE2.out]; omega)
                  go_wp2
                  go_round
                  case rel => exact ⟨t + 1, by omega, by go_num, by rw [HPS.out]; go_num, by rw [HE2.out], by rw [HE2.out]⟩
                  case measure => simp [intOf]; omega
            · have CE2 : Hid (cost false S k (t + 1) = (P : Int) + (s : Int)) := by show _ = _; rw [CE.out, if_neg hr]
              by_cases h2 : B2 < 0
              · have HE2 : Hid (bst false S k (t + 1) = (((t + 1 : Nat) : Int), cost false S k (t + 1))) := HT.out (.inl h2)
                go_wp2
                go_round
                case rel => exact ⟨t + 1, by omega, by go_num, by rw [HPS.out]; go_num, by rw [HE2.out]; go_num, by rw [HE2.out, CE2.out]⟩
                case measure => simp [intOf]; omega
              · by_cases h3 : (P : Int) + (s : Int) < B2
                · have HE2 : Hid (bst false S k (t + 1) = (((t + 1 : Nat) : Int), cost false S k (t + 1))) := HT.out (.inr (by rw [CE2.out]; exact h3))
                  go_wp2
                  go_round
                  case rel => exact ⟨t + 1, by omega, by go_num, by rw [HPS.out]; go_num, by rw [HE2.out]; go_num, by rw [HE2.out, CE2.out]⟩
                  case measure => simp [intOf]; omega
                · have HE2 : Hid (bst false S k (t + 1) = (B1, B2)) := HKp.out (by rw [CE2.out]; omega)
                  go_wp2
                  go_round
                  case rel => exact ⟨t + 1, by omega, by go_num, by rw [HPS.out]; go_num, by rw [HE2.out], by rw [HE2.out]⟩
                  case measure => simp [intOf]; omega
          · obtain rfl : t = k - 2 := by omega
            have hi1 : ¬ (((k - 2 : Nat) : Int) + 1 ≤ (k : Int) - 1 - 1) := by omega
            rw [HM1.out, HM2.out]
            go_wp2
            go_ret
            exact ⟨by simp, bel2⟩
end Go.Proofs.Ybulkhtw
