/-
  Seat b0419a: the walk of LawS0419AExact.
-/
import Derived.Test.YbulkhqqParse
import Derived.Deep.QuietTactic
import Derived.BigQuiet
namespace Go.Proofs.Ybulkhqq
open Go Go.RowKit

theorem exact_long (ao : Option Addr) (n cap : Nat) (w : World) (hn : 4096 < n) (hm : n ≤ maxLen) :
    Calls Yba.prog 3 #[.slice ao n cap] w fun e w' => e = .returned (.bool true) ∧ Below w.heap.size w w' := by
  unfold maxLen at hm
  go_enter Yba.func3, Yba.ntmps3
  go_wp2
  go_ret
  exact ⟨rfl, Below.refl _ _⟩

theorem exact_short (ao : Option Addr) (n cap : Nat) (w : World) (hn : n < 2) :
    Calls Yba.prog 3 #[.slice ao n cap] w fun e w' => e = .returned (.bool true) ∧ Below w.heap.size w w' := by
  go_enter Yba.func3, Yba.ntmps3
  go_wp2_with (go_at_call 6; refine (parse_short _ _ _ _ hn).mono ?_; rintro e w1 ⟨⟨a, rfl⟩, hb1⟩)
  go_ret
  exact ⟨rfl, hb1.alloc hb1.size _⟩

theorem exact_bad (b off n cap : Nat) (x : Int) (w : World) (hn : 2 ≤ n) (hnm : n ≤ 4096) (hx : 1 < x) (hb : b < w.heap.size)
    (h0 : w.cell? ⟨b, off, none⟩ = some (.int .u8 x)) :
    Calls Yba.prog 3 #[.slice (some ⟨b, off, none⟩) n cap] w fun e w' => e = .returned (.bool true) ∧ Below w.heap.size w w' := by
  have hcl : (0 : Int) < (n : Int) := by omega
  have hx0 : (x != 0) = true := by rw [bne_iff_ne]; omega
  have hx1 : (x != 1) = true := by rw [bne_iff_ne]; omega
  go_enter Yba.func3, Yba.ntmps3
  go_wp2_with fail
  refine (parse_bad b off n cap x _ hn hnm hx hb h0).mono ?_
  rintro e w1 ⟨⟨a, rfl⟩, hb1⟩
  have h1 := (hb1.cell (p := ⟨b, off, none⟩) hb).trans h0
  have hs := hb1.size
  have hb2 : b < w1.heap.size := by omega
  go_wp2
  go_ret
  exact ⟨rfl, hb1.alloc hb1.size _⟩

set_option maxHeartbeats 800000 in
theorem exact_good (b off n cap : Nat) (S : ByteArray) (x : Int) (q : Bool) (w : World) (hn : 2 ≤ n) (hnm : n ≤ 4096) (hx0 : 0 ≤ x) (hx : x ≤ 1) (hq : (x == 1) = q) (hb : b < w.heap.size)
    (h0 : w.cell? ⟨b, off, none⟩ = some (.int .u8 x)) (hcap : n ≤ cap) (hz : S.size = n - 1)
    (hcell : ∀ i (hi : i < S.size), w.cell? ⟨b, off + 1 + i, none⟩ = some (.int .u8 (S[i].toNat : Int))) :
    Calls Yba.prog 3 #[.slice (some ⟨b, off, none⟩) n cap] w fun e w' => e = .returned (.bool true) ∧ Below w.heap.size w w' := by
  have hcl : (0 : Int) < (n : Int) := by omega
  have hzi : ((S.size : Int) != (n : Int) - 1) = false := by rw [bne_eq_false_iff_eq]; omega
  have HZ : Hid (S.size = n - 1) := hz
  have HC : Hid (∀ i (hi : i < S.size), w.cell? ⟨b, off + 1 + i, none⟩ = some (.int .u8 (S[i].toNat : Int))) := hcell
  have H0 : Hid (w.cell? ⟨b, off, none⟩ = some (.int .u8 x)) := h0
  have hqq : (q == (x == 1)) = true := by rw [hq]; simp
  have P := parse_good' b off n cap S x w hn hnm hx hb h0 hcap hz hcell
  rw [hq] at P
  have PP : Hid (Calls Yba.prog 6 #[.slice (some ⟨b, off, none⟩) n cap] w fun e w' => e = .returned (.tuple #[.agg #[.string S, .bool q], .nilIface]) ∧ Below w.heap.size w w') := P
  clear P hz hcell hq h0
  have hcase : ((x != 0) = false ∧ (x != 1) = true) ∨ ((x != 0) = true ∧ (x != 1) = false) := by
    rcases (show x = 0 ∨ x = 1 by omega) with rfl | rfl
    · left; decide
    · right; decide
  rcases hcase with ⟨hc1, hc2⟩ | ⟨hc1, hc2⟩
  all_goals
    go_enter Yba.func3, Yba.ntmps3
    go_wp2_with fail
    refine Calls.mono PP.out ?_
    rintro e w1 ⟨rfl, hb1⟩
    clear PP
    have h1 := (hb1.cell (p := ⟨b, off, none⟩) hb).trans H0.out
    have hs := hb1.size
    have hb2 : b < w1.heap.size := by omega
    go_wp2
    go_loopw [5] (fun i wr => ∃ k : Nat, k ≤ S.size ∧ i = .int .i64 k ∧ wr.cell? ⟨w1.heap.size, 0, none⟩ = some (.string S) ∧ wr.cell? ⟨w1.heap.size, 1, none⟩ = some (.bool q) ∧ Below w.heap.size w wr)
      (fun i _ => S.size - (intOf i).toNat)
    case atStart => exact ⟨0, Nat.zero_le _, rfl, by simp, by simp, hb1.alloc hs _⟩
    case round =>
      obtain ⟨k, hk, rfl, g0, g1, hbel⟩ := hrel
      have hzz := HZ.out
      have hS : S.size ≤ 4095 := by omega
      by_cases hlt : k < S.size
      · have hc := (hbel.cell (p := ⟨b, off + 1 + k, none⟩) hb).trans (HC.out k hlt)
        rw [show off + 1 + k = off + (k + 1) by omega] at hc
        have hi1 : (0 : Int) ≤ (k : Int) + 1 := by omega
        have hi2 : (k : Int) + 1 < (n : Int) := by omega
        have hi3 : (k : Int) < (S.size : Int) := by omega
        clear hzz
        go_wp2
        go_region
        go_wp2
        go_roundw
        case rel => exact ⟨k + 1, by omega, by go_num, g0, g1, hbel.drew⟩
        case measure => simp [intOf]; omega
      · clear hzz
        have h2 := (hbel.cell (p := ⟨b, off, none⟩) hb).trans H0.out
        go_wp2
        go_region
        go_wp2
        go_ret
        exact ⟨rfl, hbel.drew⟩
end Go.Proofs.Ybulkhqq
