/-
  Seat b0417a: the walk of LawS0417BTable.
-/
import Derived.Test.YbulkhpoLower
import Derived.Test.YbulkhpoFold
import Derived.LoopN
namespace Go.Proofs.Ybulkhpo
open Go Go.RowKit

/-- The law's table, its seventeen bytes. -/
def tabS : ByteArray := ⟨#[97, 65, 122, 90, 64, 91, 96, 123, 48, 57, 46, 0, 3, 193, 218, 77, 113]⟩
theorem tabS_size : tabS.size = 17 := rfl
def tabB (z : Int) : UInt8 := tabS.data.toList.getD (z.toNat % 17) 0

theorem table_any (w : World) : Calls Yba.prog 7 #[] w fun e w' => e = .returned (.string tabS) ∧ w = w' := by
  go_enter Yba.func7, Yba.ntmps7
  go_wp2
  go_ret
  exact ⟨rfl, rfl⟩

/-- Name(s).Equal(t): the two strings folded are equal. -/
theorem equal_any (s t : ByteArray) (w : World) (hs : s.size ≤ 4096) (ht : t.size ≤ 4096) (heq : low s = low t) :
    Calls Yba.prog 8 #[.string s, .string t] w fun e w' => e = .returned (.bool true) ∧ Below w.heap.size w w' := by
  have H : Hid (low s = low t) := heq
  clear heq
  go_enter Yba.func8, Yba.ntmps8
  go_wp2_with fail
  refine (fold_any s _ hs).mono ?_
  rintro e w1 ⟨rfl, hb1⟩
  go_wp2_with fail
  refine (fold_any t _ ht).mono ?_
  rintro e w2 ⟨rfl, hb2⟩
  rw [H.out]
  go_wp2
  go_ret
  exact ⟨by simp, hb1.trans (hb2.mono hb1.size)⟩

/-- The text that the law builds. -/
def built (z : List Int) (n : Nat) : List UInt8 := (List.range n).map (fun i => tabB (z.getD i 0))
theorem built_len (z : List Int) (n : Nat) : (built z n).length = n := by simp [built]
theorem built_get (z : List Int) (n k : Nat) (h : k < (built z n).length) : (built z n)[k] = tabB (z.getD k 0) := by simp [built]
theorem tab_at (x : Int) (m : Nat) (hm : m < tabS.size) (e : x.toNat % 17 = m) : tabS[m] = tabB x := by
  subst e
  unfold tabB
  rw [tabS_size] at hm
  rw [List.getD_eq_getElem?_getD, List.getElem?_eq_getElem (show _ < tabS.data.toList.length from hm)]
  rfl

set_option maxHeartbeats 800000 in
theorem table_pos (b off n cap : Nat) (z : List Int) (w : World) (hn : n ≤ 4096) (hb : b < w.heap.size)
    (hcell : ∀ i, i < n → w.cell? ⟨b, off + i, none⟩ = some (.int .u8 (z.getD i 0))) (hz : ∀ i, 0 ≤ z.getD i 0 ∧ z.getD i 0 ≤ 255) :
    Calls Yba.prog 4 #[.slice (some ⟨b, off, none⟩) n cap] w fun e w' => e = .returned (.bool true) ∧ Below w.heap.size w w' := by
  obtain ⟨i0, hi, hz0, hz1, hz2⟩ := info_parts Yba.info5
  have hmk := fun wx => run_make (P := Yba.prog) wx 26 5 i0 _ Yba.underlying26 hi hz0 .i64 .i64 n n (by omega) (by omega) (by rw [hz2]; omega) (by omega)
  have hts := tabS_size
  go_enter Yba.func4, Yba.ntmps4
  go_wp2_with (go_at_call 7; refine (table_any _).mono ?_; rintro e w1 ⟨rfl, rfl⟩)
  clear hmk
  go_loopw [5] (fun i wr => ∃ k : Nat, k ≤ n ∧ i = .int .i64 k ∧ HoldsB wr w.heap.size (fill (built z n) (List.replicate n 0) k) ∧ Below w.heap.size w wr)
    (fun i _ => n - (intOf i).toNat)
  case atStart => exact ⟨0, Nat.zero_le _, rfl, by rw [fill_zero]; exact HoldsB.made _ _ _, (Below.refl _ _).alloc (Nat.le_refl _) _⟩
  case round =>
    obtain ⟨k, hk, rfl, hrow, hbel⟩ := hrel
    have hlr : (List.replicate n (0 : UInt8)).length = (built z n).length := by simp [built_len]
    have hlen : (fill (built z n) (List.replicate n 0) k).length = n := (fill_len _ _ _ hlr).trans (built_len z n)
    by_cases hlt : k < n
    · have hc := hrow.1 k (by omega)
      have hf := hrow.2 k (by omega)
      have hc2 := (hbel.cell (p := ⟨b, off + k, none⟩) hb).trans (hcell k hlt)
      have hzk := hz k
      have R : Hid (∀ m (hm : m < tabS.size), (z.getD k 0).toNat % 17 = m → HoldsB (wr.setCell ⟨w.heap.size, k, none⟩ (.int .u8 (tabS[m].toNat : Int))) w.heap.size (fill (built z n) (List.replicate n 0) (k + 1))) := by
        intro m hm e
        have hst := fill_step (built z n) (List.replicate n 0) k hlr (by rw [built_len]; exact hlt)
        rw [built_get, ← tab_at _ m hm e] at hst
        have R0 := hrow.set k (by omega) tabS[m] _ rfl
        rw [hst] at R0
        exact R0
      generalize z.getD k 0 = x at hc2 hzk R
      obtain ⟨hx0, hx1⟩ := hzk
      clear hcell hz hrow hlr
      go_wp2
      go_roundw
      case rel => exact ⟨k + 1, by omega, by go_num, R.out _ _ (by omega), hbel.setCell (by simp) _⟩
      case measure => simp [intOf]; omega
    · obtain rfl : k = n := by omega
      have hcv := hrow.toString (P := Yba.prog) k k hlen 26 9 5 Yba.underlying26 Yba.underlying5 Yba.underlying9
      rw [fill_all _ _ k (built_len z k) hlr] at hcv
      have hS : (⟨(built z k).toArray⟩ : ByteArray).size ≤ 4096 := by
        show ((built z k).toArray).size ≤ 4096
        simp [built_len]; exact hn
      generalize (⟨(built z k).toArray⟩ : ByteArray) = S at hcv hS
      clear hrow hlen hlr hcell hz
      have hll := low_low S
      have HL : Hid (low (low S) = low S) := hll
      have hls : (low S).size ≤ 4096 := by rw [low_size]; exact hS
      clear hll
      go_wp2_with fail
      refine (fold_any S _ hS).mono ?_
      rintro e w1 ⟨rfl, hb1⟩
      go_wp2_with fail
      refine (lower_any S _ hS).mono ?_
      rintro e w2 ⟨rfl, hb2⟩
      go_wp2_with fail
      refine (fold_any (low S) _ hls).mono ?_
      rintro e w3 ⟨rfl, hb3⟩
      rw [HL.out]
      go_wp2_with fail
      refine (equal_any S (low S) _ hS hls HL.out.symm).mono ?_
      rintro e w4 ⟨rfl, hb4⟩
      go_wp2
      go_ret
      have s0 := hbel.size
      have s1 := hb1.size
      have s2 := hb2.size
      have s3 := hb3.size
      exact ⟨rfl, (((hbel.trans (hb1.mono s0)).trans (hb2.mono (by omega))).trans (hb3.mono (by omega))).trans (hb4.mono (by omega))⟩

set_option maxHeartbeats 800000 in
/-- No element: whatever the address. -/
theorem table_nil (ao : Option Addr) (cap : Nat) (w : World) :
    Calls Yba.prog 4 #[.slice ao 0 cap] w fun e w' => e = .returned (.bool true) ∧ Below w.heap.size w w' := by
  obtain ⟨i0, hi, hz0, hz1, hz2⟩ := info_parts Yba.info5
  have hmk := fun wx => run_make (P := Yba.prog) wx 26 5 i0 _ Yba.underlying26 hi hz0 .i64 .i64 0 0 (by omega) (by omega) (by omega) (by omega)
  have R : HoldsB (w.alloc (.cells (madeCells #[.int .u8 0] 0) 5)) w.heap.size [] := HoldsB.made w 0 5
  have hcv := R.toString (P := Yba.prog) 0 0 rfl 26 9 5 Yba.underlying26 Yba.underlying5 Yba.underlying9
  have hbel : Below w.heap.size w (w.alloc (.cells (madeCells #[.int .u8 0] 0) 5)) := (Below.refl _ _).alloc (Nat.le_refl _) _
  have hs1 : (w.alloc (.cells (madeCells #[.int .u8 0] 0) 5)).heap.size = w.heap.size + 1 := by simp
  have hS : (⟨([] : List UInt8).toArray⟩ : ByteArray).size ≤ 4096 := by show 0 ≤ 4096; omega
  generalize (⟨([] : List UInt8).toArray⟩ : ByteArray) = S at hcv hS
  have HL : Hid (low (low S) = low S) := low_low S
  have hls : (low S).size ≤ 4096 := by rw [low_size]; exact hS
  clear R
  go_enter Yba.func4, Yba.ntmps4
  go_wp2_with (go_at_call 7; refine (table_any _).mono ?_; rintro e w1 ⟨rfl, rfl⟩)
  clear hmk
  generalize (w.alloc (.cells (madeCells #[.int .u8 0] 0) 5)) = W at *
  refine wp_loop_rounds 1 ?_
  rw [rounds_succ]
  go_wp2_with fail
  refine (fold_any S _ hS).mono ?_
  rintro e w1 ⟨rfl, hb1⟩
  go_wp2_with fail
  refine (lower_any S _ hS).mono ?_
  rintro e w2 ⟨rfl, hb2⟩
  go_wp2_with fail
  refine (fold_any (low S) _ hls).mono ?_
  rintro e w3 ⟨rfl, hb3⟩
  rw [HL.out]
  go_wp2_with fail
  refine (equal_any S (low S) _ hS hls HL.out.symm).mono ?_
  rintro e w4 ⟨rfl, hb4⟩
  go_wp2
  go_ret
  have s1 := hb1.size
  have s2 := hb2.size
  have s3 := hb3.size
  exact ⟨rfl, (((hbel.trans (hb1.mono (by omega))).trans (hb2.mono (by omega))).trans (hb3.mono (by omega))).trans (hb4.mono (by omega))⟩

/-- More than 4096 elements: true at once. -/
theorem table_long (ao : Option Addr) (n cap : Nat) (w : World) (hn : 4096 < n) (hm : n ≤ maxLen) :
    Calls Yba.prog 4 #[.slice ao n cap] w fun e w' => e = .returned (.bool true) ∧ Below w.heap.size w w' := by
  unfold maxLen at hm
  go_enter Yba.func4, Yba.ntmps4
  go_wp2
  go_ret
  exact ⟨rfl, Below.refl _ _⟩
end Go.Proofs.Ybulkhpo
