/-
  Seat b0419a: ParseCopy, walked.
-/
import Derived.Test.YbulkhqqRows
import Derived.Test.YbulkhqqBytes
import Derived.WalkKit
import Derived.WalkSpells
import Derived.RegionTactic
import Derived.Laws.BytesArg
namespace Go.Proofs.Ybulkhqq
open Go Go.RowKit

theorem new_any (s : ByteArray) (w : World) :
    Calls Yba.prog 12 #[.string s] w fun e w' => e = .returned (.iface 44 (.pointer (some ⟨w.heap.size, 0, none⟩))) ∧ w.alloc (.cells #[.string s] 46) = w' := by
  go_enter Yba.func12, Yba.ntmps12
  go_wp2
  go_ret
  exact ⟨rfl, rfl⟩

/-- Fewer than two bytes. -/
theorem parse_short (ao : Option Addr) (n cap : Nat) (w : World) (hn : n < 2) :
    Calls Yba.prog 6 #[.slice ao n cap] w fun e w' => (∃ a, e = .returned (.tuple #[.agg #[.string ⟨#[]⟩, .bool false], .iface 44 (.pointer (some a))])) ∧ Below w.heap.size w w' := by
  go_enter Yba.func6, Yba.ntmps6
  go_wp2_with (go_at_call 12; refine (new_any _ _).mono ?_; rintro e w1 ⟨rfl, rfl⟩)
  exact bodyPost_ret (v := .tuple #[.agg #[.string ⟨#[]⟩, .bool false], .iface 44 (.pointer (some ⟨w.heap.size + 1, 0, none⟩))]) (by simp [results, Yba.results6, go_sem]) rfl
    ⟨⟨_, rfl⟩, ((Below.refl _ _).alloc (Nat.le_refl _) _).alloc (by simp) _⟩

/-- Two bytes or more, the first above 1. -/
theorem parse_bad (b off n cap : Nat) (x : Int) (w : World) (hn : 2 ≤ n) (hnm : n ≤ 4096) (hx : 1 < x) (hb : b < w.heap.size)
    (h0 : w.cell? ⟨b, off, none⟩ = some (.int .u8 x)) :
    Calls Yba.prog 6 #[.slice (some ⟨b, off, none⟩) n cap] w fun e w' => (∃ a, e = .returned (.tuple #[.agg #[.string ⟨#[]⟩, .bool false], .iface 44 (.pointer (some a))])) ∧ Below w.heap.size w w' := by
  have hcl : (0 : Int) < (n : Int) := by omega
  go_enter Yba.func6, Yba.ntmps6
  go_wp2_with (go_at_call 12; refine (new_any _ _).mono ?_; rintro e w1 ⟨rfl, rfl⟩)
  exact bodyPost_ret (v := .tuple #[.agg #[.string ⟨#[]⟩, .bool false], .iface 44 (.pointer (some ⟨w.heap.size + 1, 0, none⟩))]) (by simp [results, Yba.results6, go_sem]) rfl
    ⟨⟨_, rfl⟩, ((Below.refl _ _).alloc (Nat.le_refl _) _).alloc (by simp) _⟩

/-- Two bytes or more, the first 0 or 1. -/
theorem parse_good (b off n cap : Nat) (z : List Int) (x : Int) (w : World) (hn : 2 ≤ n) (hnm : n ≤ 4096) (hx : x ≤ 1) (hb : b < w.heap.size)
    (h0 : w.cell? ⟨b, off, none⟩ = some (.int .u8 x)) (hcap : n ≤ cap) (hz : z.length = n - 1)
    (hcell : ∀ i, i < n - 1 → w.cell? ⟨b, off + 1 + i, none⟩ = some (.int .u8 (z.getD i 0))) :
    Calls Yba.prog 6 #[.slice (some ⟨b, off, none⟩) n cap] w fun e w' => e = .returned (.tuple #[.agg #[.string (strOfNums z), .bool (x == 1)], .nilIface]) ∧ Below w.heap.size w w' := by
  have hcv := fun o => run_convert_bytes_arg (P := Yba.prog) ((w.alloc o).drew) 22 5 Yba.underlying22 Yba.underlying5 b (off + 1) (n - 1) (cap - 1) z hz
    (fun i hi => by rw [World.cell?_drew, World.cell?_alloc_lt _ _ _ hb]; exact hcell i hi) 9 Yba.underlying9
  have hcl : (0 : Int) < (n : Int) := by omega
  have hcl1 : (1 : Int) ≤ (n : Int) := by omega
  go_enter Yba.func6, Yba.ntmps6
  go_wp2
  go_region
  go_wp2
  exact bodyPost_ret (v := .tuple #[.agg #[.string (strOfNums z), .bool (x == 1)], .nilIface]) (by simp [results, Yba.results6, go_sem]) rfl
    ⟨rfl, ((Below.refl _ _).alloc (Nat.le_refl _) _).drew⟩

/-- The same, the bytes behind the first given as a string. -/
theorem parse_good' (b off n cap : Nat) (S : ByteArray) (x : Int) (w : World) (hn : 2 ≤ n) (hnm : n ≤ 4096) (hx : x ≤ 1) (hb : b < w.heap.size)
    (h0 : w.cell? ⟨b, off, none⟩ = some (.int .u8 x)) (hcap : n ≤ cap) (hz : S.size = n - 1)
    (hcell : ∀ i (hi : i < S.size), w.cell? ⟨b, off + 1 + i, none⟩ = some (.int .u8 (S[i].toNat : Int))) :
    Calls Yba.prog 6 #[.slice (some ⟨b, off, none⟩) n cap] w fun e w' => e = .returned (.tuple #[.agg #[.string S, .bool (x == 1)], .nilIface]) ∧ Below w.heap.size w w' := by
  have e : strOfNums (S.data.toList.map fun c => (c.toNat : Int)) = S := by
    unfold strOfNums
    simp only [List.map_map]
    have : ((fun n : Int => UInt8.ofNat n.toNat) ∘ fun c : UInt8 => (c.toNat : Int)) = id := by
      funext c
      simp
    rw [this, List.map_id]
  have h := parse_good b off n cap (S.data.toList.map fun c => (c.toNat : Int)) x w hn hnm hx hb h0 hcap (by simpa using hz) (fun i hi => by
    have hi' : i < S.size := by omega
    rw [hcell i hi', List.getD_eq_getElem?_getD, List.getElem?_eq_getElem (by simpa using hi')]
    simp
    rfl)
  rw [e] at h
  exact h
end Go.Proofs.Ybulkhqq
