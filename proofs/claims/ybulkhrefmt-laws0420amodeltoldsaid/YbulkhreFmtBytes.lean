/-
  Seat b0420aF: rows of bytes in one block. No Go function is named here.
-/
import Derived.WalkKit
import Derived.Laws.IdiomStrings
namespace Go.Proofs.YbulkhreFmt
open Go Go.RowKit

/-- The first cells of block B hold the bytes l, and none of them is frozen. -/
def HoldsB (w : World) (B : Nat) (l : List UInt8) : Prop :=
  (∀ j (h : j < l.length), w.cell? ⟨B, j, none⟩ = some (.int .u8 (l[j].toNat : Int))) ∧ (∀ j, j < l.length → w.frozen? ⟨B, j, none⟩ = false)

theorem HoldsB.set {w : World} {B : Nat} {l : List UInt8} (h : HoldsB w B l) (k : Nat) (hk : k < l.length) (b : UInt8) (n : Int) (hn : n = (b.toNat : Int)) :
    HoldsB (w.setCell ⟨B, k, none⟩ (.int .u8 n)) B (l.set k b) := by
  subst hn
  refine ⟨fun j hj => ?_, fun j hj => ?_⟩
  · simp only [List.length_set] at hj
    by_cases e : k = j
    · subst e
      rw [World.cell?_setCell_same _ _ _ (h.1 k hk)]
      simp
    · rw [World.cell?_setCell_other _ _ _ _ (fun h' => e (congrArg Addr.off h')), h.1 j hj]
      simp [e]
  · simp only [List.length_set] at hj
    rw [World.frozen?_setCell]
    exact h.2 j hj

theorem HoldsB.made (w : World) (n : Nat) (t : TypeId) : HoldsB (w.alloc (.cells (madeCells #[.int .u8 0] n) t)) w.heap.size (List.replicate n 0) := by
  refine ⟨fun j hj => ?_, fun j hj => ?_⟩
  · simp only [List.length_replicate] at hj
    rw [World.cell?_alloc_at _ _ _ _ rfl]
    have := toList_madeCells_one (.int .u8 0) n
    have e : (madeCells #[Value.int .u8 0] n)[j]? = (List.replicate n (Value.int .u8 0))[j]? := by rw [← this]; simp
    rw [e]
    simp [hj]
  · rw [frozen?_alloc_cells]
    simp [World.frozen?]

theorem HoldsB.ofString (w : World) (s : ByteArray) (cap n m : Nat) (t : TypeId) (hn : s.size ≤ n) : HoldsB (w.alloc (.cells (bytesRow s cap) t (n, m))) w.heap.size s.data.toList := by
  refine ⟨fun j hj => ?_, fun j hj => ?_⟩
  · simp only [Array.length_toList] at hj
    rw [World.cell?_alloc_mark, bytesRow_at s cap j hj]
    simp
  · simp only [Array.length_toList] at hj
    rw [World.frozen?_alloc_mark]
    have : ¬ n ≤ j := by have : s.data.size = s.size := rfl; omega
    simp [this]

/-- 'string(b)' of such a row. -/
theorem HoldsB.toString {P : Program} {w : World} {B : Nat} {l : List UInt8} (h : HoldsB w B l) (n cap : Nat) (hn : l.length = n) (src dst e : TypeId)
    (hs : P.underlying src = some (.slice e)) (he : P.underlying e = some (.int .u8)) (hd : P.underlying dst = some .string) :
    (convert src dst (.slice (some ⟨B, 0, none⟩) n cap)).run P w = .ok (.string ⟨l.toArray⟩) w := by
  subst hn
  refine run_convert_bytes_back w src dst e ⟨B, 0, none⟩ cap l hs he hd fun j hj => ?_
  have hplain : (⟨B, 0, none⟩ : Addr).add j = ⟨B, j, none⟩ := by simp only [Addr.add]; split <;> simp_all
  rw [hplain]
  exact h.1 j hj

/-- The cells that hold the bytes l. -/
def cellsB (l : List UInt8) : List Value := l.map fun b => Value.int .u8 (b.toNat : Int)
theorem cellsB_len (l : List UInt8) : (cellsB l).length = l.length := by simp [cellsB]
theorem cellsB_one (l : List UInt8) : ∀ v ∈ cellsB l, v.oneCell' = true := by
  intro v hv
  simp only [cellsB, List.mem_map] at hv
  obtain ⟨b, _, rfl⟩ := hv
  rfl
theorem cellsB_at {l : List UInt8} {j : Nat} {v : Value} (h : (cellsB l)[j]? = some v) : ∃ hj : j < l.length, v = .int .u8 (l[j].toNat : Int) := by
  have hj : j < l.length := by
    have := (List.getElem?_eq_some_iff.1 h).1
    simpa [cellsB] using this
  refine ⟨hj, ?_⟩
  simp [cellsB, List.getElem?_eq_getElem hj] at h
  exact h.symm
theorem HoldsB.ofBlock {w : World} {g : Nat} {l : List UInt8} {t : TypeId} (h : w.heap[g]? = some (.cells (cellsB l).toArray t (0, 0))) : HoldsB w g l := by
  refine ⟨fun j hj => ?_, fun j hj => ?_⟩
  · rw [cell_of_row w g j _ t (0, 0) h]
    simp [cellsB, List.getElem?_eq_getElem hj]
  · exact frozen_of_row w g j _ t h
theorem made_block (w : World) (n : Nat) (t : TypeId) : (w.alloc (.cells (madeCells #[.int .u8 0] n) t)).heap[w.heap.size]? = some (.cells (List.replicate n (Value.int .u8 0)).toArray t (0, 0)) := by
  have e : madeCells #[Value.int .u8 0] n = (List.replicate n (Value.int .u8 0)).toArray := by
    rw [← toList_madeCells_one (.int .u8 0) n]
  rw [e]
  exact heap_alloc_new w _
/-- What holds in a world holds in one that is the same below a higher number. -/
theorem HoldsB.below {w w' : World} {B g : Nat} {l : List UInt8} (h : HoldsB w g l) (hb : Below B w w') (hg : g < B) : HoldsB w' g l :=
  ⟨fun j hj => (hb.cell (p := ⟨g, j, none⟩) hg).trans (h.1 j hj), fun j hj => (hb.frozen (p := ⟨g, j, none⟩) hg).trans (h.2 j hj)⟩

/-! ### A row that is filled from its head on -/
/-- The first k cells are as in a, the others still as in r. -/
def fill (a r : List UInt8) (k : Nat) : List UInt8 := a.take k ++ r.drop k
theorem fill_len (a r : List UInt8) (k : Nat) (h : r.length = a.length) : (fill a r k).length = a.length := by
  simp [fill]
  omega
theorem fill_zero (a r : List UInt8) : fill a r 0 = r := by simp [fill]
theorem fill_all (a r : List UInt8) (n : Nat) (hn : a.length = n) (h : r.length = a.length) : fill a r n = a := by
  subst hn
  unfold fill
  rw [List.take_length, List.drop_eq_nil_of_le (by omega), List.append_nil]
theorem fill_step (a r : List UInt8) (k : Nat) (h : r.length = a.length) (hk : k < a.length) : (fill a r k).set k a[k] = fill a r (k + 1) := by
  have e : (a.take k).length = k := by simp; omega
  have e2 : r.drop k = r[k] :: r.drop (k + 1) := List.drop_eq_getElem_cons (by omega)
  simp only [fill]
  rw [List.set_append_right _ _ (by omega), e, Nat.sub_self, e2, List.set_cons_zero, List.take_succ_eq_append_getElem hk, List.append_assoc]
  rfl
end Go.Proofs.YbulkhreFmt
