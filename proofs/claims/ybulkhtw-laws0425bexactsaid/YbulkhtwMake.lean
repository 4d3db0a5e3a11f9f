/-
  Seat b0425a: zzs0425bnode, walked: it lays a node.
-/
import Derived.Test.YbulkhtwNode
namespace Go.Proofs.Ybulkhtw
open Go Go.RowKit

/-- The byte 0. -/
def isZ : Value → Bool
  | .int k n => decide (k = .u8) && decide (n = 0)
  | _ => false
theorem isZ_eq {v : Value} (h : isZ v = true) : v = .int .u8 0 := by
  unfold isZ at h
  split at h
  · simp at h
    rw [h.1, h.2]
  · cases h
theorem zero29 : ((Yba.prog.info? 29).bind fun i => i.zero).map (fun z => (z.cells.toList.all isZ, z.cells.size)) = some (true, 4096) := by kernel_rfl

/-- 'new([4096]byte)', as one operation: a new block of 4096 zero bytes. -/
theorem wpList_new {ops : Array Oper} {rest : List Oper} {o : Oper} {a : Act} {Q : Exit → Act → World → Prop} (w : World) (hgd : o.guard = none) (ho : o.op = Op.alloc 29)
    (h : ∀ C : Array Value, C.size = 4096 → (∀ j, j < 4096 → C[j]? = some (.int .u8 0)) → wpList Yba.prog ops Q rest (a.put o.dst (.pointer (some ⟨w.heap.size, 0, none⟩))) (w.alloc (.cells C 29))) : wpList Yba.prog ops Q (o :: rest) a w := by
  have hz := zero29
  cases hi : Yba.prog.info? 29 with
  | none => rw [hi] at hz; cases hz
  | some i =>
    rw [hi] at hz
    cases hzz : i.zero with
    | none => simp [hzz] at hz
    | some z =>
      simp only [Option.bind_some, hzz, Option.map_some, Option.some.injEq, Prod.mk.injEq] at hz
      obtain ⟨hall, hsz⟩ := hz
      have hrun : (Instr.alloc 29 true (.tuple #[])).run Yba.prog w = .ok (.pointer (some ⟨w.heap.size, 0, none⟩)) (w.alloc (.cells z.cells 29)) := by
        simp [Instr.alloc, zeroValue, typeInfo, hi, hzz, newVar]
        rfl
      refine wpList_plain hgd fun K hK => ?_
      unfold Oper.wp
      simp [execOp, ho, hrun, Result.andThen]
      refine hK _ _ (h z.cells hsz fun j hj => ?_)
      have hj' : j < z.cells.size := by omega
      rw [Array.getElem?_eq_getElem hj']
      have := List.all_eq_true.1 hall z.cells[j] (by simp)
      rw [isZ_eq this]

theorem info31 : (Yba.prog.info? 31).map (fun i => (i.zero, i.size, i.bytes)) = some (some (.int .u16 0), 1, 2) := by kernel_rfl

/-- The bytes that came in: they lie at the slice's address, if there are any. -/
def Src (w : World) (ao : Option Addr) (S : List UInt8) : Prop :=
  0 < S.length → ∃ b off, ao = some ⟨b, off, none⟩ ∧ b < w.heap.size ∧ ∀ i, i < S.length → w.cell? ⟨b, off + i, none⟩ = some (.int .u8 (sz S i : Int))

/-- The starts in the making: the first k are reckoned. -/
def fil (hdr : Nat) (S : List UInt8) (k j : Nat) : Nat := if j < k then hdr + pre S j else 0
/-- The first n cells of block A hold f's numbers, and none is frozen. -/
def HoldsU (w : World) (A n : Nat) (f : Nat → Nat) : Prop := ∀ j, j < n → w.cell? ⟨A, j, none⟩ = some (.int .u16 (f j : Int)) ∧ w.frozen? ⟨A, j, none⟩ = false
theorem HoldsU.step {w : World} {A n hdr : Nat} {S : List UInt8} {k : Nat} (h : HoldsU w A n (fil hdr S k)) (hk : k < n) (z : Int) (hz : z = ((hdr + pre S k : Nat) : Int)) : HoldsU (w.setCell ⟨A, k, none⟩ (.int .u16 z)) A n (fil hdr S (k + 1)) := by
  subst hz
  intro j hj
  rw [World.frozen?_setCell]
  refine ⟨?_, (h j hj).2⟩
  by_cases e : k = j
  · subst e
    rw [World.cell?_setCell_same _ _ _ (h k hk).1]
    simp [fil]
  · rw [World.cell?_setCell_other _ _ _ _ (fun h' => e (congrArg Addr.off h')), (h j hj).1]
    have : (j < k + 1) = (j < k) := by rw [eq_iff_iff]; omega
    simp [fil, this]
theorem HoldsU.made (w : World) (n : Nat) (t : TypeId) (hdr : Nat) (S : List UInt8) : HoldsU (w.alloc (.cells (madeCells #[.int .u16 0] n) t)) w.heap.size n (fil hdr S 0) := by
  intro j hj
  refine ⟨?_, ?_⟩
  · rw [World.cell?_alloc_at _ _ _ _ rfl]
    have e : (madeCells #[Value.int .u16 0] n)[j]? = (List.replicate n (Value.int .u16 0))[j]? := by rw [← toList_madeCells_one (.int .u16 0) n]; simp
    rw [e]
    simp [hj, fil]
  · rw [frozen?_alloc_cells]
    simp [World.frozen?]

/-- The end: a node is laid, and nothing that was there has turned. -/
def NodeEnd (w w' : World) (hdr : Nat) (kind : Int) (n : Nat) (S : List UInt8) (e : Ending) : Prop :=
  ∃ R Fb A, e = .returned (.pointer (some ⟨R, 0, none⟩)) ∧ Nd w' R Fb A n hdr kind S ∧ Below w.heap.size w w'

set_option maxHeartbeats 1000000 in
theorem node4 (q : Bool) (ao : Option Addr) (n cap : Nat) (S : List UInt8) (w : World) (hn : n ≤ 256) (hS : S.length = n) (hsrc : Src w ao S) :
    Calls Yba.prog 4 #[.bool q, .slice ao n cap] w fun e w' => NodeEnd w w' (if q then 4 else 8) (if q then 1 else 2) n S e := by
  obtain ⟨i0, hi, hz0, hz1, hz2⟩ := info_parts info31
  have hmk := fun wx => run_make (P := Yba.prog) wx 30 31 i0 _ Yba.underlying30 hi hz0 .i64 .i64 n n (by omega) (by omega) (by rw [hz2]; omega) (by omega)
  have HS : Hid (S.length = n) := hS
  have HSR : Hid (Src w ao S) := hsrc
  clear hS hsrc
  cases q with
  | true =>
    show Calls Yba.prog 4 #[.bool true, .slice ao n cap] w fun e w' => NodeEnd w w' 4 1 n S e
    go_enter Yba.func4, Yba.ntmps4
    go_wp2_with (refine wpList_new _ rfl rfl ?_; intro C hC1 hC2)
    have K0 : ((w.alloc (.cells (C.setIfInBounds 8 (.int .u8 1)) 29)).alloc (.cells (madeCells #[.int .u16 0] n) 31)).cell? ⟨w.heap.size, 8, none⟩ = some (.int .u8 1) := by
      rw [World.cell?_alloc_lt _ _ _ (by simp), World.cell?_alloc_at _ _ _ _ rfl]
      simp [hC1]
    have U0 : HoldsU ((w.alloc (.cells (C.setIfInBounds 8 (.int .u8 1)) 29)).alloc (.cells (madeCells #[.int .u16 0] n) 31)) (w.heap.size + 1) n (fil 4 S 0) := by
      have := HoldsU.made (w.alloc (.cells (C.setIfInBounds 8 (.int .u8 1)) 29)) n 31 4 S
      rw [World.size_alloc] at this
      exact this
    have B0 : Below w.heap.size w ((w.alloc (.cells (C.setIfInBounds 8 (.int .u8 1)) 29)).alloc (.cells (madeCells #[.int .u16 0] n) 31)) := ((Below.refl _ _).alloc (Nat.le_refl _) _).alloc (by simp) _
    have Z0 : Hid (w.heap.size + 1 < ((w.alloc (.cells (C.setIfInBounds 8 (.int .u8 1)) 29)).alloc (.cells (madeCells #[.int .u16 0] n) 31)).heap.size) := by show _ < _; simp
    clear hC1 hC2 hmk
    generalize (w.alloc (.cells (C.setIfInBounds 8 (.int .u8 1)) 29)).alloc (.cells (madeCells #[.int .u16 0] n) 31) = wB at *
    go_loopw [9, 24] (fun p i wr => ∃ k : Nat, k ≤ n ∧ i = .int .i64 k ∧ p = .int .i64 ((4 + pre S k : Nat) : Int) ∧ wr.cell? ⟨w.heap.size, 8, none⟩ = some (.int .u8 1) ∧ HoldsU wr (w.heap.size + 1) n (fil 4 S k) ∧ Below w.heap.size w wr ∧ Hid (w.heap.size + 1 < wr.heap.size))
      (fun _ i _ => n - (intOf i).toNat)
    case atStart => exact ⟨0, by omega, rfl, rfl, K0, U0, B0, Z0⟩
    case round =>
      clear K0 U0 B0 Z0
      obtain ⟨k, hk, rfl, rfl, K1, U1, B1, Z1⟩ := hrel
      have hpk := pre_le S k
      by_cases hlt : k < n
      · obtain ⟨b, off, hao, hb, hcell⟩ := HSR.out (by have := HS.out; omega)
        subst hao
        have hc := (B1.cell (p := ⟨b, off + k, none⟩) hb).trans (hcell k (by have := HS.out; omega))
        have hc2 := (U1 k hlt).1
        have hf2 := (U1 k hlt).2
        have hs := sz_le S k
        have HPS : Hid (4 + pre S (k + 1) = 4 + pre S k + sz S k) := by show _ = _; rw [pre_succ]; omega
        have UN : Hid (∀ z : Int, z = ((4 + pre S k : Nat) : Int) → HoldsU (wr.setCell ⟨w.heap.size + 1, k, none⟩ (.int .u16 z)) (w.heap.size + 1) n (fil 4 S (k + 1))) := fun z hz => U1.step hlt z hz
        obtain ⟨P, HP⟩ : ∃ P, Hid (4 + pre S k = P) := ⟨_, rfl⟩
        have hPb : P ≤ 65100 := by have := HP.out; omega
        rw [HP.out] at UN HPS
        rw [HP.out]
        generalize sz S k = s at hc hs HPS
        clear hcell U1 hpk
        go_wp2
        go_roundw
        case rel =>
          refine ⟨k + 1, by omega, by go_num, by rw [HPS.out]; go_num, ?_, UN.out _ rfl, B1.setCell (by show _ ≤ w.heap.size + 1; omega) _, by show _ < _; rw [World.size_setCell]; exact Z1.out⟩
          rw [World.cell?_setCell_other _ _ _ _ (fun h => by have := congrArg Addr.block h; simp at this)]
          exact K1
        case measure => simp [intOf]; omega
      · obtain rfl : k = n := by omega
        go_wp2
        go_ret
        refine ⟨wr.heap.size, w.heap.size, w.heap.size + 1, rfl, ⟨?_, ?_, ?_, ?_, ?_, fun j hj => ?_⟩, B1.alloc (by have := Z1.out; omega) _⟩
        · rw [World.cell?_alloc_at _ _ _ _ rfl]; rfl
        · rw [World.cell?_alloc_at _ _ _ _ rfl]; rfl
        · rw [World.cell?_alloc_at _ _ _ _ rfl]; rfl
        · rw [World.cell?_alloc_at _ _ _ _ rfl]; rfl
        · rw [World.cell?_alloc_lt _ _ _ (by have := Z1.out; show w.heap.size < _; omega)]; exact K1
        · rw [World.cell?_alloc_lt _ _ _ (by exact Z1.out), (U1 j hj).1]
          simp [fil, hj]
  | false =>
    show Calls Yba.prog 4 #[.bool false, .slice ao n cap] w fun e w' => NodeEnd w w' 8 2 n S e
    go_enter Yba.func4, Yba.ntmps4
    go_wp2_with (refine wpList_new _ rfl rfl ?_; intro C hC1 hC2)
    have K0 : ((w.alloc (.cells (C.setIfInBounds 8 (.int .u8 2)) 29)).alloc (.cells (madeCells #[.int .u16 0] n) 31)).cell? ⟨w.heap.size, 8, none⟩ = some (.int .u8 2) := by
      rw [World.cell?_alloc_lt _ _ _ (by simp), World.cell?_alloc_at _ _ _ _ rfl]
      simp [hC1]
    have U0 : HoldsU ((w.alloc (.cells (C.setIfInBounds 8 (.int .u8 2)) 29)).alloc (.cells (madeCells #[.int .u16 0] n) 31)) (w.heap.size + 1) n (fil 8 S 0) := by
      have := HoldsU.made (w.alloc (.cells (C.setIfInBounds 8 (.int .u8 2)) 29)) n 31 8 S
      rw [World.size_alloc] at this
      exact this
    have B0 : Below w.heap.size w ((w.alloc (.cells (C.setIfInBounds 8 (.int .u8 2)) 29)).alloc (.cells (madeCells #[.int .u16 0] n) 31)) := ((Below.refl _ _).alloc (Nat.le_refl _) _).alloc (by simp) _
    have Z0 : Hid (w.heap.size + 1 < ((w.alloc (.cells (C.setIfInBounds 8 (.int .u8 2)) 29)).alloc (.cells (madeCells #[.int .u16 0] n) 31)).heap.size) := by show _ < _; simp
    clear hC1 hC2 hmk
    generalize (w.alloc (.cells (C.setIfInBounds 8 (.int .u8 2)) 29)).alloc (.cells (madeCells #[.int .u16 0] n) 31) = wB at *
    go_loopw [9, 24] (fun p i wr => ∃ k : Nat, k ≤ n ∧ i = .int .i64 k ∧ p = .int .i64 ((8 + pre S k : Nat) : Int) ∧ wr.cell? ⟨w.heap.size, 8, none⟩ = some (.int .u8 2) ∧ HoldsU wr (w.heap.size + 1) n (fil 8 S k) ∧ Below w.heap.size w wr ∧ Hid (w.heap.size + 1 < wr.heap.size))
      (fun _ i _ => n - (intOf i).toNat)
    case atStart => exact ⟨0, by omega, rfl, rfl, K0, U0, B0, Z0⟩
    case round =>
      clear K0 U0 B0 Z0
      obtain ⟨k, hk, rfl, rfl, K1, U1, B1, Z1⟩ := hrel
      have hpk := pre_le S k
      by_cases hlt : k < n
      · obtain ⟨b, off, hao, hb, hcell⟩ := HSR.out (by have := HS.out; omega)
        subst hao
        have hc := (B1.cell (p := ⟨b, off + k, none⟩) hb).trans (hcell k (by have := HS.out; omega))
        have hc2 := (U1 k hlt).1
        have hf2 := (U1 k hlt).2
        have hs := sz_le S k
        have HPS : Hid (8 + pre S (k + 1) = 8 + pre S k + sz S k) := by show _ = _; rw [pre_succ]; omega
        have UN : Hid (∀ z : Int, z = ((8 + pre S k : Nat) : Int) → HoldsU (wr.setCell ⟨w.heap.size + 1, k, none⟩ (.int .u16 z)) (w.heap.size + 1) n (fil 8 S (k + 1))) := fun z hz => U1.step hlt z hz
        obtain ⟨P, HP⟩ : ∃ P, Hid (8 + pre S k = P) := ⟨_, rfl⟩
        have hPb : P ≤ 65100 := by have := HP.out; omega
        rw [HP.out] at UN HPS
        rw [HP.out]
        generalize sz S k = s at hc hs HPS
        clear hcell U1 hpk
        go_wp2
        go_roundw
        case rel =>
          refine ⟨k + 1, by omega, by go_num, by rw [HPS.out]; go_num, ?_, UN.out _ rfl, B1.setCell (by show _ ≤ w.heap.size + 1; omega) _, by show _ < _; rw [World.size_setCell]; exact Z1.out⟩
          rw [World.cell?_setCell_other _ _ _ _ (fun h => by have := congrArg Addr.block h; simp at this)]
          exact K1
        case measure => simp [intOf]; omega
      · obtain rfl : k = n := by omega
        go_wp2
        go_ret
        refine ⟨wr.heap.size, w.heap.size, w.heap.size + 1, rfl, ⟨?_, ?_, ?_, ?_, ?_, fun j hj => ?_⟩, B1.alloc (by have := Z1.out; omega) _⟩
        · rw [World.cell?_alloc_at _ _ _ _ rfl]; rfl
        · rw [World.cell?_alloc_at _ _ _ _ rfl]; rfl
        · rw [World.cell?_alloc_at _ _ _ _ rfl]; rfl
        · rw [World.cell?_alloc_at _ _ _ _ rfl]; rfl
        · rw [World.cell?_alloc_lt _ _ _ (by have := Z1.out; show w.heap.size < _; omega)]; exact K1
        · rw [World.cell?_alloc_lt _ _ _ (by exact Z1.out), (U1 j hj).1]
          simp [fil, hj]
end Go.Proofs.Ybulkhtw
