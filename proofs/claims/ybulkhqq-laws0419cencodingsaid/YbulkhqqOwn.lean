/-
  Seat b0419a: rows of bytes that the call owns, and appends to them.
-/
import Derived.Test.YbulkhqqRows
import Derived.Test.YbulkhqqBytes
import Derived.WalkKit
import Derived.WalkSpells
import Derived.Lib.AppendStr
namespace Go.Proofs.Ybulkhqq
open Go Go.RowKit

/-- The slice v owns the bytes l, in a block from number 'base' on. -/
def Own (w : World) (base : Nat) (v : Value) (l : List UInt8) : Prop := w.ownsRow base 5 1 v l.length (cellsB l)

theorem Own.alloc {w : World} {base : Nat} {v : Value} {l : List UInt8} (h : Own w base v l) (o : Obj) : Own (w.alloc o) base v l := World.ownsRow.alloc h o
theorem Own.drew {w : World} {base : Nat} {v : Value} {l : List UInt8} (h : Own w base v l) : Own w.drew base v l := h
/-- What is owned stays owned where the blocks below B are as they were and its block lies below B. -/
theorem Own.below {w w' : World} {base B : Nat} {v : Value} {l : List UInt8} (h : Own w base v l) (hb : Below B w w') (hB : w.heap.size ≤ B) : Own w' base v l := by
  refine World.ownsRow.kept (row := none) h ⟨hb.os, hb.tape, hb.output, hb.size, fun k hk _ => hb.block k (by omega)⟩ ?_
  cases hv : v.ownBlock with
  | none => exact .inl rfl
  | some k => exact .inr (by simp)

theorem info5 : (Yba.prog.info? 5).map (fun i => (i.zero, i.size, i.bytes)) = some (some (.int .u8 0), 1, 1) := by kernel_rfl

/-- Below 'base' nothing has turned, and of the other blocks none that holds no bytes. -/
structure Fr (base : Nat) (w w' : World) : Prop where
  bel : Below base w w'
  other : ∀ (k : Nat) (C : Array Value) (t : TypeId) (f : Nat × Nat), t ≠ 5 → w.heap[k]? = some (.cells C t f) → w'.heap[k]? = some (.cells C t f)
theorem Fr.refl (base : Nat) (w : World) : Fr base w w := ⟨Below.refl _ _, fun _ _ _ _ _ h => h⟩
theorem Fr.trans {base : Nat} {a b c : World} (h : Fr base a b) (k : Fr base b c) : Fr base a c := ⟨h.bel.trans k.bel, fun i C t f ht hi => k.other i C t f ht (h.other i C t f ht hi)⟩
theorem Fr.alloc {base : Nat} {a w : World} (h : Fr base a w) (hB : base ≤ w.heap.size) (o : Obj) : Fr base a (w.alloc o) :=
  ⟨h.bel.alloc hB o, fun i C t f ht hi => by
    have h1 := h.other i C t f ht hi
    have hlt : i < w.heap.size := by
      rcases Nat.lt_or_ge i w.heap.size with h2 | h2
      · exact h2
      · rw [Array.getElem?_eq_none h2] at h1; cases h1
    rw [Below.heap_alloc w o i hlt]
    exact h1⟩
theorem Fr.size {base : Nat} {w w' : World} (h : Fr base w w') : w.heap.size ≤ w'.heap.size := h.bel.size

theorem grown_below {w w' : World} {base : Nat} {v : Value} {l : List UInt8} (h : Own w base v l) (hg : w.grownBy w' v.ownBlock) (hbase : base ≤ w.heap.size) : Fr base w w' :=
  ⟨(Below.refl _ _).grown hg hbase fun k hk => (World.ownsRow.lt h k hk).1, fun k C t f ht hk => by
    have hlt : k < w.heap.size := by
      rcases Nat.lt_or_ge k w.heap.size with h2 | h2
      · exact h2
      · rw [Array.getElem?_eq_none h2] at hk; cases hk
    rw [hg.block k hlt ?_]
    · exact hk
    · intro e
      rcases h.2 with ⟨hv, _⟩ | ⟨g, cap, cur, hv, _, hgg, _⟩
      · rw [hv] at e; cases e
      · rw [hv] at e
        simp only [Value.ownBlock, Option.some.injEq] at e
        subst e
        rw [hgg] at hk
        simp at hk
        exact ht hk.2.1.symm⟩

/-- 'append(out, ..)', the new bytes lying in a block of their own. -/
theorem wpList_app {ops : Array Oper} {rest : List Oper} {o : Oper} {a : Act} {Q : Exit → Act → World → Prop} (w : World) (hgd : o.guard = none) (s x : Operand)
    (ho : o.op = .call { callee := .builtin .append, args := #[s, x], argTypes := #[22, 22] }) (base : Nat) (v : Value) (l : List UInt8) (hs : a.eval s = v) (hown : Own w base v l)
    (g m c : Nat) (l2 : List UInt8) (hx : a.eval x = .slice (some ⟨g, 0, none⟩) m c) (hm : l2.length = m)
    (hnews : ∀ j (hj : j < l2.length), w.cell? ⟨g, j, none⟩ = some (.int .u8 (l2[j].toNat : Int))) (hlen : l.length + m ≤ 1099511627776) (hbase : base ≤ w.heap.size)
    (h : ∀ v' w', Own w' base v' (l ++ l2) → Fr base w w' → wpList Yba.prog ops Q rest (a.put o.dst v') w') : wpList Yba.prog ops Q (o :: rest) a w := by
  obtain ⟨i0, hi, hz0, hz1, hz2⟩ := info_parts info5
  refine wpList_append_own w hgd s x 22 ho base 5 i0 (.int .u8 0) 1 1 Yba.underlying22 hi hz0 hz1 hz2 rfl (by decide) v l.length (cellsB l) hs hown ⟨g, 0, none⟩ m c (cellsB l2) hx (by rw [cellsB_len, hm, Nat.mul_one])
    (fun j u hj => ?_) (cellsB_one l2) (by unfold maxLen; omega) (by omega) hbase fun v' w' h2 h3 _ => ?_
  · obtain ⟨hjl, rfl⟩ := cellsB_at hj
    have hadd : (⟨g, 0, none⟩ : Addr).add j = ⟨g, j, none⟩ := by simp only [Addr.add]; split <;> simp_all
    rw [hadd]
    exact hnews j hjl
  · refine h v' w' ?_ (grown_below hown h3 hbase)
    have e : cellsB (l ++ l2) = cellsB l ++ cellsB l2 := by simp [cellsB]
    unfold Own
    rw [e, List.length_append, hm]
    exact h2

/-- 'append(out, s...)', s a string. -/
theorem wpList_app_str {ops : Array Oper} {rest : List Oper} {o : Oper} {a : Act} {Q : Exit → Act → World → Prop} (w : World) (hgd : o.guard = none) (s x : Operand)
    (ho : o.op = .call { callee := .builtin .append, args := #[s, x], argTypes := #[22, 9] }) (base : Nat) (v : Value) (l : List UInt8) (hs : a.eval s = v) (hown : Own w base v l)
    (t : ByteArray) (hx : a.eval x = .string t) (hlen : l.length + t.size ≤ 1099511627776) (hbase : base ≤ w.heap.size)
    (h : ∀ v' w', Own w' base v' (l ++ t.data.toList) → Fr base w w' → wpList Yba.prog ops Q rest (a.put o.dst v') w') : wpList Yba.prog ops Q (o :: rest) a w := by
  obtain ⟨i0, hi, hz0, hz1, hz2⟩ := info_parts info5
  refine Lib.wpList_append_own_string w hgd s x 22 9 ho base 5 i0 Yba.underlying22 Yba.underlying9 hi hz0 hz1 hz2 v l.length (cellsB l) hs hown t hx (by unfold maxLen; omega) (by omega) hbase fun v' w' h2 h3 _ => ?_
  refine h v' w' ?_ (grown_below hown h3 hbase)
  have e : cellsB (l ++ t.data.toList) = cellsB l ++ Lib.strCells t := by simp [cellsB, Lib.strCells]
  have e2 : t.data.toList.length = t.size := rfl
  unfold Own
  rw [e, List.length_append, e2]
  exact h2

/-! ### The plain encoding: no Go in sight -/
/-- One byte of a number's low seven bits, the mark for 'more' set: as the Go text reckons it. -/
def hiB (x : Nat) : UInt8 := UInt8.ofNat (x % 256 ||| 128)
/-- A uvarint, with fuel. -/
def uvF : Nat → Nat → List UInt8
  | 0, x => [UInt8.ofNat x]
  | f + 1, x => if x < 128 then [UInt8.ofNat x] else hiB x :: uvF f (x / 128)
/-- A uvarint. -/
def uv (x : Nat) : List UInt8 := uvF x x
theorem uvF_fuel : ∀ (f g x : Nat), x ≤ f → x ≤ g → uvF f x = uvF g x
  | 0, 0, x, _, _ => rfl
  | 0, g + 1, x, h, _ => by obtain rfl : x = 0 := by omega
                            simp [uvF]
  | f + 1, 0, x, _, h => by obtain rfl : x = 0 := by omega
                            simp [uvF]
  | f + 1, g + 1, x, hf, hg => by
    unfold uvF
    split
    · rfl
    · rw [uvF_fuel f g (x / 128) (by omega) (by omega)]
theorem uv_lt (x : Nat) (h : x < 128) : uv x = [UInt8.ofNat x] := by
  unfold uv
  cases x with
  | zero => rfl
  | succ k => unfold uvF; rw [if_pos h]
theorem uv_ge (x : Nat) (h : 128 ≤ x) : uv x = hiB x :: uv (x / 128) := by
  unfold uv
  cases x with
  | zero => omega
  | succ k =>
    rw [uvF, if_neg (by omega)]
    rw [uvF_fuel k ((k + 1) / 128) ((k + 1) / 128) (by omega) (by omega)]
theorem uvF_len : ∀ (f x : Nat), (uvF f x).length ≤ f + 1
  | 0, _ => by simp [uvF]
  | f + 1, x => by
    unfold uvF
    split
    · simp
    · have := uvF_len f (x / 128)
      simp only [List.length_cons]
      omega
theorem uv_len (x : Nat) : (uv x).length ≤ x + 1 := uvF_len x x
theorem uv_pos (x : Nat) : 1 ≤ (uv x).length := by
  unfold uv
  cases x with
  | zero => simp [uvF]
  | succ k => unfold uvF; split <;> simp
/-- One string: its length, then its bytes. -/
def encS (s : ByteArray) : List UInt8 := uv s.size ++ s.data.toList
theorem encS_len (s : ByteArray) (h : s.size ≤ 4096) : (encS s).length ≤ 8193 := by
  unfold encS
  have := uv_len s.size
  have e : s.data.toList.length = s.size := rfl
  rw [List.length_append, e]
  omega
end Go.Proofs.Ybulkhqq
