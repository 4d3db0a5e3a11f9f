/-
  Seat b0419a: AppendUint64 of big-endian, AppendDuration, appendString and the law's own writer of strings, walked.
-/
import Derived.Test.YbulkhqqUv
namespace Go.Proofs.Ybulkhqq
open Go Go.RowKit

/-- The low byte of a number. -/
def byteOf (n : Int) : UInt8 := UInt8.ofNat (n % 256).toNat
theorem byteOf_val (n : Int) : n % 256 = ((byteOf n).toNat : Int) := by
  unfold byteOf
  rw [UInt8.toNat_ofNat']
  omega
/-- Eight bytes, the highest first. -/
def be8 (u : Int) : List UInt8 := [byteOf (u / 72057594037927936), byteOf (u / 281474976710656), byteOf (u / 1099511627776), byteOf (u / 4294967296), byteOf (u / 16777216), byteOf (u / 65536), byteOf (u / 256), byteOf u]

theorem cells_new {W : World} {C : Array Value} {l2 : List UInt8} (g : Nat) (hg : g = W.heap.size) (h : C = (cellsB l2).toArray) (t : TypeId) : ∀ j (hj : j < l2.length), (W.alloc (.cells C t)).cell? ⟨g, j, none⟩ = some (.int .u8 (l2[j].toNat : Int)) := by
  intro j hj
  subst h
  rw [World.cell?_alloc_at _ _ _ _ hg]
  simp [cellsB, List.getElem?_eq_getElem hj]

set_option maxRecDepth 100000 in
set_option maxHeartbeats 400000 in
theorem be16 (base : Nat) (v : Value) (l : List UInt8) (u : Int) (w : World) (hown : Own w base v l) (hbase : base ≤ w.heap.size) (hlen : Hid (l.length ≤ 1000000000)) :
    Calls Yba.prog 16 #[.agg #[], v, .int .u64 u] w fun e w' => ∃ v', e = .returned v' ∧ Own w' base v' (l ++ be8 u) ∧ Fr base w w' := by
  go_enter Yba.func16, Yba.ntmps16
  go_wp2_with (at_builtin; refine wpList_app _ rfl _ _ rfl base _ l rfl ((hown.alloc _).alloc _) (w.heap.size + 1) 8 8 (be8 u) rfl rfl (cells_new _ (by simp) (by simp [be8, cellsB, ← byteOf_val]) 5) (by have := hlen.out; omega) (by simp; omega) ?_; intro v1 w1 hown2 hb2)
  go_ret
  exact ⟨_, rfl, hown2, (((Fr.refl _ _).alloc hbase _).alloc (by simp; omega) _).trans hb2⟩

set_option maxRecDepth 100000 in
theorem dur13 (base : Nat) (v : Value) (l : List UInt8) (d : Int) (w : World) (hown : Own w base v l) (hbase : base ≤ w.heap.size) (hlen : Hid (l.length ≤ 1000000000)) :
    Calls Yba.prog 13 #[v, .int .i64 d] w fun e w' => ∃ v', e = .returned v' ∧ Own w' base v' (l ++ be8 (IntKind.u64.wrap d)) ∧ Fr base w w' := by
  go_enter Yba.func13, Yba.ntmps13
  go_wp2_with fail
  refine (be16 base v l _ _ hown hbase hlen).mono ?_
  rintro e w1 ⟨v1, rfl, h1, h2⟩
  go_wp2
  go_ret
  exact ⟨_, rfl, h1, h2⟩

set_option maxRecDepth 100000 in
theorem str15 (base : Nat) (v : Value) (l : List UInt8) (s : ByteArray) (w : World) (hs : s.size ≤ 4096) (hown : Own w base v l) (hbase : base ≤ w.heap.size) (hlen : Hid (l.length ≤ 1000000000)) :
    Calls Yba.prog 15 #[v, .string s] w fun e w' => ∃ v', e = .returned v' ∧ Own w' base v' (l ++ encS s) ∧ Fr base w w' := by
  go_enter Yba.func15, Yba.ntmps15
  go_wp2_with fail
  refine (uv14 base v l s.size _ hs hown hbase hlen).mono ?_
  rintro e w1 ⟨v1, rfl, h1, h2⟩
  have hl : Hid ((l ++ uv s.size).length + s.size ≤ 1099511627776) := by
    have a1 := hlen.out
    have a2 := uv_len s.size
    show _ ≤ _
    rw [List.length_append]
    omega
  have hsz := h2.size
  go_wp2_with (at_builtin; refine wpList_app_str _ rfl _ _ rfl base _ (l ++ uv s.size) rfl h1 s rfl hl.out (by omega) ?_; intro v2 w2 hown2 hb2)
  go_ret
  refine ⟨_, rfl, ?_, h2.trans hb2⟩
  unfold encS
  rw [← List.append_assoc]
  exact hown2

set_option maxRecDepth 100000 in
set_option maxHeartbeats 400000 in
theorem str10 (base : Nat) (v : Value) (l : List UInt8) (s : ByteArray) (w : World) (hs : s.size ≤ 4096) (hown : Own w base v l) (hbase : base ≤ w.heap.size) (hlen : Hid (l.length ≤ 1000000000)) :
    Calls Yba.prog 10 #[v, .string s] w fun e w' => ∃ v', e = .returned v' ∧ Own w' base v' (l ++ encS s) ∧ Fr base w w' := by
  go_enter Yba.func10, Yba.ntmps10
  go_wp2_with fail
  refine (uv9 base v l s.size _ hs hown hbase hlen).mono ?_
  rintro e w1 ⟨v1, rfl, h1, h2⟩
  have hl : Hid ((l ++ uv s.size).length ≤ 1000010000) := by
    have a1 := hlen.out
    have a2 := uv_len s.size
    show _ ≤ _
    rw [List.length_append]
    omega
  have hsz := h2.size
  clear hown
  go_wp2
  go_loopw [0, 5] (fun o i wr => ∃ k : Nat, k ≤ s.size ∧ i = .int .i64 k ∧ Own wr base o (l ++ uv s.size ++ s.data.toList.take k) ∧ Fr base w wr)
    (fun _ i _ => s.size - (intOf i).toNat)
  case atStart => exact ⟨0, by omega, rfl, by simpa using h1, h2⟩
  case round =>
    obtain ⟨k, hk, rfl, hown1, hbel⟩ := hrel
    have hsz1 := hbel.size
    by_cases hlt : k < s.size
    · have hl1 : Hid ((l ++ uv s.size ++ s.data.toList.take k).length + 1 ≤ 1099511627776) := by
        have a1 := hl.out
        show _ ≤ _
        have a3 : (s.data.toList.take k).length ≤ k := List.length_take_le _ _
        rw [List.length_append]
        omega
      have hst : l ++ uv s.size ++ s.data.toList.take k ++ [s[k]] = l ++ uv s.size ++ s.data.toList.take (k + 1) := by
        rw [List.append_assoc _ (s.data.toList.take k), List.take_succ_eq_append_getElem (i := k) (by simpa using hlt)]
        rfl
      have HST : Hid (l ++ uv s.size ++ s.data.toList.take k ++ [s[k]] = l ++ uv s.size ++ s.data.toList.take (k + 1)) := hst
      clear hst
      go_wp2_with (at_builtin; refine wpList_app _ rfl _ _ rfl base _ _ rfl (hown1.alloc _) wr.heap.size 1 1 [s[k]] rfl rfl (one_cell rfl 5) hl1.out (by simp; omega) ?_; intro v3 w3 hown3 hb3)
      rw [HST.out] at hown3
      go_roundw
      case rel => exact ⟨k + 1, by omega, by go_num, hown3, (hbel.alloc (by omega) _).trans hb3⟩
      case measure => simp [intOf]; omega
    · go_wp2
      go_ret
      refine ⟨_, rfl, ?_, hbel⟩
      rw [List.take_of_length_le (by simp; omega), List.append_assoc] at hown1
      exact hown1
end Go.Proofs.Ybulkhqq
