/-
  Seat b0419a: the two writers of uvarints (the law's own and the library's: one text), walked.
-/
import Derived.Test.YbulkhqqOwn
import Derived.Laws.BitsAllLaws
namespace Go.Proofs.Ybulkhqq
open Go Go.RowKit

theorem hiB_val (y : Nat) : (bits BinOp.or IntKind.u8 ((y : Int) % 256) 128) = ((hiB y).toNat : Int) := by
  have h := u8_or ((y : Int) % 256) 128 (by omega) (by omega) (by omega) (by omega)
  rw [h]
  have e : ((y : Int) % 256).toNat = y % 256 := by omega
  have e2 : (128 : Int).toNat = 128 := rfl
  rw [e, e2]
  have hlt : (y % 256 ||| 128) < 256 := Nat.or_lt_two_pow (n := 8) (by omega) (by omega)
  unfold hiB
  rw [UInt8.toNat_ofNat', Nat.mod_eq_of_lt hlt]

theorem one_cell {w : World} {n : Int} {b : UInt8} (h : n = (b.toNat : Int)) (t : TypeId) : ∀ j (hj : j < [b].length), (w.alloc (.cells #[.int .u8 n] t)).cell? ⟨w.heap.size, j, none⟩ = some (.int .u8 ([b][j].toNat : Int)) := by
  intro j hj
  obtain rfl : j = 0 := by simpa using hj
  subst h
  rw [World.cell?_alloc_at _ _ _ _ rfl]
  simp

set_option maxRecDepth 100000 in
set_option maxHeartbeats 400000 in
theorem uv9 (base : Nat) (v : Value) (l : List UInt8) (x : Nat) (w : World) (hx : x ≤ 4096) (hown : Own w base v l) (hbase : base ≤ w.heap.size) (hlen : Hid (l.length ≤ 1000000000)) :
    Calls Yba.prog 9 #[v, .int .u64 x] w fun e w' => ∃ v', e = .returned v' ∧ Own w' base v' (l ++ uv x) ∧ Fr base w w' := by
  go_enter Yba.func9, Yba.ntmps9
  go_wp2
  go_loopw [0, 1] (fun o i wr => ∃ (l1 : List UInt8) (y : Nat), i = .int .u64 y ∧ y ≤ 4096 ∧ Own wr base o l1 ∧ Hid (l1 ++ uv y = l ++ uv x) ∧ Fr base w wr)
    (fun _ i _ => (intOf i).toNat)
  case atStart => exact ⟨l, x, rfl, hx, hown, rfl, Fr.refl _ _⟩
  case round =>
    obtain ⟨l1, y, rfl, hy, hown1, heq, hbel⟩ := hrel
    have hsz := hbel.size
    have hl1 : Hid (l1.length + 1 ≤ 1099511627776) := by
      have h1 := congrArg List.length heq.out
      have h2 := uv_len x
      have h3 := hlen.out
      have h4 := uv_pos y
      simp only [List.length_append] at h1
      show _ ≤ _
      omega
    by_cases h : 128 ≤ y
    · have hst : Hid (l1 ++ [hiB y] ++ uv (y / 128) = l ++ uv x) := by
        show _ = _
        rw [← heq.out, uv_ge y h, List.append_assoc]
        rfl
      clear heq
      go_wp2_with (at_builtin; refine wpList_app _ rfl _ _ rfl base _ l1 rfl (hown1.alloc _) wr.heap.size 1 1 [hiB y] rfl rfl (one_cell (hiB_val y) 5) hl1.out (by simp; omega) ?_; intro v1 w1 hown2 hb2)
      go_roundw
      case rel => exact ⟨_, y / 128, by go_num, by omega, hown2, hst, (hbel.alloc (by omega) _).trans hb2⟩
      case measure => simp [intOf]; omega
    · have hst : Hid (l1 ++ [UInt8.ofNat y] = l ++ uv x) := by
        show _ = _
        rw [← heq.out, uv_lt y (by omega)]
      clear heq
      go_wp2_with (at_builtin; refine wpList_app _ rfl _ _ rfl base _ l1 rfl (hown1.alloc _) wr.heap.size 1 1 [UInt8.ofNat y] rfl rfl (one_cell (by rw [UInt8.toNat_ofNat']; omega) 5) hl1.out (by simp; omega) ?_; intro v1 w1 hown2 hb2)
      go_ret
      exact ⟨_, rfl, by rw [← hst.out]; exact hown2, (hbel.alloc (by omega) _).trans hb2⟩

set_option maxRecDepth 100000 in
set_option maxHeartbeats 400000 in
theorem uv14 (base : Nat) (v : Value) (l : List UInt8) (x : Nat) (w : World) (hx : x ≤ 4096) (hown : Own w base v l) (hbase : base ≤ w.heap.size) (hlen : Hid (l.length ≤ 1000000000)) :
    Calls Yba.prog 14 #[v, .int .u64 x] w fun e w' => ∃ v', e = .returned v' ∧ Own w' base v' (l ++ uv x) ∧ Fr base w w' := by
  go_enter Yba.func14, Yba.ntmps14
  go_wp2
  go_loopw [0, 1] (fun o i wr => ∃ (l1 : List UInt8) (y : Nat), i = .int .u64 y ∧ y ≤ 4096 ∧ Own wr base o l1 ∧ Hid (l1 ++ uv y = l ++ uv x) ∧ Fr base w wr)
    (fun _ i _ => (intOf i).toNat)
  case atStart => exact ⟨l, x, rfl, hx, hown, rfl, Fr.refl _ _⟩
  case round =>
    obtain ⟨l1, y, rfl, hy, hown1, heq, hbel⟩ := hrel
    have hsz := hbel.size
    have hl1 : Hid (l1.length + 1 ≤ 1099511627776) := by
      have h1 := congrArg List.length heq.out
      have h2 := uv_len x
      have h3 := hlen.out
      have h4 := uv_pos y
      simp only [List.length_append] at h1
      show _ ≤ _
      omega
    by_cases h : 128 ≤ y
    · have hst : Hid (l1 ++ [hiB y] ++ uv (y / 128) = l ++ uv x) := by
        show _ = _
        rw [← heq.out, uv_ge y h, List.append_assoc]
        rfl
      clear heq
      go_wp2_with (at_builtin; refine wpList_app _ rfl _ _ rfl base _ l1 rfl (hown1.alloc _) wr.heap.size 1 1 [hiB y] rfl rfl (one_cell (hiB_val y) 5) hl1.out (by simp; omega) ?_; intro v1 w1 hown2 hb2)
      go_roundw
      case rel => exact ⟨_, y / 128, by go_num, by omega, hown2, hst, (hbel.alloc (by omega) _).trans hb2⟩
      case measure => simp [intOf]; omega
    · have hst : Hid (l1 ++ [UInt8.ofNat y] = l ++ uv x) := by
        show _ = _
        rw [← heq.out, uv_lt y (by omega)]
      clear heq
      go_wp2_with (at_builtin; refine wpList_app _ rfl _ _ rfl base _ l1 rfl (hown1.alloc _) wr.heap.size 1 1 [UInt8.ofNat y] rfl rfl (one_cell (by rw [UInt8.toNat_ofNat']; omega) 5) hl1.out (by simp; omega) ?_; intro v1 w1 hown2 hb2)
      go_ret
      exact ⟨_, rfl, by rw [← hst.out]; exact hown2, (hbel.alloc (by omega) _).trans hb2⟩
end Go.Proofs.Ybulkhqq
