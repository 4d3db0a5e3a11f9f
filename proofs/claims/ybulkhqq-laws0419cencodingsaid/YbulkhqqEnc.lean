/-
  Seat b0419a: the walk of LawS0419CEncoding.
-/
import Derived.Test.YbulkhqqEqual
import Derived.Test.YbulkhqqFresh
namespace Go.Proofs.Ybulkhqq
open Go Go.RowKit

theorem enc_long (ao aA aE : Option Addr) (n c nA cA nE cE : Nat) (d : Int) (w : World) (hn : 1024 < n) (hm : n ≤ maxLen) :
    Calls Yba.prog 5 #[.slice ao n c, .slice aA nA cA, .slice aE nE cE, .int .i64 d] w fun e w' => e = .returned (.bool true) ∧ Below w.heap.size w w' := by
  unfold maxLen at hm
  go_enter Yba.func5, Yba.ntmps5
  go_wp2
  go_ret
  exact ⟨rfl, Below.refl _ _⟩

theorem enc_bigA (ao aA aE : Option Addr) (n c nA cA nE cE : Nat) (d : Int) (args : List ByteArray) (w : World) (hn : n ≤ 1024)
    (hA : args.length = nA) (hmA : nA ≤ maxLen) (srcA : SrcS w w.heap.size aA args) (hsA : ∀ s ∈ args, s.size ≤ maxLen) (hb : tooBig args = true) :
    Calls Yba.prog 5 #[.slice ao n c, .slice aA nA cA, .slice aE nE cE, .int .i64 d] w fun e w' => e = .returned (.bool true) ∧ Below w.heap.size w w' := by
  have P := big7 w.heap.size aA nA cA args w hA hmA srcA hsA
  rw [hb] at P
  have PP : Hid (Calls Yba.prog 7 #[.slice aA nA cA] w fun e w' => e = .returned (.bool true) ∧ w = w') := P
  clear P hsA srcA hA hb
  go_enter Yba.func5, Yba.ntmps5
  go_wp2_with fail
  refine Calls.mono PP.out ?_
  rintro e w1 ⟨rfl, rfl⟩
  go_wp2
  go_ret
  exact ⟨rfl, Below.refl _ _⟩

theorem enc_bigE (ao aA aE : Option Addr) (n c nA cA nE cE : Nat) (d : Int) (args env : List ByteArray) (w : World) (hn : n ≤ 1024)
    (hA : args.length = nA) (hmA : nA ≤ maxLen) (srcA : SrcS w w.heap.size aA args) (hsA : ∀ s ∈ args, s.size ≤ maxLen) (hb : tooBig args = false)
    (hE : env.length = nE) (hmE : nE ≤ maxLen) (srcE : SrcS w w.heap.size aE env) (hsE : ∀ s ∈ env, s.size ≤ maxLen) (hb2 : tooBig env = true) :
    Calls Yba.prog 5 #[.slice ao n c, .slice aA nA cA, .slice aE nE cE, .int .i64 d] w fun e w' => e = .returned (.bool true) ∧ Below w.heap.size w w' := by
  have P := big7 w.heap.size aA nA cA args w hA hmA srcA hsA
  rw [hb] at P
  have PP : Hid (Calls Yba.prog 7 #[.slice aA nA cA] w fun e w' => e = .returned (.bool false) ∧ w = w') := P
  have P2 := big7 w.heap.size aE nE cE env w hE hmE srcE hsE
  rw [hb2] at P2
  have PP2 : Hid (Calls Yba.prog 7 #[.slice aE nE cE] w fun e w' => e = .returned (.bool true) ∧ w = w') := P2
  clear P P2 hsA srcA hA hb hE hb2 srcE hsE
  go_enter Yba.func5, Yba.ntmps5
  go_wp2_with fail
  refine Calls.mono PP.out ?_
  rintro e w1 ⟨rfl, rfl⟩
  go_wp2_with fail
  refine Calls.mono PP2.out ?_
  rintro e w1 ⟨rfl, rfl⟩
  go_wp2
  go_ret
  exact ⟨rfl, Below.refl _ _⟩

/-- 'bb := make([]byte, len(b)); copy(bb, b)': the row is owned. -/
theorem run_copy_own {P : Program} (w : World) (ao : Option Addr) (n cap : Nat) (S : List UInt8) (hS : S.length = n) (hn : n ≤ 1024) (hsrc : Src w ao S) (t ty : TypeId) (hu : P.underlying t = some (.slice 5)) (hsz : (P.info? 5).map (·.size) = some 1) :
    ∃ w1, (Builtin.copy_ #[t, t] ty #[.slice (some ⟨w.heap.size, 0, none⟩) n n, .slice ao n cap]).run P (w.alloc (.cells (madeCells #[.int .u8 0] n) 5)) = .ok (.int .i64 n) w1 ∧
      Own w1 w.heap.size (.slice (some ⟨w.heap.size, 0, none⟩) n n) S ∧ Below w.heap.size w w1 ∧ w1.heap.size = w.heap.size + 1 := by
  have hbel : Below w.heap.size w (w.alloc (.cells (madeCells #[.int .u8 0] n) 5)) := (Below.refl _ _).alloc (Nat.le_refl _) _
  have fin : ∀ w1 : World, w1.heap[w.heap.size]? = some (.cells (cellsB S).toArray 5 (0, 0)) → Own w1 w.heap.size (.slice (some ⟨w.heap.size, 0, none⟩) n n) S := fun w1 h => by
    refine ⟨by rw [cellsB_len, Nat.mul_one], .inr ⟨w.heap.size, n, _, by rw [hS], Nat.le_refl _, h, by omega, by unfold maxLen; omega, by simp [cellsB_len, hS], ?_⟩⟩
    rw [List.take_of_length_le (by simp [cellsB_len])]
  by_cases h0 : n = 0
  · subst h0
    obtain rfl : S = [] := List.eq_nil_of_length_eq_zero hS
    exact ⟨_, run_copy_none _ t t ty 5 _ _ _ _ _ _ hu hsz (by simp), fin _ (made_block w 0 5), hbel, by simp⟩
  · obtain ⟨b, off, rfl, hb, hc⟩ := hsrc (by omega)
    have hrun := run_copy_row (P := P) (w.alloc (.cells (madeCells #[.int .u8 0] n) 5)) t t ty 5 w.heap.size 0 n n ⟨b, off, none⟩ n cap (List.replicate n (Value.int .u8 0)).toArray 5 (cellsB S) hu hsz
      (made_block w n 5) (by rw [cellsB_len, hS]; simp) (fun j v hj => by
        obtain ⟨hjl, rfl⟩ := cellsB_at hj
        have hadd : (⟨b, off, none⟩ : Addr).add j = ⟨b, off + j, none⟩ := by unfold Addr.add; split <;> simp_all
        rw [hadd, World.cell?_alloc_lt _ _ _ hb]
        exact hc j hjl) (by simp [cellsB_len, hS]) (cellsB_one S)
    have el : (List.replicate n (Value.int .u8 0)).toArray.toList.take 0 ++ cellsB S ++ (List.replicate n (Value.int .u8 0)).toArray.toList.drop (0 + (cellsB S).length) = cellsB S := by
      simp [cellsB_len, hS]
    rw [el, cellsB_len, hS] at hrun
    refine ⟨_, hrun, fin _ ?_, below_setRow hbel (Nat.le_refl _) _, by simp [World.setRow]⟩
    exact setRow_heap _ w.heap.size _ _ 5 _ (made_block w n 5)

/-- 'want := make([]byte, 0, n)' owns nothing yet. -/
theorem own_made (w : World) (n : Nat) (hn : n ≤ 1024) : Own (w.alloc (.cells (madeCells #[.int .u8 0] n) 5)) w.heap.size (.slice (some ⟨w.heap.size, 0, none⟩) 0 n) [] :=
  World.ownsRow_made w _ n (Nat.le_refl _) (by unfold maxLen; omega) (by simp [madeCells])
end Go.Proofs.Ybulkhqq
