/-
  Seat b0419a: the walk of LawS0419AFresh.
-/
import Derived.Test.YbulkhqqParse
import Derived.Laws.CopyOwn
namespace Go.Proofs.Ybulkhqq
open Go Go.RowKit

theorem Yba.info5 : (Yba.prog.info? 5).map (fun i => (i.zero, i.size, i.bytes)) = some (some (.int .u8 0), 1, 1) := by kernel_rfl
theorem Yba.size5 : (Yba.prog.info? 5).map (·.size) = some 1 := by kernel_rfl

theorem fresh_long (ao : Option Addr) (n cap : Nat) (w : World) (hn : 4096 < n) (hm : n ≤ maxLen) :
    Calls Yba.prog 4 #[.slice ao n cap] w fun e w' => e = .returned (.bool true) ∧ Below w.heap.size w w' := by
  unfold maxLen at hm
  go_enter Yba.func4, Yba.ntmps4
  go_wp2
  go_ret
  exact ⟨rfl, Below.refl _ _⟩

/-- What is asked of the argument: the bytes S lie at its address, if there are any. -/
def Src (w : World) (ao : Option Addr) (S : List UInt8) : Prop :=
  0 < S.length → ∃ b off, ao = some ⟨b, off, none⟩ ∧ b < w.heap.size ∧ ∀ i (hi : i < S.length), w.cell? ⟨b, off + i, none⟩ = some (.int .u8 (S[i].toNat : Int))

/-- 'b := make([]byte, len(body)); copy(b, body)': behind it the new row holds the bytes. -/
theorem run_copy_src {P : Program} (w : World) (ao : Option Addr) (n cap : Nat) (S : List UInt8) (hS : S.length = n) (hsrc : Src w ao S) (t ty e : TypeId) (hu : P.underlying t = some (.slice e)) (hsz : (P.info? e).map (·.size) = some 1) :
    ∃ w1, (Builtin.copy_ #[t, t] ty #[.slice (some ⟨w.heap.size, 0, none⟩) n n, .slice ao n cap]).run P (w.alloc (.cells (madeCells #[.int .u8 0] n) e)) = .ok (.int .i64 n) w1 ∧
      HoldsB w1 w.heap.size S ∧ Below w.heap.size w w1 ∧ w1.heap.size = w.heap.size + 1 := by
  have hbel : Below w.heap.size w (w.alloc (.cells (madeCells #[.int .u8 0] n) e)) := (Below.refl _ _).alloc (Nat.le_refl _) _
  by_cases h0 : n = 0
  · subst h0
    obtain rfl : S = [] := List.eq_nil_of_length_eq_zero hS
    exact ⟨_, run_copy_none _ t t ty e _ _ _ _ _ _ hu hsz (by simp), HoldsB.made w 0 e, hbel, by simp⟩
  · obtain ⟨b, off, rfl, hb, hc⟩ := hsrc (by omega)
    have hrun := run_copy_row (P := P) (w.alloc (.cells (madeCells #[.int .u8 0] n) e)) t t ty e w.heap.size 0 n n ⟨b, off, none⟩ n cap (List.replicate n (Value.int .u8 0)).toArray e (cellsB S) hu hsz
      (made_block w n e) (by rw [cellsB_len, hS]; simp) (fun j v hj => by
        obtain ⟨hjl, rfl⟩ := cellsB_at hj
        have hadd : (⟨b, off, none⟩ : Addr).add j = ⟨b, off + j, none⟩ := by unfold Addr.add; split <;> simp_all
        rw [hadd, World.cell?_alloc_lt _ _ _ hb]
        exact hc j hjl) (by simp [cellsB_len, hS]) (cellsB_one S)
    have el : (List.replicate n (Value.int .u8 0)).toArray.toList.take 0 ++ cellsB S ++ (List.replicate n (Value.int .u8 0)).toArray.toList.drop (0 + (cellsB S).length) = cellsB S := by
      simp [cellsB_len, hS]
    rw [el, cellsB_len, hS] at hrun
    refine ⟨_, hrun, HoldsB.ofBlock (t := e) ?_, below_setRow hbel (Nat.le_refl _) _, by simp [World.setRow]⟩
    exact setRow_heap _ w.heap.size _ _ e _ (made_block w n e)

theorem fresh_short (ao : Option Addr) (n cap : Nat) (S : List UInt8) (w : World) (hS : S.length = n) (hsrc : Src w ao S) (hn : n < 2) :
    Calls Yba.prog 4 #[.slice ao n cap] w fun e w' => e = .returned (.bool true) ∧ Below w.heap.size w w' := by
  obtain ⟨i0, hi, hz0, hz1, hz2⟩ := info_parts Yba.info5
  have hmk := fun wx => run_make (P := Yba.prog) wx 22 5 i0 _ Yba.underlying22 hi hz0 .i64 .i64 n n (by omega) (by omega) (by rw [hz2]; omega) (by omega)
  obtain ⟨w1, hcp, hrow, hb1, hs1⟩ := run_copy_src (P := Yba.prog) w ao n cap S hS hsrc 22 3 5 Yba.underlying22 Yba.size5
  have HS1 : Hid (w1.heap.size = w.heap.size + 1) := hs1
  clear hs1 hsrc hS
  go_enter Yba.func4, Yba.ntmps4
  go_wp2_with (go_at_call 6; refine (parse_short _ _ _ _ hn).mono ?_; rintro e w2 ⟨⟨a, rfl⟩, hb2⟩)
  go_ret
  have := HS1.out
  have hs2 := hb2.size
  exact ⟨rfl, (hb1.trans (hb2.mono (by omega))).alloc (by omega) _⟩

theorem fresh_bad (b off n cap : Nat) (S : List UInt8) (w : World) (hS : S.length = n) (hb : b < w.heap.size)
    (hcell : ∀ i (hi : i < S.length), w.cell? ⟨b, off + i, none⟩ = some (.int .u8 (S[i].toNat : Int))) (hn : 2 ≤ n) (hnm : n ≤ 4096) (hx : 1 < S[0].toNat) :
    Calls Yba.prog 4 #[.slice (some ⟨b, off, none⟩) n cap] w fun e w' => e = .returned (.bool true) ∧ Below w.heap.size w w' := by
  obtain ⟨i0, hi, hz0, hz1, hz2⟩ := info_parts Yba.info5
  have hmk := fun wx => run_make (P := Yba.prog) wx 22 5 i0 _ Yba.underlying22 hi hz0 .i64 .i64 n n (by omega) (by omega) (by rw [hz2]; omega) (by omega)
  obtain ⟨w1, hcp, hrow, hb1, hs1⟩ := run_copy_src (P := Yba.prog) w (some ⟨b, off, none⟩) n cap S hS (fun _ => ⟨b, off, rfl, hb, hcell⟩) 22 3 5 Yba.underlying22 Yba.size5
  have HS1 : Hid (w1.heap.size = w.heap.size + 1) := hs1
  have g0 := hrow.1 0 (by omega)
  have c0 := hcell 0 (by omega)
  rw [Nat.add_zero] at c0
  generalize S[0].toNat = m at hx g0 c0
  have P := parse_bad w.heap.size 0 n n m w1 hn hnm (by omega) (by omega) g0
  have PP : Hid (Calls Yba.prog 6 #[.slice (some ⟨w.heap.size, 0, none⟩) n n] w1 fun e w' => (∃ a, e = .returned (.tuple #[.agg #[.string ⟨#[]⟩, .bool false], .iface 44 (.pointer (some a))])) ∧ Below w1.heap.size w1 w') := P
  clear P hs1 hS hcell hrow
  have hcl : (0 : Int) < (n : Int) := by omega
  have hm1 : decide ((1 : Int) < (m : Int)) = true := decide_eq_true (by omega)
  go_enter Yba.func4, Yba.ntmps4
  go_wp2_with fail
  refine Calls.mono PP.out ?_
  rintro e w2 ⟨⟨a, rfl⟩, hb2⟩
  clear PP
  have := HS1.out
  have hs2 := hb2.size
  have d0 := ((hb1.trans (hb2.mono (by omega))).cell (p := ⟨b, off, none⟩) hb).trans c0
  have hb3 : b < w2.heap.size := by omega
  have hsz : w.heap.size + 1 ≤ w2.heap.size := by omega
  clear this
  go_wp2
  go_ret
  exact ⟨by simp, (hb1.trans (hb2.mono (by have := HS1.out; omega))).alloc (by omega) _⟩

set_option maxHeartbeats 400000 in
theorem fresh_good (b off n cap : Nat) (S : List UInt8) (w : World) (hS : S.length = n) (hb : b < w.heap.size)
    (hcell : ∀ i (hi : i < S.length), w.cell? ⟨b, off + i, none⟩ = some (.int .u8 (S[i].toNat : Int))) (hn : 2 ≤ n) (hnm : n ≤ 4096) (hx : S[0].toNat ≤ 1) :
    Calls Yba.prog 4 #[.slice (some ⟨b, off, none⟩) n cap] w fun e w' => e = .returned (.bool true) ∧ Below w.heap.size w w' := by
  obtain ⟨i0, hi, hz0, hz1, hz2⟩ := info_parts Yba.info5
  have hmk := fun wx => run_make (P := Yba.prog) wx 22 5 i0 _ Yba.underlying22 hi hz0 .i64 .i64 n n (by omega) (by omega) (by rw [hz2]; omega) (by omega)
  obtain ⟨w1, hcp, hrow, hb1, hs1⟩ := run_copy_src (P := Yba.prog) w (some ⟨b, off, none⟩) n cap S hS (fun _ => ⟨b, off, rfl, hb, hcell⟩) 22 3 5 Yba.underlying22 Yba.size5
  have HS1 : Hid (w1.heap.size = w.heap.size + 1) := hs1
  have g0 := hrow.1 0 (by omega)
  have q1 := hrow.1 1 (by omega)
  have f1 := hrow.2 1 (by omega)
  obtain ⟨T, et, hTg⟩ : ∃ T : ByteArray, T.size = n - 1 ∧ ∀ i (hi : i < T.size) (h' : 0 + 1 + i < S.length), T[i] = S[0 + 1 + i] := by
    refine ⟨⟨(S.drop 1).toArray⟩, ?_, fun i hi h' => ?_⟩
    · show (S.drop 1).toArray.size = n - 1
      simp [hS]
    · show (S.drop 1).toArray[i]'hi = _
      simp [Nat.add_comm]
  have P := parse_good' w.heap.size 0 n n T S[0].toNat w1 hn hnm (by omega) (by omega) g0 (Nat.le_refl _) et (fun i hi => by
    rw [hrow.1 (0 + 1 + i) (by omega), hTg i hi (by omega)])
  have hp0 : 0 < T.size := by omega
  have eb := hTg 0 hp0 (by omega)
  have ezz : ((T.size : Int) == (n : Int) - 1) = true := by rw [et, beq_iff_eq]; omega
  generalize S[0].toNat = m at P
  have g1 : w1.cell? ⟨w.heap.size, 1, none⟩ = some (.int .u8 (T[0].toNat : Int)) := by rw [q1, eb]
  clear q1
  have PP : Hid (Calls Yba.prog 6 #[.slice (some ⟨w.heap.size, 0, none⟩) n n] w1 fun e w' => e = .returned (.tuple #[.agg #[.string T, .bool ((m : Int) == 1)], .nilIface]) ∧ Below w1.heap.size w1 w') := P
  clear P hs1 hcell hrow g0 eb et hx hTg hS
  generalize ((m : Int) == 1) = q at PP
  have hcl : (1 : Int) < (n : Int) := by omega
  go_enter Yba.func4, Yba.ntmps4
  go_wp2_with fail
  refine Calls.mono PP.out ?_
  rintro e w2 ⟨rfl, hb2⟩
  clear PP hcp hmk
  have := HS1.out
  have hs2 := hb2.size
  have d1 := (hb2.cell (p := ⟨w.heap.size, 1, none⟩) (by show w.heap.size < _; omega)).trans g1
  have e1 := (hb2.frozen (p := ⟨w.heap.size, 1, none⟩) (by show w.heap.size < _; omega)).trans f1
  have hsz : w.heap.size < w2.heap.size := by omega
  clear this
  go_wp2
  go_ret
  exact ⟨rfl, ((hb1.trans (hb2.mono (by have := HS1.out; omega))).setCell (Nat.le_refl _) _).alloc (by simp; omega) _⟩
end Go.Proofs.Ybulkhqq
