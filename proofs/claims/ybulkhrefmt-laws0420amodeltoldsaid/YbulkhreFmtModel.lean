/-
  Seat b0420aF: the walk of LawS0420AModel.
-/
import Derived.Test.YbulkhreFmtModelFn
import Derived.Test.YbulkhreFmtBytes
namespace Go.Proofs.YbulkhreFmt
open Go Go.RowKit Go.Extern.Stop Go.Stop Go.Extern

theorem infoM : (Ybaf.prog.info? 5).map (fun i => (i.zero, i.size, i.bytes)) = some (some (.int .u8 0), 1, 1) := by kernel_rfl

theorem law_long (ao : Option Addr) (n cap : Nat) (w : World) (hn : 1024 < n) (hm : n ≤ maxLen) :
    Calls Ybaf.prog 4 #[.slice ao n cap] w fun e w' => e = .returned (.bool true) ∧ Below w.heap.size w w' := by
  unfold maxLen at hm
  go_enter Ybaf.func4, Ybaf.ntmps4
  go_wp2
  go_ret
  exact ⟨rfl, Below.refl _ _⟩

theorem rd_row {w : World} {g n : Nat} {D : List UInt8} (h : HoldsB w g D) (hl : D.length = n) (hg : g < w.heap.size) : Rd (w.alloc (.cells (rdC g n n 0 .nilIface) 31)) w.heap.size g n n D 0 .nilIface :=
  ⟨heap_alloc_new w _, fun j hj => by rw [World.cell?_alloc_lt _ _ _ hg]; exact h.1 j hj, hl, by omega⟩

theorem below_gb' {w a b : World} {B g : Nat} (h : Below B w a) (hgb : a.grownBy b (some g)) (hB : B ≤ a.heap.size) (hg : B ≤ g) : Below B w b :=
  h.grown hgb hB fun k hk => by simp at hk; omega
/-- The reader and the model agree. -/
theorem agree {D : List UInt8} {i val val2 k k2 : Nat} {ok ok2 : Bool} (h1 : UPost D i val k ok) (h2 : UPost D i val2 k2 ok2) : (ok = true ∧ ok2 = true ∧ val = val2 ∧ k = k2) ∨ (ok = false ∧ ok2 = false ∧ val = 0) := by
  by_cases g : Good D i
  · obtain ⟨a, b, c⟩ := h1.good g
    obtain ⟨a2, b2, c2⟩ := h2.good g
    exact .inl ⟨a, a2, b.trans b2.symm, c.trans c2.symm⟩
  · exact .inr ⟨(h1.bad g).1, (h2.bad g).1, (h1.bad g).2⟩

set_option maxRecDepth 100000 in
set_option maxHeartbeats 1000000 in
theorem law_main (F : Interp) (ao : Option Addr) (n cap : Nat) (z : List Int) (w : World) (hn : n ≤ 1024)
    (hsrc : 0 < n → ∃ b off, ao = some ⟨b, off, none⟩ ∧ b < w.heap.size ∧ ∀ i, i < n → w.cell? ⟨b, off + i, none⟩ = some (.int .u8 (z.getD i 0))) (hz : ∀ i, 0 ≤ z.getD i 0 ∧ z.getD i 0 ≤ 255) (hF : F.answers w.tape) :
    Calls Ybaf.prog 4 #[.slice ao n cap] w fun e w' => e = .returned (.bool true) ∧ Below w.heap.size w w' := by
  obtain ⟨i0, hi, hz0, hz1, hz2⟩ := info_parts infoM
  have hmk := fun wx => run_make (P := Ybaf.prog) wx 24 5 i0 _ Ybaf.underlying24 hi hz0 .i64 .i64 n n (by omega) (by omega) (by rw [hz2]; omega) (by omega)
  have HF : Hid (F.answers w.tape) := hF
  have HC : Hid (0 < n → ∃ b off, ao = some ⟨b, off, none⟩ ∧ b < w.heap.size ∧ ∀ i, i < n → w.cell? ⟨b, off + i, none⟩ = some (.int .u8 (z.getD i 0))) := hsrc
  have HZ : Hid (∀ i, 0 ≤ z.getD i 0 ∧ z.getD i 0 ≤ 255) := hz
  clear hF hsrc hz
  go_enter Ybaf.func4, Ybaf.ntmps4
  go_wp2
  clear hmk
  go_loopw [4] (fun i wr => ∃ (k : Nat) (L : List UInt8), k ≤ n ∧ i = .int .i64 k ∧ HoldsB wr w.heap.size L ∧ Hid (L.length = n) ∧ Below w.heap.size w wr ∧ Hid (w.heap.size < wr.heap.size)) (fun i _ => n - (intOf i).toNat)
  case atStart => exact ⟨0, List.replicate n 0, by omega, rfl, HoldsB.made _ _ _, by simp [Hid], (Below.refl _ _).alloc (Nat.le_refl _) _, by simp [Hid]⟩
  case round =>
    obtain ⟨k, L, hk, rfl, hrow, hL, hbel, hsz⟩ := hrel
    by_cases hlt : k < n
    · have hkl : k < L.length := by have := hL.out; omega
      have hc := hrow.1 k hkl
      have hf := hrow.2 k hkl
      obtain ⟨b, off, hao, hb, hcell⟩ := HC.out (by omega)
      subst hao
      have hc2 := (hbel.cell (p := ⟨b, off + k, none⟩) hb).trans (hcell k hlt)
      clear hcell
      have hzk := HZ.out k
      generalize z.getD k 0 = x at hc2 hzk
      obtain ⟨hx0, hx1⟩ := hzk
      have RS : Hid (∀ u : UInt8, ∃ L', HoldsB (wr.setCell ⟨w.heap.size, k, none⟩ (.int .u8 (u.toNat : Int))) w.heap.size L' ∧ L'.length = n) := fun u => ⟨L.set k u, hrow.set k hkl u _ rfl, by rw [List.length_set]; exact hL.out⟩
      clear hrow
      go_wp2
      go_roundw
      case rel =>
        obtain ⟨L', r1, r2⟩ := RS.out _
        exact ⟨k + 1, L', by omega, by go_num, r1, r2, hbel.setCell (Nat.le_refl _) _, by show _ < _; rw [World.size_setCell]; exact hsz.out⟩
      case measure => simp [intOf]; omega
    · obtain rfl : k = n := by omega
      have RD := rd_row hrow hL.out hsz.out
      have HFl : Hid (F.answers (wr.alloc (.cells (rdC w.heap.size k k 0 .nilIface) 31)).tape) := by show F.answers wr.tape; rw [hbel.tape]; exact HF.out
      have U := uint6 F wr.heap.size w.heap.size k k L _ RD (by omega) (Nat.le_refl _) HFl.out
      go_wp2_with fail
      refine (new5 w.heap.size k k _).mono ?_
      rintro e wn ⟨rfl, hwn⟩
      rw [hwn] at U
      have UU : Hid (Calls Ybaf.prog 6 #[.pointer (some ⟨wr.heap.size, 0, none⟩)] wn fun e w' => UEnd wn w' wr.heap.size w.heap.size k k L (run isSp L 0) e) := U
      have beln : Below w.heap.size w wn := by rw [← hwn]; exact hbel.alloc (by have := hsz.out; omega) _
      have szn : Hid (wn.heap.size = wr.heap.size + 1) := by show _ = _; rw [← hwn, World.size_alloc]
      clear U hwn RD HFl hrow
      go_wp2_with fail
      refine Calls.mono UU.out ?_
      rintro e wu ⟨val, k', v, ok, rfl, gbu, RU, he, up⟩
      clear UU
      have UP : Hid (UPost L (run isSp L 0) val k' ok) := up
      clear up
      have c1 := RU.c1
      have c3 := RU.c3
      have M := model7 w.heap.size k k L wu RU.row hL.out (by omega)
      have MM : Hid (Calls Ybaf.prog 7 #[.slice (some ⟨w.heap.size, 0, none⟩) k k] wu fun e w' => MEnd wu w' L (run isSp L 0) e) := M
      clear M
      go_wp2_with fail
      refine Calls.mono MM.out ?_
      rintro e wm ⟨val2, k2, ok2, rfl, hwm, up2⟩
      rw [hwm]
      clear MM hwm
      have fin : Below w.heap.size w wu := below_gb' beln gbu (by have := szn.out; have := hsz.out; omega) (by have := hsz.out; omega)
      rcases agree UP.out up2 with ⟨rfl, rfl, rfl, rfl⟩ | ⟨rfl, rfl, rfl⟩
      · rcases he with ⟨_, rfl⟩ | ⟨h, _⟩
        · go_wp2
          go_ret
          exact ⟨by simp, fin⟩
        · cases h
      · rcases he with ⟨h, _⟩ | ⟨_, a, rfl⟩
        · cases h
        · go_wp2
          go_ret
          exact ⟨by simp, fin⟩
end Go.Proofs.YbulkhreFmt
