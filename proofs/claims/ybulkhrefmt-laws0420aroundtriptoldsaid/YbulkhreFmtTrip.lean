/-
  Seat b0420aF: the walk of LawS0420ARoundTrip.
-/
import Derived.Test.YbulkhreFmtUint
import Derived.Test.YbulkhreFmtDec
import Derived.Test.YbulkhreFmtBytes
namespace Go.Proofs.YbulkhreFmt
open Go Go.RowKit Go.Extern.Stop Go.Stop Go.Extern

theorem info5 : (Ybaf.prog.info? 5).map (fun i => (i.zero, i.size, i.bytes)) = some (some (.int .u8 0), 1, 1) := by kernel_rfl

/-- The slice of n elements (room for 32) at the head of block g owns the bytes l. -/
def OwnF (w : World) (g n : Nat) (l : List UInt8) : Prop := l.length = n ∧ w.ownsRow 0 5 1 (.slice (some ⟨g, 0, none⟩) n 32) n (cellsB l)

theorem OwnF.alloc {w : World} {g n : Nat} {l : List UInt8} (h : OwnF w g n l) (o : Obj) : OwnF (w.alloc o) g n l := ⟨h.1, World.ownsRow.alloc h.2 o⟩
theorem OwnF.cell {w : World} {g n : Nat} {l : List UInt8} (h : OwnF w g n l) (j : Nat) (hj : j < l.length) : w.cell? ⟨g, j, none⟩ = some (.int .u8 (l[j].toNat : Int)) := by
  rw [World.ownsRow.cellAt h.2 j (by have := h.1; omega)]
  simp [cellsB, List.getElem?_eq_getElem hj]

/-- 'append(data, ..)' within the room. -/
theorem wpList_fit {ops : Array Oper} {rest : List Oper} {o : Oper} {a : Act} {Q : Exit → Act → World → Prop} (w : World) (hgd : o.guard = none) (s x : Operand)
    (ho : o.op = .call { callee := .builtin .append, args := #[s, x], argTypes := #[24, 24] }) (g n : Nat) (l : List UInt8) (hs : a.eval s = .slice (some ⟨g, 0, none⟩) n 32) (hown : OwnF w g n l)
    (h off m c : Nat) (l2 : List UInt8) (hx : a.eval x = .slice (some ⟨h, off, none⟩) m c) (hm : l2.length = m)
    (hnews : ∀ j (hj : j < l2.length), w.cell? ⟨h, off + j, none⟩ = some (.int .u8 (l2[j].toNat : Int))) (hlen : n + m ≤ 32)
    (hK : ∀ w', OwnF w' g (n + m) (l ++ l2) → w.grownBy w' (some g) → wpList Ybaf.prog ops Q rest (a.put o.dst (.slice (some ⟨g, 0, none⟩) (n + m) 32)) w') : wpList Ybaf.prog ops Q (o :: rest) a w := by
  obtain ⟨i0, hi, hz0, hz1, hz2⟩ := info_parts info5
  refine wpList_append_fits w hgd s x 24 ho 0 5 i0 1 Ybaf.underlying24 hi hz1 g n 32 (cellsB l) hs hown.2 ⟨h, off, none⟩ m c (cellsB l2) hx (by rw [cellsB_len, hm, Nat.mul_one]) (fun j u hj => ?_) (cellsB_one l2) hlen fun w' h2 h3 => ?_
  · obtain ⟨hjl, rfl⟩ := cellsB_at hj
    have hadd : (⟨h, off, none⟩ : Addr).add j = ⟨h, off + j, none⟩ := by simp only [Addr.add]; split <;> simp_all
    rw [hadd]
    exact hnews j hjl
  · refine hK w' ⟨by rw [List.length_append, hown.1, hm], ?_⟩ h3
    have e : cellsB (l ++ l2) = cellsB l ++ cellsB l2 := by simp [cellsB]
    rw [e]
    exact h2
theorem one_cell {w : World} (n : Int) (b : UInt8) (h : n = (b.toNat : Int)) (t : TypeId) : ∀ j (hj : j < [b].length), (w.alloc (.cells #[.int .u8 n] t)).cell? ⟨w.heap.size, 0 + j, none⟩ = some (.int .u8 ([b][j].toNat : Int)) := by
  intro j hj
  obtain rfl : j = 0 := by simpa using hj
  subst h
  rw [World.cell?_alloc_at _ _ _ _ rfl]
  simp
theorem HoldsB.alloc {w : World} {g : Nat} {l : List UInt8} (h : HoldsB w g l) (hg : g < w.heap.size) (o : Obj) : HoldsB (w.alloc o) g l :=
  h.below ((Below.refl w.heap.size w).alloc (Nat.le_refl _) o) hg
theorem HoldsB.gb {w w' : World} {g R : Nat} {l : List UInt8} (h : HoldsB w g l) (hgb : w.grownBy w' (some R)) (hg : g < w.heap.size) (hne : g ≠ R) : HoldsB w' g l := by
  have e : w'.heap[g]? = w.heap[g]? := hgb.block g hg (fun h => hne (by simpa using h))
  exact ⟨fun j hj => (World.cell?_of_block (a := ⟨g, j, none⟩) e).trans (h.1 j hj), fun j hj => (World.frozen?_of_block (a := ⟨g, j, none⟩) e).trans (h.2 j hj)⟩
theorem below_gb {w a b : World} {B g : Nat} (h : Below B w a) (hgb : a.grownBy b (some g)) (hB : B ≤ a.heap.size) (hg : B ≤ g) : Below B w b :=
  h.grown hgb hB fun k hk => by simp at hk; omega

theorem rd_new {w : World} {g n : Nat} {D : List UInt8} (h : OwnF w g n D) (hg : g < w.heap.size) : Rd (w.alloc (.cells (rdC g n 32 0 .nilIface) 31)) w.heap.size g n 32 D 0 .nilIface :=
  ⟨heap_alloc_new w _, fun j hj => by rw [World.cell?_alloc_lt _ _ _ hg]; exact h.cell j hj, h.1, by omega⟩
/-- What Uint leaves where a number that fits stands there. -/
theorem uend_good {w w' : World} {R g n cap : Nat} {D : List UInt8} {p t v : Nat} {e : Ending} (hb : Built D p t v) (hv : v < B64) (h : UEnd w w' R g n cap D (run isSp D 0) e) :
    e = .returned (.int .u64 (v : Nat)) ∧ w.grownBy w' (some R) ∧ Rd w' R g n cap D (p + t) .nilIface := by
  rw [hb.sp] at h
  obtain ⟨val, k', x, ok, he, hgb, hr, hx, hu⟩ := h
  obtain ⟨h1, h2, h3⟩ := hu.good (hb.good hv)
  rw [hb.ll] at h2 h3
  rw [hb.val] at h2
  subst h1 h2 h3
  rcases hx with ⟨_, rfl⟩ | ⟨h, _⟩
  · exact ⟨he, hgb, hr⟩
  · cases h

set_option maxRecDepth 100000 in
set_option maxHeartbeats 1000000 in
theorem trip3 (F : Interp) (v p tr : Nat) (w : World) (hv : v < 18446744073709551616) (hp : p < 256) (htr : tr < 256) (hF : F.answers w.tape) :
    Calls Ybaf.prog 3 #[.int .u64 v, .int .u8 p, .int .u8 tr] w fun e w' => e = .returned (.bool true) ∧ Below w.heap.size w w' := by
  obtain ⟨i0, hi, hz0, hz1, hz2⟩ := info_parts info5
  have hmk := fun wx => run_make (P := Ybaf.prog) wx 24 5 i0 _ Ybaf.underlying24 hi hz0 .i64 .i64 0 32 (by omega) (by omega) (by rw [hz2]; omega) (by omega)
  have HF : Hid (F.answers w.tape) := hF
  clear hF
  go_enter Ybaf.func3, Ybaf.ntmps3
  go_wp2
  go_loopw [8, 9] (fun ks ws wr => ∃ (k : Nat) (L : List UInt8), k < 20 ∧ ks = .int .i64 ((k : Int) + 1) ∧ ws = .int .u64 ((v / 10 ^ (19 - k) : Nat) : Int) ∧ HoldsB wr w.heap.size L ∧ Hid (L.length = 20) ∧ Hid (L.drop (k + 1) = lastD v (19 - k)) ∧ Hid (k = 19 ∨ 10 ^ (19 - k) ≤ v) ∧ Below w.heap.size w wr ∧ Hid (wr.heap.size = w.heap.size + 1))
    (fun ks _ _ => (intOf ks).toNat)
  case atStart =>
    refine ⟨19, List.replicate 20 0, by omega, rfl, ?_, ?_, rfl, rfl, .inl rfl, (Below.refl _ _).alloc (Nat.le_refl _) _, ?_⟩
    · simp
    · refine ⟨fun j hj => ?_, fun j hj => ?_⟩
      · rw [World.cell?_alloc_at _ _ _ _ rfl]
        simp only [List.length_replicate] at hj
        simp only [List.getElem_replicate]
        rcases (show j = 0 ∨ j = 1 ∨ j = 2 ∨ j = 3 ∨ j = 4 ∨ j = 5 ∨ j = 6 ∨ j = 7 ∨ j = 8 ∨ j = 9 ∨ j = 10 ∨ j = 11 ∨ j = 12 ∨ j = 13 ∨ j = 14 ∨ j = 15 ∨ j = 16 ∨ j = 17 ∨ j = 18 ∨ j = 19 by omega) with rfl | rfl | rfl | rfl | rfl | rfl | rfl | rfl | rfl | rfl | rfl | rfl | rfl | rfl | rfl | rfl | rfl | rfl | rfl | rfl <;> rfl
      · rw [frozen?_alloc_cells]
        simp [World.frozen?]
    · show _ = _; simp
  case round =>
    obtain ⟨k, L, hk, rfl, rfl, hL, hLl, hd, h10, hbel, hsz⟩ := hrel
    have hkl : k < L.length := by have := hLl.out; omega
    have hcell := hL.1 k hkl
    have hfz := hL.2 k hkl
    obtain ⟨W, HW⟩ : ∃ W, Hid (v / 10 ^ (19 - k) = W) := ⟨_, rfl⟩
    have hWb2 : W < 18446744073709551616 := by have := HW.out; have := Nat.div_le_self v (10 ^ (19 - k)); omega
    rw [HW.out]
    have HS : Hid ((L.set k (dgB W)).drop k = lastD v (20 - k)) := by
      have := digit_step L v k hLl.out hk hd.out
      rw [HW.out] at this
      exact this
    have RN := hL.set k hkl (dgB W) (48 + (W : Int) % 10) (by rw [dgB_val]; omega)
    have hLl2 : Hid ((L.set k (dgB W)).length = 20) := by show _ = _; rw [List.length_set]; exact hLl.out
    generalize L.set k (dgB W) = L2 at HS RN hLl2
    clear hd hL
    by_cases hW : W / 10 = 0
    · have b1 : ((W : Int) / 10 == 0) = true := by rw [beq_iff_eq]; omega
      have HV : Hid (v < 10 ^ (20 - k)) := no_more v k hk (by rw [HW.out]; exact hW)
      have HB0 : Hid (w.heap.size < wr.heap.size) := by have := hsz.out; show _ < _; omega
      have hbelA := hbel.setCell (p := ⟨w.heap.size, k, none⟩) (Nat.le_refl _) (.int .u8 (48 + (W : Int) % 10))
      have szA : (wr.setCell ⟨w.heap.size, k, none⟩ (.int .u8 (48 + (W : Int) % 10))).heap.size = wr.heap.size := World.size_setCell _ _ _
      have ownA : OwnF ((wr.setCell ⟨w.heap.size, k, none⟩ (.int .u8 (48 + (W : Int) % 10))).alloc (.cells (madeCells #[.int .u8 0] 32) 5)) wr.heap.size 0 [] := by
        have := World.ownsRow_made (base := 0) (e := 5) (size := 1) (wr.setCell ⟨w.heap.size, k, none⟩ (.int .u8 (48 + (W : Int) % 10))) (madeCells #[.int .u8 0] 32) 32 (by omega) (by unfold maxLen; omega) (by simp [madeCells])
        rw [szA] at this
        exact ⟨rfl, this⟩
      have RA := RN.alloc (by rw [szA]; exact HB0.out) (.cells (madeCells #[.int .u8 0] 32) 5)
      have hbelB := hbelA.alloc (by rw [szA]; have := HB0.out; omega) (.cells (madeCells #[.int .u8 0] 32) 5)
      have szB : ((wr.setCell ⟨w.heap.size, k, none⟩ (.int .u8 (48 + (W : Int) % 10))).alloc (.cells (madeCells #[.int .u8 0] 32) 5)).heap.size = wr.heap.size + 1 := by rw [World.size_alloc, szA]
      have SZB : Hid (((wr.setCell ⟨w.heap.size, k, none⟩ (.int .u8 (48 + (W : Int) % 10))).alloc (.cells (madeCells #[.int .u8 0] 32) 5)).heap.size = wr.heap.size + 1) := szB
      clear szA szB hbelA
      go_wp2
      clear hcell hfz hbel RN hmk
      generalize (wr.setCell ⟨w.heap.size, k, none⟩ (.int .u8 (48 + (W : Int) % 10))).alloc (.cells (madeCells #[.int .u8 0] 32) 5) = wB at *
      have HG : Hid (w.heap.size < wr.heap.size) := HB0
      generalize wr.heap.size = g at *
      obtain ⟨P, HPP⟩ : ∃ P, Hid (p % 4 = P) := ⟨_, rfl⟩
      have hpp : ((p : Int) % 4) = (P : Int) := by have := HPP.out; omega
      have hP4 : P < 4 := by have := HPP.out; omega
      go_loopw [10, 11] (fun o i wx => ∃ q : Nat, q ≤ P ∧ i = .int .i64 q ∧ o = .slice (some ⟨g, 0, none⟩) q 32 ∧ OwnF wx g q (List.replicate q 32) ∧ HoldsB wx w.heap.size L2 ∧ Below w.heap.size w wx ∧ Hid (g < wx.heap.size))
        (fun _ i _ => P - (intOf i).toNat)
      case atStart => exact ⟨0, by omega, rfl, rfl, ownA, RA, hbelB, (by have := SZB.out; show _ < _; omega)⟩
      case round =>
        clear ownA RA hbelB
        obtain ⟨q, hq, rfl, rfl, own3, R3, bel3, sz3⟩ := hrel
        by_cases hlt : q < P
        · have hst : Hid (List.replicate q (32 : UInt8) ++ [32] = List.replicate (q + 1) 32) := by show _ = _; rw [List.replicate_succ']
          have HZ : Hid (w.heap.size < wr.heap.size) := by have := sz3.out; have := HG.out; show _ < _; omega
          go_wp2_with (at_builtin; go_must (refine wpList_fit _ rfl _ _ rfl g q _ rfl (own3.alloc _) wr.heap.size 0 1 1 [32] rfl rfl (one_cell 32 32 rfl 5) (by omega) ?_); intro w4 own4 gb4)
          rw [hst.out] at own4
          go_roundw
          case rel =>
            refine ⟨q + 1, by omega, by go_num, rfl, own4, (R3.alloc HZ.out _).gb gb4 (by rw [World.size_alloc]; have := HZ.out; omega) (by have := HG.out; omega), below_gb (bel3.alloc (by have := HZ.out; omega) _) gb4 (by rw [World.size_alloc]; have := HZ.out; omega) (by have := HG.out; omega), ?_⟩
            have := gb4.size
            rw [World.size_alloc] at this
            have := sz3.out
            show _ < _
            omega
          case measure => simp [intOf]; omega
        · obtain rfl : q = P := by omega
          have hk20 : (k : Int) ≤ 20 := by omega
          have HZ : Hid (w.heap.size < wr.heap.size) := by have := sz3.out; have := HG.out; show _ < _; omega
          have hT : Hid ((L2.drop k).length = 20 - k) := by show _ = _; rw [List.length_drop, hLl2.out]
          have hnews : ∀ j (hj : j < (L2.drop k).length), wr.cell? ⟨w.heap.size, k + j, none⟩ = some (.int .u8 ((L2.drop k)[j].toNat : Int)) := fun j hj => by
            rw [R3.1 (k + j) (by rw [List.length_drop] at hj; omega)]
            simp
          have hfit : q + (20 - k) ≤ 23 := by omega
          have HBT : Hid (∀ tail : List UInt8, tail = [] ∨ tail = [32] ∨ tail = [44] → Built (List.replicate q 32 ++ L2.drop k ++ tail) q (20 - k) v) := fun tail ht => by
            rw [HS.out]
            exact built_mk q (20 - k) v tail (by omega) HV.out (h10.out.elim (fun e => .inl (by omega)) (fun e => .inr (by rw [show 20 - k - 1 = 19 - k by omega]; exact e))) ht
          rcases (show tr % 3 = 0 ∨ tr % 3 = 1 ∨ tr % 3 = 2 by omega) with ht | ht | ht
          · have b1 : ((tr : Int) % 3 == 1) = false := beq_eq_false_iff_ne.2 (by omega)
            have b2 : ((tr : Int) % 3 == 2) = false := beq_eq_false_iff_ne.2 (by omega)
            have HB3 := HBT.out [] (.inl rfl)
            rw [List.append_nil] at HB3
            have HB4 : Hid (Built (List.replicate q 32 ++ L2.drop k) q (20 - k) v) := HB3
            clear HB3 ht
            go_wp2_with (at_builtin; refine wpList_fit _ rfl (.tmp 39) (.tmp 41) rfl g q _ rfl own3 w.heap.size k (20 - k) (20 - k) (L2.drop k) rfl hT.out hnews (by omega) ?_; intro w5 own5 gb5)
            have bel5 : Below w.heap.size w w5 := below_gb bel3 gb5 (by have := HZ.out; omega) (by have := HG.out; omega)
            have szl : w.heap.size < w5.heap.size ∧ g < w5.heap.size := by have := gb5.size; have := sz3.out; have := HG.out; omega
            have RD := rd_new own5 szl.2
            have HFl : Hid (F.answers (w5.alloc (.cells (rdC g (q + (20 - k)) 32 0 .nilIface) 31)).tape) := by show F.answers w5.tape; rw [bel5.tape]; exact HF.out
            have SZ : Hid (w.heap.size < w5.heap.size ∧ g < w5.heap.size) := szl
            clear szl own3 R3 hnews
            refine (new5 g _ 32 _).mono ?_
            rintro e wn ⟨rfl, hwn⟩
            have hnl : (q + (20 - k)) ≤ 4096 ∧ (q + (20 - k)) ≤ 32 := by omega
            have U := uint6 F w5.heap.size g (q + (20 - k)) 32 _ _ RD hnl.1 hnl.2 HFl.out
            rw [hwn] at U
            have UU : Hid (Calls Ybaf.prog 6 #[.pointer (some ⟨w5.heap.size, 0, none⟩)] wn fun e w' => e = .returned (.int .u64 (v : Nat)) ∧ wn.grownBy w' (some w5.heap.size) ∧ Rd w' w5.heap.size g (q + (20 - k)) 32 (List.replicate q 32 ++ L2.drop k) (q + (20 - k)) .nilIface) := U.mono fun e w' h => uend_good HB4.out hv h
            have beln : Below w.heap.size w wn := by rw [← hwn]; exact bel5.alloc (by have := SZ.out; omega) _
            have szn : Hid (wn.heap.size = w5.heap.size + 1) := by show _ = _; rw [← hwn, World.size_alloc]
            clear U hwn RD HFl
            go_wp2_with fail
            refine Calls.mono UU.out ?_
            rintro e wu ⟨rfl, gbu, RU⟩
            have c1 := RU.c1
            have c3 := RU.c3
            rw [Int.natCast_add] at c1
            clear UU
            go_wp2
            go_ret
            refine ⟨by simp, below_gb beln gbu (by have := szn.out; have := SZ.out; omega) (by have := SZ.out; omega)⟩
          · have b1 : ((tr : Int) % 3 == 1) = true := beq_iff_eq.2 (by omega)
            have b2 : ((tr : Int) % 3 == 2) = false := beq_eq_false_iff_ne.2 (by omega)
            have HB4 : Hid (Built (List.replicate q 32 ++ L2.drop k ++ [32]) q (20 - k) v) := HBT.out [32] (.inr (.inl rfl))
            clear ht
            go_wp2_with (first | (at_builtin; refine wpList_fit _ rfl (.tmp 39) (.tmp 41) rfl g q _ rfl own3 w.heap.size k (20 - k) (20 - k) (L2.drop k) rfl hT.out hnews (by omega) ?_; intro w5 own5 gb5) | (at_builtin; refine wpList_fit _ rfl (.tmp 49) (.tmp 50) rfl g (q + (20 - k)) _ rfl (own5.alloc _) w5.heap.size 0 1 1 [32] rfl rfl (one_cell 32 32 rfl 5) (by omega) ?_; intro w6 own6 gb6))
            have bel6 : Below w.heap.size w w6 := below_gb ((below_gb bel3 gb5 (by have := HZ.out; omega) (by have := HG.out; omega)).alloc (by have := gb5.size; have := HZ.out; omega) _) gb6 (by rw [World.size_alloc]; have := gb5.size; have := HZ.out; omega) (by have := HG.out; omega)
            have szl : w.heap.size < w6.heap.size ∧ g < w6.heap.size := by have := gb5.size; have h6 := gb6.size; rw [World.size_alloc] at h6; have := sz3.out; have := HG.out; omega
            have RD := rd_new own6 szl.2
            have HFl : Hid (F.answers (w6.alloc (.cells (rdC g (q + (20 - k) + 1) 32 0 .nilIface) 31)).tape) := by show F.answers w6.tape; rw [bel6.tape]; exact HF.out
            have SZ : Hid (w.heap.size < w6.heap.size ∧ g < w6.heap.size) := szl
            clear szl own3 R3 hnews
            refine (new5 g _ 32 _).mono ?_
            rintro e wn ⟨rfl, hwn⟩
            have hnl : (q + (20 - k) + 1) ≤ 4096 ∧ (q + (20 - k) + 1) ≤ 32 := by omega
            have U := uint6 F w6.heap.size g (q + (20 - k) + 1) 32 _ _ RD hnl.1 hnl.2 HFl.out
            rw [hwn] at U
            have UU : Hid (Calls Ybaf.prog 6 #[.pointer (some ⟨w6.heap.size, 0, none⟩)] wn fun e w' => e = .returned (.int .u64 (v : Nat)) ∧ wn.grownBy w' (some w6.heap.size) ∧ Rd w' w6.heap.size g (q + (20 - k) + 1) 32 (List.replicate q 32 ++ L2.drop k ++ [32]) (q + (20 - k)) .nilIface) := U.mono fun e w' h => uend_good HB4.out hv h
            have beln : Below w.heap.size w wn := by rw [← hwn]; exact bel6.alloc (by have := SZ.out; omega) _
            have szn : Hid (wn.heap.size = w6.heap.size + 1) := by show _ = _; rw [← hwn, World.size_alloc]
            clear U hwn RD HFl
            go_wp2_with fail
            refine Calls.mono UU.out ?_
            rintro e wu ⟨rfl, gbu, RU⟩
            have c1 := RU.c1
            have c3 := RU.c3
            rw [Int.natCast_add] at c1
            clear UU
            go_wp2
            go_ret
            refine ⟨by simp, below_gb beln gbu (by have := szn.out; have := SZ.out; omega) (by have := SZ.out; omega)⟩
          · have b1 : ((tr : Int) % 3 == 1) = false := beq_eq_false_iff_ne.2 (by omega)
            have b2 : ((tr : Int) % 3 == 2) = true := beq_iff_eq.2 (by omega)
            have HB4 : Hid (Built (List.replicate q 32 ++ L2.drop k ++ [44]) q (20 - k) v) := HBT.out [44] (.inr (.inr rfl))
            clear ht
            go_wp2_with (first | (at_builtin; refine wpList_fit _ rfl (.tmp 39) (.tmp 41) rfl g q _ rfl own3 w.heap.size k (20 - k) (20 - k) (L2.drop k) rfl hT.out hnews (by omega) ?_; intro w5 own5 gb5) | (at_builtin; refine wpList_fit _ rfl (.tmp 54) (.tmp 55) rfl g (q + (20 - k)) _ rfl (own5.alloc _) w5.heap.size 0 1 1 [44] rfl rfl (one_cell 44 44 rfl 5) (by omega) ?_; intro w6 own6 gb6))
            have bel6 : Below w.heap.size w w6 := below_gb ((below_gb bel3 gb5 (by have := HZ.out; omega) (by have := HG.out; omega)).alloc (by have := gb5.size; have := HZ.out; omega) _) gb6 (by rw [World.size_alloc]; have := gb5.size; have := HZ.out; omega) (by have := HG.out; omega)
            have szl : w.heap.size < w6.heap.size ∧ g < w6.heap.size := by have := gb5.size; have h6 := gb6.size; rw [World.size_alloc] at h6; have := sz3.out; have := HG.out; omega
            have RD := rd_new own6 szl.2
            have HFl : Hid (F.answers (w6.alloc (.cells (rdC g (q + (20 - k) + 1) 32 0 .nilIface) 31)).tape) := by show F.answers w6.tape; rw [bel6.tape]; exact HF.out
            have SZ : Hid (w.heap.size < w6.heap.size ∧ g < w6.heap.size) := szl
            clear szl own3 R3 hnews
            refine (new5 g _ 32 _).mono ?_
            rintro e wn ⟨rfl, hwn⟩
            have hnl : (q + (20 - k) + 1) ≤ 4096 ∧ (q + (20 - k) + 1) ≤ 32 := by omega
            have U := uint6 F w6.heap.size g (q + (20 - k) + 1) 32 _ _ RD hnl.1 hnl.2 HFl.out
            rw [hwn] at U
            have UU : Hid (Calls Ybaf.prog 6 #[.pointer (some ⟨w6.heap.size, 0, none⟩)] wn fun e w' => e = .returned (.int .u64 (v : Nat)) ∧ wn.grownBy w' (some w6.heap.size) ∧ Rd w' w6.heap.size g (q + (20 - k) + 1) 32 (List.replicate q 32 ++ L2.drop k ++ [44]) (q + (20 - k)) .nilIface) := U.mono fun e w' h => uend_good HB4.out hv h
            have beln : Below w.heap.size w wn := by rw [← hwn]; exact bel6.alloc (by have := SZ.out; omega) _
            have szn : Hid (wn.heap.size = w6.heap.size + 1) := by show _ = _; rw [← hwn, World.size_alloc]
            clear U hwn RD HFl
            go_wp2_with fail
            refine Calls.mono UU.out ?_
            rintro e wu ⟨rfl, gbu, RU⟩
            have c1 := RU.c1
            have c3 := RU.c3
            rw [Int.natCast_add] at c1
            clear UU
            go_wp2
            go_ret
            refine ⟨by simp, below_gb beln gbu (by have := szn.out; have := SZ.out; omega) (by have := SZ.out; omega)⟩
    · have b1 : ((W : Int) / 10 == 0) = false := by rw [beq_eq_false_iff_ne]; omega
      obtain ⟨k', hk', e1, e2, e3⟩ := more_digits v k hv hk (by rw [HW.out]; exact hW)
      have E1 : Hid (W / 10 = v / 10 ^ (19 - k')) := by rw [HW.out] at e1; exact e1
      have E2 : Hid (10 ^ (19 - k') ≤ v) := e2
      have E3 : Hid (20 - k = 19 - k') := e3
      have HK : Hid (k = k' + 1) := hk'
      have hk2 : k' < 20 := by omega
      have hks : (k : Int) = (k' : Int) + 1 := by omega
      have HKS : Hid ((k : Int) = (k' : Int) + 1) := hks
      clear e1 e2 e3 hk' hks
      go_wp2
      go_roundw
      case rel =>
        refine ⟨k', L2, hk2, ?_, ?_, RN, hLl2, ?_, .inr E2.out, hbel.setCell (Nat.le_refl _) _, (by show _ = _; rw [World.size_setCell]; exact hsz.out)⟩
        · rw [HKS.out]
        · rw [← E1.out]; go_num
        · rw [← E3.out, ← HK.out]; exact HS
      case measure => simp [intOf]
end Go.Proofs.YbulkhreFmt
