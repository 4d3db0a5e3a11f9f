/-
  Seat b0420aF: the Reader's state in memory; isDigit, NewReader, peek, digits, walked.
-/
import Derived.Test.YbulkhreFmtRows
import Derived.Test.YbulkhreFmtText
import Derived.WalkKit
import Derived.WalkSpells
import Derived.RegionTactic
import Derived.Deep.QuietTactic
import Derived.BigQuiet
namespace Go.Proofs.YbulkhreFmt
open Go Go.RowKit

/-- The Reader's five cells: the data, where it stands, the depth, the error, the spare bytes. -/
def rdC (g n cap k : Nat) (err : Value) : Array Value := #[.slice (some ⟨g, 0, none⟩) n cap, .int .i64 k, .int .i64 0, err, .slice none 0 0]
/-- A Reader lies in block R; its data, the bytes D, in block g. -/
structure Rd (w : World) (R g n cap : Nat) (D : List UInt8) (k : Nat) (err : Value) : Prop where
  blk : w.heap[R]? = some (.cells (rdC g n cap k err) 31 (0, 0))
  row : ∀ j (h : j < D.length), w.cell? ⟨g, j, none⟩ = some (.int .u8 (D[j].toNat : Int))
  len : D.length = n
  ne : g ≠ R

theorem Rd.c0 {w : World} {R g n cap k : Nat} {D : List UInt8} {err : Value} (h : Rd w R g n cap D k err) : w.cell? ⟨R, 0, none⟩ = some (.slice (some ⟨g, 0, none⟩) n cap) := cell_of_row w R 0 _ 31 (0, 0) h.blk
theorem Rd.c1 {w : World} {R g n cap k : Nat} {D : List UInt8} {err : Value} (h : Rd w R g n cap D k err) : w.cell? ⟨R, 1, none⟩ = some (.int .i64 k) := cell_of_row w R 1 _ 31 (0, 0) h.blk
theorem Rd.c3 {w : World} {R g n cap k : Nat} {D : List UInt8} {err : Value} (h : Rd w R g n cap D k err) : w.cell? ⟨R, 3, none⟩ = some err := cell_of_row w R 3 _ 31 (0, 0) h.blk
theorem Rd.fz {w : World} {R g n cap k : Nat} {D : List UInt8} {err : Value} (h : Rd w R g n cap D k err) (j : Nat) : w.frozen? ⟨R, j, none⟩ = false := frozen_of_row w R j _ 31 h.blk
theorem Rd.lt {w : World} {R g n cap k : Nat} {D : List UInt8} {err : Value} (h : Rd w R g n cap D k err) : R < w.heap.size := lt_of_block h.blk
theorem Rd.at {w : World} {R g n cap k : Nat} {D : List UInt8} {err : Value} (h : Rd w R g n cap D k err) (k' : Nat) (z : Int) (hz : z = (k' : Int)) : Rd (w.setCell ⟨R, 1, none⟩ (.int .i64 z)) R g n cap D k' err := by
  subst hz
  refine ⟨heap_setCell_same w R 1 _ 31 _ h.blk, fun j hj => ?_, h.len, h.ne⟩
  rw [World.cell?_setCell_other _ _ _ _ (fun e => h.ne (congrArg Addr.block e).symm)]
  exact h.row j hj
theorem Rd.drew {w : World} {R g n cap k : Nat} {D : List UInt8} {err : Value} (h : Rd w R g n cap D k err) : Rd w.drew R g n cap D k err := ⟨h.blk, h.row, h.len, h.ne⟩
theorem Rd.drewN {w : World} {R g n cap k : Nat} {D : List UInt8} {err : Value} (h : Rd w R g n cap D k err) (m : Nat) : Rd (w.drewN m) R g n cap D k err := ⟨h.blk, h.row, h.len, h.ne⟩

theorem gb_drewN {w w' : World} {R : Option Nat} (h : w.grownBy w' R) (m : Nat) : w.grownBy (w'.drewN m) R := ⟨h.os, h.tape, h.output, h.size, h.block⟩
theorem gb_set {w w' : World} {R : Nat} (h : w.grownBy w' (some R)) (j : Nat) (u : Value) : w.grownBy (w'.setCell ⟨R, j, none⟩ u) (some R) :=
  ⟨h.os, h.tape, h.output, by simpa using h.size, fun k hk hne => by rw [heap_setCell_other w' ⟨R, j, none⟩ k u (fun e => hne (by simp [e]))]; exact h.block k hk hne⟩
theorem gb_drew {w w' : World} {R : Option Nat} (h : w.grownBy w' R) : w.grownBy w'.drew R := ⟨h.os, h.tape, h.output, h.size, h.block⟩
theorem gb_trans {a b c : World} {R : Option Nat} (h : a.grownBy b R) (k : b.grownBy c R) : a.grownBy c R :=
  ⟨k.os.trans h.os, k.tape.trans h.tape, k.output.trans h.output, Nat.le_trans h.size k.size, fun i hi hne => (k.block i (Nat.lt_of_lt_of_le hi h.size) hne).trans (h.block i hi hne)⟩

/-- isDigit, on a byte. -/
theorem digit9 (b : UInt8) (w : World) :
    Calls Ybaf.prog 9 #[.int .u8 (b.toNat : Int)] w fun e w' => e = .returned (.bool (isDg b)) ∧ w = w' := by
  by_cases h : 48 ≤ b.toNat ∧ b.toNat ≤ 57
  · have e : isDg b = true := decide_eq_true h
    obtain ⟨h1, h2⟩ := h
    rw [e]
    clear e
    go_enter Ybaf.func9, Ybaf.ntmps9
    go_wp2
    go_ret
    exact ⟨by simp; omega, rfl⟩
  · have e : isDg b = false := decide_eq_false h
    rw [e]
    clear e
    by_cases h1 : 48 ≤ b.toNat
    · go_enter Ybaf.func9, Ybaf.ntmps9
      go_wp2
      go_ret
      exact ⟨by simp; omega, rfl⟩
    · go_enter Ybaf.func9, Ybaf.ntmps9
      go_wp2
      go_ret
      exact ⟨by simp, rfl⟩

theorem new5 (g n cap : Nat) (w : World) :
    Calls Ybaf.prog 5 #[.slice (some ⟨g, 0, none⟩) n cap] w fun e w' => e = .returned (.pointer (some ⟨w.heap.size, 0, none⟩)) ∧ w.alloc (.cells (rdC g n cap 0 .nilIface) 31) = w' := by
  go_enter Ybaf.func5, Ybaf.ntmps5
  go_wp2
  go_ret
  exact ⟨rfl, rfl⟩

/-- What peek gives: the byte that stands there, 0 at the end. -/
def peekB (D : List UInt8) (k : Nat) : UInt8 := if h : k < D.length then D[k] else 0
/-- Where the Reader stands: for a loop's measure. -/
def atOf (w : World) (R : Nat) : Nat := match w.cell? ⟨R, 1, none⟩ with | some v => (intOf v).toNat | none => 0
theorem Rd.atOf {w : World} {R g n cap k : Nat} {D : List UInt8} {err : Value} (h : Rd w R g n cap D k err) : atOf w R = k := by
  unfold YbulkhreFmt.atOf
  rw [h.c1]
  simp [intOf]

set_option maxHeartbeats 800000 in
theorem peek8 (R g n cap : Nat) (D : List UInt8) (k : Nat) (w : World) (h : Rd w R g n cap D k .nilIface) (hk : k ≤ n) (hn : n ≤ 4096) :
    Calls Ybaf.prog 8 #[.pointer (some ⟨R, 0, none⟩)] w fun e w' => e = .returned (.int .u8 ((peekB D (k + run isSp D k)).toNat : Int)) ∧ Rd w' R g n cap D (k + run isSp D k) .nilIface ∧ w.grownBy w' (some R) := by
  have c3 := h.c3
  obtain ⟨m, HM⟩ : ∃ m, Hid (k + run isSp D k = m) := ⟨_, rfl⟩
  rw [HM.out]
  have HL : Hid (D.length = n) := h.len
  go_enter Ybaf.func8, Ybaf.ntmps8
  go_wp2
  clear c3
  go_loopw [] (fun wr => ∃ q : Nat, q ≤ n ∧ Rd wr R g n cap D q .nilIface ∧ w.grownBy wr (some R) ∧ Hid (q + run isSp D q = m)) (fun wr => n - atOf wr R)
  case atStart => exact ⟨k, hk, h, World.grownBy.refl _ _, HM⟩
  case round =>
    clear h
    obtain ⟨q, hq, hr, hgb, hm⟩ := hrel
    have d0 := hr.c0
    have d1 := hr.c1
    have f1 := hr.fz 1
    have HAt : Hid (atOf wr R = q) := hr.atOf
    by_cases hlt : q < n
    · have hlt' : q < D.length := by have := HL.out; omega
      have hc := hr.row q hlt'
      have hi : (q : Int) < (n : Int) := by omega
      have HY : Hid (isSp D[q] = true → (q + 1) + run isSp D (q + 1) = m) := fun e => by have := hm.out; rw [run_yes hlt' e] at this; omega
      have HN : Hid (isSp D[q] = false → q = m ∧ peekB D q = D[q]) := fun e => ⟨by have := hm.out; rw [run_no hlt' e] at this; omega, by unfold peekB; rw [dif_pos hlt']⟩
      generalize D[q] = x at hc HY HN
      have RN := (hr.drew.drew).at (q + 1) ((q : Int) + 1) (by omega)
      have GN := gb_set (gb_drew (gb_drew hgb)) 1 (.int .i64 ((q : Int) + 1))
      rcases (show x.toNat = 32 ∨ x.toNat = 9 ∨ x.toNat = 10 ∨ x.toNat = 13 ∨ (x.toNat ≠ 32 ∧ x.toNat ≠ 9 ∧ x.toNat ≠ 10 ∧ x.toNat ≠ 13) by omega) with e | e | e | e | e
      rotate_right
      · have HSp := HN.out (by simp [isSp, e])
        obtain ⟨rfl, HP⟩ := HSp
        have HP' : Hid (peekB D q = x) := HP
        clear HP HY HN
        obtain ⟨e1, e2, e3, e4⟩ := e
        have b1 : ((x.toNat : Int) == 32) = false := beq_eq_false_iff_ne.2 (by omega)
        have b2 : ((x.toNat : Int) == 9) = false := beq_eq_false_iff_ne.2 (by omega)
        have b3 : ((x.toNat : Int) == 10) = false := beq_eq_false_iff_ne.2 (by omega)
        have b4 : ((x.toNat : Int) == 13) = false := beq_eq_false_iff_ne.2 (by omega)
        go_wp2
        go_region
        go_wp2
        go_region
        go_wp2
        go_ret
        refine ⟨by rw [HP'.out]; rfl, hr.drew.drew, gb_drew (gb_drew hgb)⟩
      all_goals
        have HSp := HY.out (by simp [isSp, e])
        have HS : Hid ((q + 1) + run isSp D (q + 1) = m) := HSp
        rw [e] at hc
        clear HSp HY HN e
        go_wp2
        go_region
        go_wp2
        go_region
        go_wp2
        go_roundw
        case rel => exact ⟨q + 1, by omega, RN, GN, HS⟩
        case measure =>
          have a := RN.atOf
          have b := HAt.out
          have c : n - atOf ((wr.drew.drew).setCell ⟨R, 1, none⟩ (.int .i64 ((q : Int) + 1))) R < n - atOf wr R := by omega
          exact c
    · obtain rfl : q = n := by omega
      have HE : Hid (q = m ∧ peekB D q = 0) := by
        have e1 := hm.out
        have e2 := HL.out
        rw [run_end (by omega)] at e1
        exact ⟨by omega, by unfold peekB; rw [dif_neg (by omega)]⟩
      have hi : ¬ (q : Int) < (q : Int) := by omega
      go_wp2
      go_region
      go_wp2
      go_ret
      obtain ⟨e1, e2⟩ := HE.out
      subst e1
      rw [e2]
      exact ⟨rfl, hr.drew, gb_drew hgb⟩

theorem digit9' (b : UInt8) (w : World) (q : Bool) (hq : isDg b = q) :
    Calls Ybaf.prog 9 #[.int .u8 (b.toNat : Int)] w fun e w' => e = .returned (.bool q) ∧ w' = w := by
  subst hq
  exact (digit9 b w).mono fun e w' ⟨h1, h2⟩ => ⟨h1, h2.symm⟩

set_option maxHeartbeats 800000 in
theorem digits17 (R g n cap : Nat) (D : List UInt8) (k : Nat) (w : World) (h : Rd w R g n cap D k .nilIface) (hk : k ≤ n) (hn : n ≤ 4096) :
    Calls Ybaf.prog 17 #[.pointer (some ⟨R, 0, none⟩)] w fun e w' => e = .returned (.bool (decide (k < k + run isDg D k))) ∧ Rd w' R g n cap D (k + run isDg D k) .nilIface ∧ w.grownBy w' (some R) := by
  have c1 := h.c1
  obtain ⟨m, HM⟩ : ∃ m, Hid (k + run isDg D k = m) := ⟨_, rfl⟩
  rw [HM.out]
  have HL : Hid (D.length = n) := h.len
  go_enter Ybaf.func17, Ybaf.ntmps17
  go_wp2
  clear c1
  go_loopw [] (fun wr => ∃ q : Nat, q ≤ n ∧ Rd wr R g n cap D q .nilIface ∧ w.grownBy wr (some R) ∧ Hid (q + run isDg D q = m)) (fun wr => n - atOf wr R)
  case atStart => exact ⟨k, hk, h, World.grownBy.refl _ _, HM⟩
  case round =>
    clear h
    obtain ⟨q, hq, hr, hgb, hm⟩ := hrel
    have d0 := hr.c0
    have d1 := hr.c1
    have f1 := hr.fz 1
    have HAt : Hid (atOf wr R = q) := hr.atOf
    by_cases hlt : q < n
    · have hlt' : q < D.length := by have := HL.out; omega
      have hc := hr.row q hlt'
      have hi : (q : Int) < (n : Int) := by omega
      have HY : Hid (isDg D[q] = true → (q + 1) + run isDg D (q + 1) = m) := fun e => by have := hm.out; rw [run_yes hlt' e] at this; omega
      have HN : Hid (isDg D[q] = false → q = m) := fun e => by have := hm.out; rw [run_no hlt' e] at this; omega
      generalize D[q] = x at hc HY HN
      cases hx : isDg x with
      | true =>
        have HX : Hid (isDg x = true) := hx
        have HS : Hid ((q + 1) + run isDg D (q + 1) = m) := HY.out hx
        clear HY HN hx
        go_wp2
        go_quiet ((go_at_call 9; exact Calls.quiet_of_same (digit9' _ _ true HX.out)))
        have RN := (hr.drewN nq).at (q + 1) ((q : Int) + 1) (by omega)
        have GN := gb_set (gb_drewN hgb nq) 1 (.int .i64 ((q : Int) + 1))
        go_wp2
        go_roundw
        case rel => exact ⟨q + 1, by omega, RN, GN, HS⟩
        case measure =>
          have a := RN.atOf
          have b := HAt.out
          have c : n - atOf ((wr.drewN nq).setCell ⟨R, 1, none⟩ (.int .i64 ((q : Int) + 1))) R < n - atOf wr R := by omega
          exact c
      | false =>
        have HX : Hid (isDg x = false) := hx
        have HS : Hid (q = m) := HN.out hx
        clear HY HN hx
        go_wp2
        go_quiet ((go_at_call 9; exact Calls.quiet_of_same (digit9' _ _ false HX.out)))
        go_wp2
        go_ret
        have e1 := HS.out
        subst e1
        exact ⟨by simp, hr.drewN nq, gb_drewN hgb nq⟩
    · obtain rfl : q = n := by omega
      have HE : Hid (q = m) := by
        have e1 := hm.out
        have e2 := HL.out
        rw [run_end (by omega)] at e1
        show _ = _
        omega
      have hi : decide ((q : Int) < (q : Int)) = false := by simp
      go_wp2
      go_quiet (fail)
      go_wp2
      go_ret
      have e1 := HE.out
      subst e1
      exact ⟨by simp, hr.drewN nq, gb_drewN hgb nq⟩
end Go.Proofs.YbulkhreFmt
