/-
  Seat b0425a: a node in memory; count, data, leaf, entryStart, entryEnd, entrySize, walked.
-/
import Derived.Test.YbulkhtwRows
import Derived.Test.YbulkhtwPlain
import Derived.WalkKit
import Derived.WalkSpells
import Derived.Deep.QuietTactic
import Derived.BigQuiet
namespace Go.Proofs.Ybulkhtw
open Go Go.RowKit

/-- A node in block R: its frame in block Fb, its entries' starts in block A. -/
structure Nd (w : World) (R Fb A n hdr : Nat) (kind : Int) (S : List UInt8) : Prop where
  c0 : w.cell? ⟨R, 0, none⟩ = some (.pointer (some ⟨Fb, 0, none⟩))
  c1 : w.cell? ⟨R, 1, none⟩ = some (.pointer none)
  c2 : w.cell? ⟨R, 2, none⟩ = some (.int .i64 ((hdr + pre S n : Nat) : Int))
  c3 : w.cell? ⟨R, 3, none⟩ = some (.slice (some ⟨A, 0, none⟩) n n)
  ck : w.cell? ⟨Fb, 8, none⟩ = some (.int .u8 kind)
  ca : ∀ j, j < n → w.cell? ⟨A, j, none⟩ = some (.int .u16 ((hdr + pre S j : Nat) : Int))
theorem Nd.drewN {w : World} {R Fb A n hdr : Nat} {kind : Int} {S : List UInt8} (h : Nd w R Fb A n hdr kind S) (m : Nat) : Nd (w.drewN m) R Fb A n hdr kind S := ⟨h.c0, h.c1, h.c2, h.c3, h.ck, h.ca⟩

theorem count7 {R Fb A n hdr : Nat} {kind : Int} {S : List UInt8} (w : World) (h : Nd w R Fb A n hdr kind S) :
    Calls Yba.prog 7 #[.pointer (some ⟨R, 0, none⟩)] w fun e w' => e = .returned (.int .i64 n) ∧ w' = w := by
  have c3 := h.c3
  go_enter Yba.func7, Yba.ntmps7
  go_wp2
  go_ret
  exact ⟨rfl, rfl⟩

theorem data10 {R Fb A n hdr : Nat} {kind : Int} {S : List UInt8} (w : World) (h : Nd w R Fb A n hdr kind S) :
    Calls Yba.prog 10 #[.pointer (some ⟨R, 0, none⟩)] w fun e w' => e = .returned (.slice (some ⟨Fb, 8, none⟩) 4088 4088) ∧ w' = w := by
  have c0 := h.c0
  have c1 := h.c1
  go_enter Yba.func10, Yba.ntmps10
  go_wp2
  go_ret
  exact ⟨rfl, rfl⟩

theorem leaf8 {R Fb A n hdr : Nat} {kind : Int} {S : List UInt8} (w : World) (h : Nd w R Fb A n hdr kind S) (q : Bool) (hq : (kind == 1) = q) :
    Calls Yba.prog 8 #[.pointer (some ⟨R, 0, none⟩)] w fun e w' => e = .returned (.bool q) ∧ w' = w := by
  have ck := h.ck
  go_enter Yba.func8, Yba.ntmps8
  go_wp2_with fail
  refine (data10 _ h).mono ?_
  rintro e w1 ⟨rfl, hw⟩
  rw [hw]
  go_wp2
  go_ret
  exact ⟨rfl, rfl⟩

theorem start6 {R Fb A n hdr : Nat} {kind : Int} {S : List UInt8} (w : World) (h : Nd w R Fb A n hdr kind S) (hn : n ≤ 256) (hh : hdr ≤ 8) (i : Nat) (hi : i ≤ n) (z : Int) (hz : z = (i : Int)) :
    Calls Yba.prog 6 #[.pointer (some ⟨R, 0, none⟩), .int .i64 z] w fun e w' => e = .returned (.int .i64 ((hdr + pre S i : Nat) : Int)) ∧ w' = w := by
  subst hz
  by_cases e : i = n
  · have b1 : ((i : Int) == (n : Int)) = true := beq_iff_eq.2 (by omega)
    have c2 := h.c2
    rw [← e] at c2
    have C2 : w.cell? ⟨R, 2, none⟩ = some (.int .i64 ((hdr + pre S i : Nat) : Int)) := c2
    clear e c2
    generalize ((hdr + pre S i : Nat) : Int) = v at C2
    go_enter Yba.func6, Yba.ntmps6
    go_wp2_with fail
    refine (count7 _ h).mono ?_
    rintro e w1 ⟨rfl, hw⟩
    rw [hw]
    go_wp2
    go_ret
    exact ⟨rfl, rfl⟩
  · have b1 : ((i : Int) == (n : Int)) = false := beq_eq_false_iff_ne.2 (by omega)
    have hin : (i : Int) < (n : Int) := by omega
    have c3 := h.c3
    have ca := h.ca i (by omega)
    have hv0 : (0 : Int) ≤ ((hdr + pre S i : Nat) : Int) := by omega
    have hv1 : ((hdr + pre S i : Nat) : Int) ≤ 65535 := by have := pre_le S i; omega
    clear e
    generalize ((hdr + pre S i : Nat) : Int) = v at ca hv0 hv1
    go_enter Yba.func6, Yba.ntmps6
    go_wp2_with fail
    refine (count7 _ h).mono ?_
    rintro e w1 ⟨rfl, hw⟩
    rw [hw]
    go_wp2
    go_ret
    exact ⟨rfl, rfl⟩

theorem end11 {R Fb A n hdr : Nat} {kind : Int} {S : List UInt8} (w : World) (h : Nd w R Fb A n hdr kind S) (hn : n ≤ 256) (hh : hdr ≤ 8) (i : Nat) (hi : i < n) :
    Calls Yba.prog 11 #[.pointer (some ⟨R, 0, none⟩), .int .i64 i] w fun e w' => e = .returned (.int .i64 ((hdr + pre S (i + 1) : Nat) : Int)) ∧ w' = w := by
  go_enter Yba.func11, Yba.ntmps11
  go_wp2_with fail
  refine (start6 _ h hn hh (i + 1) (by omega) _ (by omega)).mono ?_
  rintro e w1 ⟨rfl, hw⟩
  rw [hw]
  go_wp2
  go_ret
  exact ⟨rfl, rfl⟩

set_option maxHeartbeats 400000 in
theorem size9 {R Fb A n hdr : Nat} {kind : Int} {S : List UInt8} (w : World) (h : Nd w R Fb A n hdr kind S) (hn : n ≤ 256) (hh : hdr ≤ 8) (i : Nat) (hi : i < n) :
    Calls Yba.prog 9 #[.pointer (some ⟨R, 0, none⟩), .int .i64 i] w fun e w' => e = .returned (.int .i64 (sz S i : Nat)) ∧ ∃ m, w' = w.drewN m := by
  have hin : (i : Int) < (n : Int) := by omega
  have c3 := h.c3
  have ca := h.ca i hi
  have hv0 : (0 : Int) ≤ ((hdr + pre S i : Nat) : Int) := by omega
  have hv1 : ((hdr + pre S i : Nat) : Int) ≤ 65535 := by have := pre_le S i; omega
  have hu0 : (0 : Int) ≤ ((hdr + pre S (i + 1) : Nat) : Int) := by omega
  have hu1 : ((hdr + pre S (i + 1) : Nat) : Int) ≤ 65600 := by have := pre_le S (i + 1); omega
  have HE : Hid (((hdr + pre S (i + 1) : Nat) : Int) - ((hdr + pre S i : Nat) : Int) = (sz S i : Nat)) := by show _ = _; rw [pre_succ]; omega
  have PE : Hid (∀ m, Calls Yba.prog 11 #[.pointer (some ⟨R, 0, none⟩), .int .i64 i] (w.drewN m) fun e w' => e = .returned (.int .i64 ((hdr + pre S (i + 1) : Nat) : Int)) ∧ w' = w.drewN m) := fun m => end11 _ (h.drewN m) hn hh i hi
  generalize ((hdr + pre S i : Nat) : Int) = v at ca hv0 hv1 HE
  generalize ((hdr + pre S (i + 1) : Nat) : Int) = u at hu0 hu1 HE PE
  go_enter Yba.func9, Yba.ntmps9
  go_wp2
  go_quiet ((go_at_call 11; exact Calls.quiet_of_same (PE.out _)))
  go_wp2
  go_ret
  rw [← HE.out]
  exact ⟨rfl, nq, rfl⟩
end Go.Proofs.Ybulkhtw
