/-
  Seat b0420aF: what Uint comes to, plainly: no walk here.
-/
import Derived.Test.YbulkhreFmtNum
namespace Go.Proofs.YbulkhreFmt
open Go Go.RowKit

/-- 2^64, kept behind a name. -/
def B64 : Nat := 18446744073709551616
/-- The number that the q digits from s on say. -/
def dv (D : List UInt8) (s : Nat) : Nat → Nat
  | 0 => 0
  | q + 1 => dv D s q * 10 + ((peekB D (s + q)).toNat - 48)
theorem dv_succ (D : List UInt8) (s q : Nat) : dv D s (q + 1) = dv D s q * 10 + ((peekB D (s + q)).toNat - 48) := rfl
theorem dv_mono (D : List UInt8) (s q : Nat) : ∀ d, dv D s q ≤ dv D s (q + d)
  | 0 => Nat.le_refl _
  | d + 1 => by
    have := dv_mono D s q d
    rw [show q + (d + 1) = (q + d) + 1 by omega, dv_succ]
    omega
theorem dv_le (D : List UInt8) (s : Nat) {q q' : Nat} (h : q ≤ q') : dv D s q ≤ dv D s q' := by
  obtain ⟨d, rfl⟩ := Nat.exists_eq_add_of_le h
  exact dv_mono D s q d

/-- A plain unsigned number of 64 bits stands at i. -/
def Good (D : List UInt8) (i : Nat) : Prop :=
  isDg (peekB D i) = true ∧ dotQ (peekB D (i + LL D i)) = false ∧ eQ (peekB D (i + LL D i)) = false ∧ dv D i (LL D i) < B64
/-- What Uint leaves. -/
structure UPost (D : List UInt8) (i val k' : Nat) (ok : Bool) : Prop where
  good : Good D i → ok = true ∧ val = dv D i (LL D i) ∧ k' = i + LL D i
  bad : ¬ Good D i → ok = false ∧ val = 0

theorem LL_digit {D : List UInt8} {i : Nat} (h : isDg (peekB D i) = true) (j : Nat) (hj : j < LL D i) : isDg (peekB D (i + j)) = true := by
  unfold LL at hj
  by_cases hz : zeroQ (peekB D i) = true
  · rw [if_pos hz] at hj
    obtain rfl : j = 0 := by omega
    exact h
  · rw [if_neg hz] at hj
    have hle := run_le isDg D i
    have hlt := (run_peek h).1
    have hij : i + j < D.length := by omega
    rw [peekB_in hij]
    exact run_all isDg _ D i (i + j) hij rfl (by omega) (by omega)
theorem LL_pos {D : List UInt8} {i : Nat} (h : isDg (peekB D i) = true) : 0 < LL D i := by
  unfold LL
  split
  · omega
  · exact (run_peek h).2
theorem dot_not_digit {b : UInt8} (h : dotQ b = true ∨ eQ b = true) : isDg b = false := by
  unfold dotQ eQ at h
  unfold isDg
  rw [decide_eq_false_iff_not]
  rcases h with h | h
  · have := of_decide_eq_true h; omega
  · have := of_decide_eq_true h; omega

theorem up_bad {D : List UInt8} {i k' : Nat} (h : ¬ Good D i) : UPost D i 0 k' false := ⟨fun g => absurd g h, fun _ => ⟨rfl, rfl⟩⟩
theorem up_nodigit {D : List UInt8} {i k' : Nat} (h : isDg (peekB D i) = false) : UPost D i 0 k' false := up_bad fun g => by
  have := g.1
  rw [h] at this
  cases this
theorem up_numfail {D : List UInt8} {n i k' k'' : Nat} (h : NumPost D n i k' false) : UPost D i 0 k'' false := up_bad fun g => by
  have := (h.plain g.1 g.2.1 g.2.2.1).1
  cases this
/-- A byte that is no digit is met within what number took. -/
theorem up_meets {D : List UInt8} {n i k' k'' q : Nat} (h : NumPost D n i k' true) (hq : i + q < k') (hd : isDg (peekB D (i + q)) = false) : UPost D i 0 k'' false := up_bad fun g => by
  have e := (h.plain g.1 g.2.1 g.2.2.1).2
  have := LL_digit g.1 q (by omega)
  rw [hd] at this
  cases this
/-- The number grows beyond 64 bits. -/
theorem up_over {D : List UInt8} {n i k' k'' q : Nat} (h : NumPost D n i k' true) (hq : i + q < k') (hv : B64 ≤ dv D i (q + 1)) : UPost D i 0 k'' false := up_bad fun g => by
  have e := (h.plain g.1 g.2.1 g.2.2.1).2
  have := dv_le D i (show q + 1 ≤ LL D i by omega)
  have := g.2.2.2
  omega
/-- All are digits, and the number fits. -/
theorem up_good {D : List UInt8} {n i k' : Nat} (h : NumPost D n i k' true) (hall : ∀ j, i + j < k' → isDg (peekB D (i + j)) = true) (hv : dv D i (k' - i) < B64) : UPost D i (dv D i (k' - i)) k' true := by
  have h0 : isDg (peekB D i) = true := hall 0 (by have := h.gt rfl; omega)
  have hno : ¬ (dotQ (peekB D (i + LL D i)) = true ∨ eQ (peekB D (i + LL D i)) = true) := fun hd => by
    have hm := h.more h0 hd rfl
    have := hall (LL D i) hm
    rw [dot_not_digit hd] at this
    cases this
  have h1 : dotQ (peekB D (i + LL D i)) = false := by
    cases e : dotQ (peekB D (i + LL D i)) with
    | false => rfl
    | true => exact absurd (.inl e) hno
  have h2 : eQ (peekB D (i + LL D i)) = false := by
    cases e : eQ (peekB D (i + LL D i)) with
    | false => rfl
    | true => exact absurd (.inr e) hno
  have e := (h.plain h0 h1 h2).2
  have e2 : k' - i = LL D i := by omega
  refine ⟨fun _ => ⟨rfl, by rw [e2], e⟩, fun hb => absurd ⟨h0, h1, h2, ?_⟩ hb⟩
  rw [← e2]
  exact hv
end Go.Proofs.YbulkhreFmt
