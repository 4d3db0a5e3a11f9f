/-
  Seat b0420aF: what number comes to, plainly: no walk here.
-/
import Derived.Test.YbulkhreFmtReader
namespace Go.Proofs.YbulkhreFmt
open Go Go.RowKit

def dotQ (b : UInt8) : Bool := decide (b.toNat = 46)
def eQ (b : UInt8) : Bool := decide (b.toNat = 101 ∨ b.toNat = 69)
def sgQ (b : UInt8) : Bool := decide (b.toNat = 43 ∨ b.toNat = 45)
def zeroQ (b : UInt8) : Bool := decide (b.toNat = 48)
/-- The length of the integer part that stands at k: one zero, or all the digits. -/
def LL (D : List UInt8) (k : Nat) : Nat := if zeroQ (peekB D k) = true then 1 else run isDg D k

theorem peekB_in {D : List UInt8} {k : Nat} (h : k < D.length) : peekB D k = D[k] := by unfold peekB; rw [dif_pos h]
theorem peekB_out {D : List UInt8} {k : Nat} (h : D.length ≤ k) : peekB D k = 0 := by unfold peekB; rw [dif_neg (by omega)]
theorem run_peek {D : List UInt8} {k : Nat} (h : isDg (peekB D k) = true) : k < D.length ∧ 0 < run isDg D k := by
  rcases Nat.lt_or_ge k D.length with a | a
  · rw [peekB_in a] at h
    rw [run_yes a h]
    exact ⟨a, by omega⟩
  · rw [peekB_out a] at h
    cases h
theorem isDg_not45 {b : UInt8} (h : isDg b = true) : b.toNat ≠ 45 := by
  have := of_decide_eq_true h
  omega

/-- What number leaves: where it stands, and whether it found nothing wrong. -/
structure NumPost (D : List UInt8) (n k k' : Nat) (ok : Bool) : Prop where
  le : k' ≤ n
  gt : ok = true → k < k'
  plain : isDg (peekB D k) = true → dotQ (peekB D (k + LL D k)) = false → eQ (peekB D (k + LL D k)) = false → ok = true ∧ k' = k + LL D k
  more : isDg (peekB D k) = true → dotQ (peekB D (k + LL D k)) = true ∨ eQ (peekB D (k + LL D k)) = true → ok = true → k + LL D k < k'

/-- Behind the sign. -/
def N1 (D : List UInt8) (n k k1 : Nat) : Prop := k1 ≤ n ∧ (((peekB D k).toNat = 45 ∧ k1 = k + 1) ∨ ((peekB D k).toNat ≠ 45 ∧ k1 = k))
/-- Behind the integer part. -/
def N2 (D : List UInt8) (n k k2 : Nat) : Prop := k2 ≤ n ∧ k < k2 ∧ ((peekB D k).toNat ≠ 45 → k2 = k + LL D k)
/-- Behind the fraction. -/
def N3 (D : List UInt8) (n k k4 : Nat) : Prop := k4 ≤ n ∧ k < k4 ∧ (isDg (peekB D k) = true → (k4 = k + LL D k ∧ dotQ (peekB D (k + LL D k)) = false) ∨ (k + LL D k < k4 ∧ dotQ (peekB D (k + LL D k)) = true))

theorem n2_zero {D : List UInt8} {n k k1 : Nat} (h : N1 D n k k1) (hl : D.length = n) (hz : zeroQ (peekB D k1) = true) : N2 D n k (k1 + 1) := by
  have hk : k1 < n := by
    rcases Nat.lt_or_ge k1 D.length with a | a
    · omega
    · rw [peekB_out a] at hz; cases hz
  refine ⟨by omega, by rcases h.2 with ⟨_, e⟩ | ⟨_, e⟩ <;> omega, fun h45 => ?_⟩
  rcases h.2 with ⟨e, _⟩ | ⟨_, e⟩
  · exact absurd e h45
  · subst e; unfold LL; rw [if_pos hz]
theorem n2_digits {D : List UInt8} {n k k1 : Nat} (h : N1 D n k k1) (hl : D.length = n) (hz : zeroQ (peekB D k1) = false) (hr : 0 < run isDg D k1) : N2 D n k (k1 + run isDg D k1) := by
  have := run_le isDg D k1
  have := h.1
  refine ⟨by omega, by rcases h.2 with ⟨_, e⟩ | ⟨_, e⟩ <;> omega, fun h45 => ?_⟩
  rcases h.2 with ⟨e, _⟩ | ⟨_, e⟩
  · exact absurd e h45
  · subst e; unfold LL; rw [if_neg (by simp [hz])]
theorem np_nodigits {D : List UInt8} {n k k1 : Nat} (h : N1 D n k k1) (hr : run isDg D k1 = 0) : NumPost D n k k1 false := by
  refine ⟨h.1, fun e => (by cases e), fun hd _ _ => ?_, fun _ _ e => (by cases e)⟩
  rcases h.2 with ⟨e, _⟩ | ⟨_, e⟩
  · exact absurd e (isDg_not45 hd)
  · subst e
    have := (run_peek hd).2
    omega
theorem n3_none {D : List UInt8} {n k k2 : Nat} (h : N2 D n k k2) (hd : dotQ (peekB D k2) = false) : N3 D n k k2 :=
  ⟨h.1, h.2.1, fun hg => by
    have e := h.2.2 (isDg_not45 hg)
    rw [e] at hd
    exact .inl ⟨e, hd⟩⟩
theorem n3_frac {D : List UInt8} {n k k2 : Nat} (h : N2 D n k k2) (hd : dotQ (peekB D k2) = true) (m : Nat) (hm : k2 + 1 + m ≤ n) : N3 D n k (k2 + 1 + m) :=
  ⟨hm, by have := h.2.1; omega, fun hg => by
    have e := h.2.2 (isDg_not45 hg)
    rw [e] at hd
    exact .inr ⟨by omega, hd⟩⟩
theorem np_frac {D : List UInt8} {n k k2 : Nat} (h : N2 D n k k2) (hd : dotQ (peekB D k2) = true) (k' : Nat) (hk' : k' ≤ n) : NumPost D n k k' false := by
  refine ⟨hk', fun e => (by cases e), fun hg h1 _ => ?_, fun _ _ e => (by cases e)⟩
  rw [h.2.2 (isDg_not45 hg)] at hd
  rw [hd] at h1
  cases h1
theorem np_none {D : List UInt8} {n k k4 : Nat} (h : N3 D n k k4) (he : eQ (peekB D k4) = false) : NumPost D n k k4 true := by
  refine ⟨h.1, fun _ => h.2.1, fun hg h1 _ => ⟨rfl, ?_⟩, fun hg h1 _ => ?_⟩
  · rcases h.2.2 hg with ⟨e, _⟩ | ⟨_, e⟩
    · exact e
    · rw [e] at h1; cases h1
  · rcases h.2.2 hg with ⟨e, e2⟩ | ⟨e, _⟩
    · subst e
      rcases h1 with h1 | h1
      · rw [e2] at h1; cases h1
      · rw [he] at h1; cases h1
    · exact e
theorem np_exp_ok {D : List UInt8} {n k k4 : Nat} (h : N3 D n k k4) (he : eQ (peekB D k4) = true) (k' : Nat) (hk' : k' ≤ n) (hlt : k4 < k') : NumPost D n k k' true := by
  refine ⟨hk', fun _ => by have := h.2.1; omega, fun hg h1 h2 => ?_, fun hg _ _ => ?_⟩
  · rcases h.2.2 hg with ⟨e, _⟩ | ⟨_, e⟩
    · subst e; rw [he] at h2; cases h2
    · rw [e] at h1; cases h1
  · rcases h.2.2 hg with ⟨e, _⟩ | ⟨e, _⟩ <;> omega
theorem np_exp_bad {D : List UInt8} {n k k4 : Nat} (h : N3 D n k k4) (he : eQ (peekB D k4) = true) (k' : Nat) (hk' : k' ≤ n) : NumPost D n k k' false := by
  refine ⟨hk', fun e => (by cases e), fun hg h1 h2 => ?_, fun _ _ e => (by cases e)⟩
  rcases h.2.2 hg with ⟨e, _⟩ | ⟨_, e⟩
  · subst e; rw [he] at h2; cases h2
  · rw [e] at h1; cases h1
end Go.Proofs.YbulkhreFmt
