/-
  Seat b0420aF: the plain mathematics of reading an unsigned number out of a text. No Go in sight.
-/
import Derived.WalkKit
namespace Go.Proofs.YbulkhreFmt
open Go Go.RowKit

/-- Space, as the reader skips it. -/
def isSp (b : UInt8) : Bool := b.toNat == 32 || b.toNat == 9 || b.toNat == 10 || b.toNat == 13
/-- A decimal digit. -/
def isDg (b : UInt8) : Bool := decide (48 ≤ b.toNat ∧ b.toNat ≤ 57)
/-- How many bytes from k on, one behind the other, meet p. -/
def run (p : UInt8 → Bool) (D : List UInt8) (k : Nat) : Nat := ((D.drop k).takeWhile p).length

theorem run_cons {p : UInt8 → Bool} {D : List UInt8} {k : Nat} (hk : k < D.length) : run p D k = if p D[k] then run p D (k + 1) + 1 else 0 := by
  unfold run
  rw [List.drop_eq_getElem_cons hk, List.takeWhile_cons]
  split <;> simp
theorem run_yes {p : UInt8 → Bool} {D : List UInt8} {k : Nat} (hk : k < D.length) (h : p D[k] = true) : run p D k = run p D (k + 1) + 1 := by rw [run_cons hk, if_pos h]
theorem run_no {p : UInt8 → Bool} {D : List UInt8} {k : Nat} (hk : k < D.length) (h : p D[k] = false) : run p D k = 0 := by rw [run_cons hk, if_neg (by simp [h])]
theorem run_end {p : UInt8 → Bool} {D : List UInt8} {k : Nat} (hk : D.length ≤ k) : run p D k = 0 := by
  unfold run
  rw [List.drop_eq_nil_of_le hk]
  rfl
theorem run_le (p : UInt8 → Bool) (D : List UInt8) (k : Nat) : run p D k ≤ D.length - k := by
  unfold run
  have := (List.takeWhile_sublist (l := D.drop k) p).length_le
  simpa using this
theorem run_all (p : UInt8 → Bool) : ∀ (m : Nat) (D : List UInt8) (k j : Nat) (h : j < D.length), run p D k = m → k ≤ j → j < k + m → p D[j] = true
  | 0, _, _, _, _, _, _, h2 => absurd h2 (by omega)
  | m + 1, D, k, j, h, hr, h1, h2 => by
    have hk : k < D.length := by
      rcases Nat.lt_or_ge k D.length with a | a
      · exact a
      · rw [run_end a] at hr; cases hr
    cases hp : p D[k] with
    | false => rw [run_no hk hp] at hr; cases hr
    | true =>
      rw [run_yes hk hp] at hr
      by_cases e : j = k
      · subst e; exact hp
      · exact run_all p m D (k + 1) j h (by omega) (by omega) (by omega)
theorem run_stop (p : UInt8 → Bool) : ∀ (m : Nat) (D : List UInt8) (k : Nat), run p D k = m → (h : k + m < D.length) → p D[k + m] = false
  | 0, D, k, hr, h => by
    have h' : k < D.length := h
    cases hp : p D[k] with
    | false => rfl
    | true => rw [run_yes h' hp] at hr; cases hr
  | m + 1, D, k, hr, h => by
    have hk : k < D.length := by omega
    cases hp : p D[k] with
    | false => rw [run_no hk hp] at hr; cases hr
    | true =>
      rw [run_yes hk hp] at hr
      have := run_stop p m D (k + 1) (by omega) (by omega)
      simpa [show k + 1 + m = k + (m + 1) by omega] using this
end Go.Proofs.YbulkhreFmt
