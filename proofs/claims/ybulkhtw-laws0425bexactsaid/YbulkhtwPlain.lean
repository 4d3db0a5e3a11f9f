/-
  Seat b0425a: the plain mathematics of the split: sums of the first sizes, the cost of a split, the best split among the first k. No Go in sight.
-/
import Derived.WalkKit
namespace Go.Proofs.Ybulkhtw
open Go Go.RowKit

/-- The size of entry j (0 behind the last). -/
def sz (S : List UInt8) (j : Nat) : Nat := (S.getD j 0).toNat
/-- The sum of the first k sizes. -/
def pre (S : List UInt8) : Nat → Nat
  | 0 => 0
  | k + 1 => pre S k + sz S k
theorem sz_le (S : List UInt8) (j : Nat) : sz S j ≤ 255 := by
  unfold sz
  have := (S.getD j 0).toNat_lt
  omega
theorem pre_succ (S : List UInt8) (k : Nat) : pre S (k + 1) = pre S k + sz S k := rfl
theorem pre_le (S : List UInt8) : ∀ k, pre S k ≤ 255 * k
  | 0 => Nat.le_refl _
  | k + 1 => by
    have := pre_le S k
    have := sz_le S k
    rw [pre_succ]
    omega
theorem pre_mono (S : List UInt8) {k : Nat} : ∀ {m : Nat}, k ≤ m → pre S k ≤ pre S m
  | 0, h => by obtain rfl : k = 0 := by omega
               exact Nat.le_refl _
  | m + 1, h => by
    by_cases e : k = m + 1
    · subst e; exact Nat.le_refl _
    · have := pre_mono S (show k ≤ m by omega)
      rw [pre_succ]
      omega
theorem sz_at (S : List UInt8) (j : Nat) (h : j < S.length) : S[j].toNat = sz S j := by
  unfold sz
  rw [List.getD_eq_getElem?_getD, List.getElem?_eq_getElem h]
  rfl

/-- What goes to the right of a split at m. -/
def rest (leaf : Bool) (S : List UInt8) (n m : Nat) : Int := if leaf then (pre S n : Int) - pre S m else (pre S n : Int) - pre S m - sz S m
/-- The larger part of a split at m. -/
def cost (leaf : Bool) (S : List UInt8) (n m : Nat) : Int := if rest leaf S n m > pre S m then rest leaf S n m else pre S m
theorem cost_nonneg (leaf : Bool) (S : List UInt8) (n m : Nat) : 0 ≤ cost leaf S n m := by
  unfold cost
  split <;> omega
theorem cost_le (leaf : Bool) (S : List UInt8) (n m : Nat) (hn : n ≤ 256) (hm : m ≤ 256) : cost leaf S n m ≤ 65280 := by
  have h1 := pre_le S n
  have h2 := pre_le S m
  unfold cost rest
  split <;> split <;> omega
/-- The best split among 1 .. k, and its cost; (1, -1) where there is none. -/
def bst (leaf : Bool) (S : List UInt8) (n : Nat) : Nat → Int × Int
  | 0 => (1, -1)
  | k + 1 => if (bst leaf S n k).2 < 0 ∨ cost leaf S n (k + 1) < (bst leaf S n k).2 then ((k + 1 : Nat), cost leaf S n (k + 1)) else bst leaf S n k
theorem bst_take {leaf : Bool} {S : List UInt8} {n k : Nat} (h : (bst leaf S n k).2 < 0 ∨ cost leaf S n (k + 1) < (bst leaf S n k).2) : bst leaf S n (k + 1) = (((k + 1 : Nat) : Int), cost leaf S n (k + 1)) := by
  rw [bst, if_pos h]
theorem bst_keep {leaf : Bool} {S : List UInt8} {n k : Nat} (h : ¬ ((bst leaf S n k).2 < 0 ∨ cost leaf S n (k + 1) < (bst leaf S n k).2)) : bst leaf S n (k + 1) = bst leaf S n k := by
  rw [bst, if_neg h]
end Go.Proofs.Ybulkhtw
