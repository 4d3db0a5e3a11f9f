/-
  Seat b0420aF: the decimal text of a number, plainly.
-/
import Derived.Test.YbulkhreFmtUnum
namespace Go.Proofs.YbulkhreFmt
open Go Go.RowKit

/-- One digit, as a byte. -/
def dgB (x : Nat) : UInt8 := UInt8.ofNat (48 + x % 10)
theorem dgB_val (x : Nat) : (dgB x).toNat = 48 + x % 10 := by
  unfold dgB
  rw [UInt8.toNat_ofNat']
  omega
/-- The last t digits of v. -/
def lastD (v : Nat) : Nat → List UInt8
  | 0 => []
  | t + 1 => dgB (v / 10 ^ t) :: lastD v t
theorem lastD_len (v : Nat) : ∀ t, (lastD v t).length = t
  | 0 => rfl
  | t + 1 => by simp [lastD, lastD_len v t]
theorem lastD_get (v : Nat) : ∀ t j (h : j < (lastD v t).length), (lastD v t)[j] = dgB (v / 10 ^ (t - 1 - j))
  | 0, j, h => absurd h (by simp [lastD])
  | t + 1, 0, h => by simp [lastD]
  | t + 1, j + 1, h => by
    have := lastD_get v t j (by simpa [lastD] using h)
    simp only [lastD, List.getElem_cons_succ, this]
    congr 3
    omega
theorem isDg_dgB (x : Nat) : isDg (dgB x) = true := by
  unfold isDg
  rw [decide_eq_true_iff, dgB_val]
  omega
/-- What the first q of the t last digits say. -/
theorem dv_last (D : List UInt8) (p v t : Nat) (h : ∀ j, j < t → peekB D (p + j) = dgB (v / 10 ^ (t - 1 - j))) : ∀ q, q ≤ t → dv D p q = v / 10 ^ (t - q) % 10 ^ q
  | 0, _ => by simp [dv, Nat.mod_one]
  | q + 1, hq => by
    have ih := dv_last D p v t h q (by omega)
    rw [dv_succ, ih, h q (by omega), dgB_val]
    have e1 : t - q = (t - (q + 1)) + 1 := by omega
    have e2 : t - 1 - q = t - (q + 1) := by omega
    rw [e1, e2, Nat.pow_succ, ← Nat.div_div_eq_div_mul]
    generalize v / 10 ^ (t - (q + 1)) = y
    rw [Nat.pow_succ]
    generalize 10 ^ q = z
    have h1 : y % (z * 10) = y % (10 * z) := by rw [Nat.mul_comm]
    rw [h1, Nat.mod_mul]
    omega

theorem run_eq (p : UInt8 → Bool) : ∀ (m : Nat) (D : List UInt8) (k : Nat), (∀ j, j < m → k + j < D.length ∧ p (peekB D (k + j)) = true) → (k + m < D.length → p (peekB D (k + m)) = false) → run p D k = m
  | 0, D, k, _, h2 => by
    rcases Nat.lt_or_ge k D.length with a | a
    · have := h2 a
      rw [Nat.add_zero, peekB_in a] at this
      exact run_no a this
    · exact run_end a
  | m + 1, D, k, h1, h2 => by
    have h0 := h1 0 (by omega)
    rw [Nat.add_zero] at h0
    have h01 := h0.2
    rw [peekB_in h0.1] at h01
    rw [run_yes h0.1 h01, run_eq p m D (k + 1) (fun j hj => by
      have := h1 (j + 1) (by omega)
      rw [show k + (j + 1) = k + 1 + j by omega] at this
      exact this) (fun h => by
      rw [show k + 1 + m = k + (m + 1) by omega]
      exact h2 (by omega))]

/-- The text that the law builds: p blanks, the digits of v, and behind them nothing, a blank or a comma. -/
structure Built (D : List UInt8) (p t v : Nat) : Prop where
  pos : 0 < t
  len : p + t ≤ D.length
  pad : ∀ j, j < p → (peekB D j).toNat = 32
  dig : ∀ j, j < t → peekB D (p + j) = dgB (v / 10 ^ (t - 1 - j))
  lt : v < 10 ^ t
  lead : t = 1 ∨ 10 ^ (t - 1) ≤ v
  tail : (peekB D (p + t)).toNat = 0 ∨ (peekB D (p + t)).toNat = 32 ∨ (peekB D (p + t)).toNat = 44

theorem Built.sp {D : List UInt8} {p t v : Nat} (h : Built D p t v) : run isSp D 0 = p := by
  refine run_eq isSp p D 0 (fun j hj => ⟨by have := h.len; omega, ?_⟩) (fun _ => ?_)
  · have := h.pad j hj
    rw [Nat.zero_add]
    simp [isSp, this]
  · have := h.dig 0 h.pos
    rw [Nat.add_zero] at this
    rw [Nat.zero_add, this]
    have e := dgB_val (v / 10 ^ (t - 1 - 0))
    unfold isSp
    rw [e]
    simp
    omega
theorem Built.dg {D : List UInt8} {p t v : Nat} (h : Built D p t v) : isDg (peekB D p) = true := by
  have := h.dig 0 h.pos
  rw [Nat.add_zero] at this
  rw [this]
  exact isDg_dgB _
theorem Built.run {D : List UInt8} {p t v : Nat} (h : Built D p t v) : run isDg D p = t := by
  refine run_eq isDg t D p (fun j hj => ⟨by have := h.len; omega, ?_⟩) (fun _ => ?_)
  · rw [h.dig j hj]
    exact isDg_dgB _
  · unfold isDg
    rw [decide_eq_false_iff_not]
    have := h.tail
    omega
theorem Built.ll {D : List UInt8} {p t v : Nat} (h : Built D p t v) : LL D p = t := by
  unfold LL
  split
  · rename_i hz
    have e := h.dig 0 h.pos
    rw [Nat.add_zero] at e
    rw [e] at hz
    have hz' := of_decide_eq_true hz
    rw [dgB_val] at hz'
    rcases h.lead with h1 | h1
    · exact h1.symm
    · exfalso
      have h2 : 0 < v / 10 ^ (t - 1) := Nat.div_pos h1 (Nat.pow_pos (by omega))
      have h3 : v / 10 ^ (t - 1) < 10 := by
        rw [Nat.div_lt_iff_lt_mul (Nat.pow_pos (by omega))]
        have := h.lt
        rw [show t = (t - 1) + 1 by have := h.pos; omega, Nat.pow_succ] at this
        rw [Nat.mul_comm]
        simpa using this
      rw [Nat.sub_zero] at hz'
      omega
  · exact h.run
theorem Built.val {D : List UInt8} {p t v : Nat} (h : Built D p t v) : dv D p t = v := by
  rw [dv_last D p v t h.dig t (Nat.le_refl _), Nat.sub_self, Nat.pow_zero, Nat.div_one]
  exact Nat.mod_eq_of_lt h.lt
theorem Built.good {D : List UInt8} {p t v : Nat} (h : Built D p t v) (hv : v < B64) : Good D p := by
  refine ⟨h.dg, ?_, ?_, ?_⟩
  · rw [h.ll]
    unfold dotQ
    rw [decide_eq_false_iff_not]
    have := h.tail
    omega
  · rw [h.ll]
    unfold eQ
    rw [decide_eq_false_iff_not]
    have := h.tail
    omega
  · rw [h.ll, h.val]
    exact hv

/-- One more digit goes ahead of the last ones. -/
theorem digit_step (L : List UInt8) (v k : Nat) (hL : L.length = 20) (hk : k < 20) (hd : L.drop (k + 1) = lastD v (19 - k)) : (L.set k (dgB (v / 10 ^ (19 - k)))).drop k = lastD v (20 - k) := by
  rw [show 20 - k = (19 - k) + 1 by omega, lastD, ← hd]
  rw [List.drop_eq_getElem_cons (by simp; omega), List.getElem_set_self, List.drop_set_of_lt (by omega)]
theorem more_digits (v k : Nat) (hv : v < 18446744073709551616) (hk : k < 20) (h : v / 10 ^ (19 - k) / 10 ≠ 0) : ∃ k', k = k' + 1 ∧ v / 10 ^ (19 - k) / 10 = v / 10 ^ (19 - k') ∧ 10 ^ (19 - k') ≤ v ∧ 20 - k = 19 - k' := by
  cases k with
  | zero =>
    exfalso
    apply h
    rw [Nat.div_div_eq_div_mul]
    exact Nat.div_eq_of_lt (Nat.lt_of_lt_of_le hv (by decide))
  | succ k' =>
    refine ⟨k', rfl, ?_, ?_, by omega⟩
    · rw [Nat.div_div_eq_div_mul, ← Nat.pow_succ]
      congr 2
      omega
    · rw [Nat.div_div_eq_div_mul, ← Nat.pow_succ, show (19 - (k' + 1)).succ = 19 - k' by omega] at h
      rcases Nat.lt_or_ge v (10 ^ (19 - k')) with a | a
      · exact absurd (Nat.div_eq_of_lt a) h
      · exact a
theorem no_more (v k : Nat) (hk : k < 20) (h : v / 10 ^ (19 - k) / 10 = 0) : v < 10 ^ (20 - k) := by
  rw [Nat.div_div_eq_div_mul, ← Nat.pow_succ, show (19 - k).succ = 20 - k by omega] at h
  rcases Nat.lt_or_ge v (10 ^ (20 - k)) with a | a
  · exact a
  · have := Nat.div_pos a (Nat.pow_pos (by omega))
    omega

theorem peekB_append {A C : List UInt8} {j : Nat} : peekB (A ++ C) j = if j < A.length then peekB A j else peekB C (j - A.length) := by
  unfold peekB
  by_cases h1 : j < A.length
  · rw [if_pos h1, dif_pos h1, dif_pos (by simp; omega), List.getElem_append_left h1]
  · rw [if_neg h1]
    by_cases h2 : j - A.length < C.length
    · rw [dif_pos h2, dif_pos (by simp; omega), List.getElem_append_right (by omega)]
    · rw [dif_neg h2, dif_neg (by simp; omega)]
theorem built_mk (p t v : Nat) (tail : List UInt8) (ht : 0 < t) (hv : v < 10 ^ t) (hl : t = 1 ∨ 10 ^ (t - 1) ≤ v) (htail : tail = [] ∨ tail = [32] ∨ tail = [44]) : Built (List.replicate p 32 ++ lastD v t ++ tail) p t v := by
  have hA : (List.replicate p (32 : UInt8) ++ lastD v t).length = p + t := by simp [lastD_len]
  refine ⟨ht, by simp [lastD_len], fun j hj => ?_, fun j hj => ?_, hv, hl, ?_⟩
  · rw [peekB_append, if_pos (by omega), peekB_append, if_pos (by simpa using hj), peekB_in (by simpa using hj)]
    simp
  · rw [peekB_append, if_pos (by omega), peekB_append, if_neg (by simp), List.length_replicate, show p + j - p = j by omega, peekB_in (by rw [lastD_len]; exact hj), lastD_get]
  · rw [peekB_append, if_neg (by omega), hA, Nat.sub_self]
    rcases htail with rfl | rfl | rfl
    · left; rfl
    · right; left; rfl
    · right; right; rfl
end Go.Proofs.YbulkhreFmt
