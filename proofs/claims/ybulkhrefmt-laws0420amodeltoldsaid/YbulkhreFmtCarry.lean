/-
  Seat b0420aF: the model's helpers, walked: space, digit, math/bits.Mul64 at ten, math/bits.Add64.
-/
import Derived.Test.YbulkhreFmtUint
import Derived.Laws.Bits64b
import Derived.Laws.Externs
namespace Go.Proofs.YbulkhreFmt
open Go Go.RowKit

theorem space12 (b : UInt8) (w : World) (q : Bool) (hq : isSp b = q) :
    Calls Ybaf.prog 12 #[.int .u8 (b.toNat : Int)] w fun e w' => e = .returned (.bool q) ∧ w = w' := by
  subst hq
  rcases (show b.toNat = 32 ∨ b.toNat = 9 ∨ b.toNat = 10 ∨ b.toNat = 13 ∨ (b.toNat ≠ 32 ∧ b.toNat ≠ 9 ∧ b.toNat ≠ 10 ∧ b.toNat ≠ 13) by omega) with e | e | e | e | e
  rotate_right
  · have hs : isSp b = false := by simp [isSp, e]
    rw [hs]
    obtain ⟨e1, e2, e3, e4⟩ := e
    have b1 : ((b.toNat : Int) == 32) = false := beq_eq_false_iff_ne.2 (by omega)
    have b2 : ((b.toNat : Int) == 9) = false := beq_eq_false_iff_ne.2 (by omega)
    have b3 : ((b.toNat : Int) == 10) = false := beq_eq_false_iff_ne.2 (by omega)
    have b4 : ((b.toNat : Int) == 13) = false := beq_eq_false_iff_ne.2 (by omega)
    clear hs
    go_enter Ybaf.func12, Ybaf.ntmps12
    go_wp2
    go_ret
    exact ⟨rfl, rfl⟩
  all_goals
    have hs : isSp b = true := by simp [isSp, e]
    rw [hs, e]
    clear hs e
    go_enter Ybaf.func12, Ybaf.ntmps12
    go_wp2
    go_ret
    exact ⟨rfl, rfl⟩

theorem digit13 (b : UInt8) (w : World) (q : Bool) (hq : isDg b = q) :
    Calls Ybaf.prog 13 #[.int .u8 (b.toNat : Int)] w fun e w' => e = .returned (.bool q) ∧ w = w' := by
  subst hq
  by_cases h : 48 ≤ b.toNat ∧ b.toNat ≤ 57
  · have e : isDg b = true := decide_eq_true h
    obtain ⟨h1, h2⟩ := h
    rw [e]
    clear e
    go_enter Ybaf.func13, Ybaf.ntmps13
    go_wp2
    go_ret
    exact ⟨by simp; omega, rfl⟩
  · have e : isDg b = false := decide_eq_false h
    rw [e]
    clear e
    by_cases h1 : 48 ≤ b.toNat
    · go_enter Ybaf.func13, Ybaf.ntmps13
      go_wp2
      go_ret
      exact ⟨by simp; omega, rfl⟩
    · go_enter Ybaf.func13, Ybaf.ntmps13
      go_wp2
      go_ret
      exact ⟨by simp, rfl⟩

theorem add15 (x y : Int) (hx : 0 ≤ x) (hy : 0 ≤ y) (w : World) : (callFunc 15 #[.int .u64 x, .int .u64 y, .int .u64 0]).run Ybaf.prog w =
    .ok (.value (.tuple #[.int .u64 ((x + y) % 18446744073709551616), .int .u64 ((x + y) / 18446744073709551616)])) w := by
  rw [run_callFunc_extern Ybaf.func15 (by kernel_rfl) (by kernel_rfl) (by kernel_rfl) (e := add64Entry) (by kernel_rfl), run_add64 x y 0 hx hy (by omega) (by omega)]
  simp only [Result.andThen, Int.add_zero]

/-- The low half of a word. -/
theorem low_half (a : Nat) (ha : a < 18446744073709551616) : bits .and .u64 (a : Int) 4294967295 = (a : Int) % 4294967296 := by
  have h := bits_and_u64_nat a 4294967295 ha (by omega)
  have e : a &&& 4294967295 = a % 4294967296 := Nat.and_two_pow_sub_one_eq_mod a 32
  rw [e] at h
  have h' : bits .and .u64 (a : Int) 4294967295 = ((a % 4294967296 : Nat) : Int) := h
  rw [h']
  omega
theorem low_ten : bits .and .u64 10 4294967295 = 10 := low_half 10 (by omega)

/-- The school method's upper half, at ten. -/
theorem hi_ten (x : Nat) (hx : x < 18446744073709551616) :
    IntKind.u64.wrap (((x : Int) / 4294967296 * 10 + (x : Int) % 4294967296 * 10 / 4294967296) / 4294967296 + IntKind.u64.wrap (bits BinOp.and IntKind.u64 ((x : Int) / 4294967296 * 10 + (x : Int) % 4294967296 * 10 / 4294967296) 4294967295) / 4294967296) = (x : Int) * 10 / 18446744073709551616 := by
  have h := low_half (x / 4294967296 * 10 + x % 4294967296 * 10 / 4294967296) (by omega)
  have e : ((x / 4294967296 * 10 + x % 4294967296 * 10 / 4294967296 : Nat) : Int) = (x : Int) / 4294967296 * 10 + (x : Int) % 4294967296 * 10 / 4294967296 := by omega
  rw [e] at h
  have hlast : ((x : Int) / 4294967296 * 10 + (x : Int) % 4294967296 * 10 / 4294967296) / 4294967296 = (x : Int) * 10 / 18446744073709551616 := by omega
  have hb : (x : Int) * 10 / 18446744073709551616 < 18446744073709551616 ∧ 0 ≤ (x : Int) * 10 / 18446744073709551616 := by omega
  rw [h, IntKind.wrap_u64, IntKind.wrap_u64, hlast]
  generalize (x : Int) / 4294967296 * 10 + (x : Int) % 4294967296 * 10 / 4294967296 = t
  have h0 : t % 4294967296 % 18446744073709551616 / 4294967296 = 0 := by omega
  rw [h0]
  omega

set_option maxHeartbeats 1000000 in
/-- math/bits.Mul64 at ten. -/
theorem mul14 (x : Nat) (hx : x < 18446744073709551616) (w : World) :
    Calls Ybaf.prog 14 #[.int .u64 x, .int .u64 10] w fun e w' => e = .returned (.tuple #[.int .u64 ((x : Int) * 10 / 18446744073709551616), .int .u64 ((x : Int) * 10 % 18446744073709551616)]) ∧ w' = w := by
  have h1 := low_half x hx
  have h2 := low_ten
  go_enter Ybaf.func14, Ybaf.ntmps14
  go_wp2
  go_ret2
  refine ⟨?_, rfl⟩
  have e1 := hi_ten x hx
  have e2 : IntKind.u64.wrap ((x : Int) * 10) = (x : Int) * 10 % 18446744073709551616 := by rw [IntKind.wrap_u64]
  rw [← e1, ← e2]
  rfl
end Go.Proofs.YbulkhreFmt
