/-
  Seat b0417a: zzs0417blower, walked: it lower-cases byte by byte.
-/
import Derived.Test.YbulkhpoRows
import Derived.Test.YbulkhpoBytes
import Derived.WalkKit
import Derived.WalkSpells
namespace Go.Proofs.Ybulkhpo
open Go Go.RowKit

theorem Yba.info5 : (Yba.prog.info? 5).map (fun i => (i.zero, i.size, i.bytes)) = some (some (.int .u8 0), 1, 1) := by kernel_rfl

set_option maxHeartbeats 400000 in
theorem lower_any (s : ByteArray) (w : World) (hs : s.size ≤ 4096) :
    Calls Yba.prog 6 #[.string s] w fun e w' => e = .returned (.string (low s)) ∧ Below w.heap.size w w' := by
  obtain ⟨i0, hi, hz0, hz1, hz2⟩ := info_parts Yba.info5
  have hmk := fun wx => run_make (P := Yba.prog) wx 26 5 i0 _ Yba.underlying26 hi hz0 .i64 .i64 s.size s.size (by omega) (by omega) (by rw [hz2]; omega) (by omega)
  go_enter Yba.func6, Yba.ntmps6
  go_wp2
  clear hmk
  go_loopw [4] (fun i wr => ∃ k : Nat, k ≤ s.size ∧ i = .int .i64 k ∧ HoldsB wr w.heap.size (mid s.data.toList (List.replicate s.size 0) k) ∧ Below w.heap.size w wr)
    (fun i _ => s.size - (intOf i).toNat)
  case atStart => exact ⟨0, Nat.zero_le _, rfl, by rw [mid_zero]; exact HoldsB.made _ _ _, (Below.refl _ _).alloc (Nat.le_refl _) _⟩
  case round =>
    obtain ⟨k, hk, rfl, hrow, hbel⟩ := hrel
    have hlr : (List.replicate s.size (0 : UInt8)).length = s.data.toList.length := by simp
    have hlen : (mid s.data.toList (List.replicate s.size 0) k).length = s.size := mid_len _ _ _ hlr
    by_cases hlt : k < s.size
    · have hc := hrow.1 k (by omega)
      have hf := hrow.2 k (by omega)
      have hst := mid_step s.data.toList (List.replicate s.size 0) k hlr hlt
      have eg : (s.data.toList)[k] = s[k] := rfl
      rw [eg] at hst
      by_cases h1 : 65 ≤ s[k].toNat ∧ s[k].toNat ≤ 90
      · obtain ⟨h1, h2⟩ := h1
        have R := hrow.set k (by omega) (lowB s[k]) _ (congrArg Int.ofNat (lowB_up h1 h2).symm)
        rw [hst] at R
        clear hst eg hrow hlr
        go_wp2
        go_roundw
        case rel => exact ⟨k + 1, by omega, by go_num, R, hbel.setCell (by simp) _⟩
        case measure => simp [intOf]; omega
      · have R := hrow.set k (by omega) (lowB s[k]) _ (congrArg (fun b : UInt8 => (b.toNat : Int)) (lowB_not h1).symm)
        rw [hst] at R
        clear hst eg hrow hlr
        by_cases h2 : 65 ≤ s[k].toNat
        all_goals
          go_wp2
          go_roundw
          case rel => exact ⟨k + 1, by omega, by go_num, R, hbel.setCell (by simp) _⟩
          case measure => simp [intOf]; omega
    · obtain rfl : k = s.size := by omega
      have hcv := hrow.toString (P := Yba.prog) s.size s.size hlen 26 9 5 Yba.underlying26 Yba.underlying5 Yba.underlying9
      have ha : mid s.data.toList (List.replicate s.size 0) s.size = s.data.toList.map lowB := mid_all _ _ hlr
      rw [ha] at hcv
      clear ha
      clear hrow hlen hlr
      go_wp2
      go_ret
      exact ⟨rfl, hbel⟩
end Go.Proofs.Ybulkhpo
