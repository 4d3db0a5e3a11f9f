/-
  Seat b0417a: (Name).Fold, walked: it lower-cases byte by byte.
-/
import Derived.Test.YbulkhpoRows
import Derived.Test.YbulkhpoBytes
import Derived.WalkKit
import Derived.WalkSpells
namespace Go.Proofs.Ybulkhpo
open Go Go.RowKit

theorem low_same (s : ByteArray) (h : ∀ j (hj : j < s.size), lowB s[j] = s[j]) : low s = s := by
  have := mid_self s.data.toList s.data.toList.length (fun j hj _ => h j hj)
  rw [mid_all _ _ rfl] at this
  show (⟨(s.data.toList.map lowB).toArray⟩ : ByteArray) = s
  rw [this]

theorem cap_pos (w : World) (s : ByteArray) : s.size ≤ (bytesRow s (grownCap w s.size 0 5)).size := by
  simp [bytesRow]

set_option maxHeartbeats 800000 in
theorem fold_any (s : ByteArray) (w : World) (hs : s.size ≤ 4096) :
    Calls Yba.prog 5 #[.string s] w fun e w' => e = .returned (.string (low s)) ∧ Below w.heap.size w w' := by
  have hcv1 := run_bytes_of_string (P := Yba.prog) w 22 26 5 s Yba.underlying22 Yba.underlying26 Yba.underlying5
  go_enter Yba.func5, Yba.ntmps5
  go_wp2
  go_loop [3] (fun i => ∃ k : Nat, k ≤ s.size ∧ i = .int .i64 k ∧ Hid (∀ j (hj : j < s.size), j < k → lowB s[j] = s[j]))
    (fun i => s.size - (intOf i).toNat)
  case atStart => exact ⟨0, Nat.zero_le _, rfl, fun j _ h => absurd h (by omega)⟩
  case round =>
    obtain ⟨k, hk, rfl, hno⟩ := hrel
    by_cases hlt : k < s.size
    · by_cases h1 : 65 ≤ s[k].toNat ∧ s[k].toNat ≤ 90
      · obtain ⟨h1, h2⟩ := h1
        have R0 := HoldsB.ofString w s (grownCap w s.size 0 5) _ ((bytesRow s (grownCap w s.size 0 5)).size + 1) 5 (cap_pos w s)
        rw [← mid_self s.data.toList k (fun j hj h => hno.out j hj h)] at R0
        clear hno
        go_wp2
        clear hcv1
        go_loopw [5] (fun j wr => ∃ q : Nat, q ≤ s.size ∧ j = .int .i64 q ∧ HoldsB wr w.heap.size (mid s.data.toList s.data.toList q) ∧ Below w.heap.size w wr)
          (fun j _ => s.size - (intOf j).toNat)
        case atStart => exact ⟨k, by omega, rfl, R0, ((Below.refl _ _).alloc (Nat.le_refl _) _).drew⟩
        case round =>
          clear R0
          obtain ⟨q, hq, rfl, hrow, hbel⟩ := hrel
          have hlen : (mid s.data.toList s.data.toList q).length = s.size := mid_len _ _ _ rfl
          by_cases hqt : q < s.size
          · have hc := hrow.1 q (by omega)
            have hf := hrow.2 q (by omega)
            rw [mid_get s.data.toList s.data.toList q rfl hqt] at hc
            have hst := mid_step s.data.toList s.data.toList q rfl hqt
            have eg : (s.data.toList)[q] = s[q] := rfl
            rw [eg] at hst hc
            by_cases g1 : 65 ≤ s[q].toNat ∧ s[q].toNat ≤ 90
            · obtain ⟨g1, g2⟩ := g1
              have R := hrow.set q (by omega) (lowB s[q]) _ (congrArg Int.ofNat (lowB_up g1 g2).symm)
              rw [hst] at R
              clear hst eg hrow
              go_wp2
              go_roundw
              case rel => exact ⟨q + 1, by omega, by go_num, R, hbel.setCell (by simp) _⟩
              case measure => simp [intOf]; omega
            · have R : HoldsB wr w.heap.size (mid s.data.toList s.data.toList (q + 1)) := by
                rw [← hst, lowB_not g1]
                have e2 := mid_get s.data.toList s.data.toList q rfl hqt
                rw [eg] at e2
                rw [← e2, List.set_getElem_self]
                exact hrow
              clear hst eg hrow
              by_cases g2 : 65 ≤ s[q].toNat
              all_goals
                go_wp2
                go_roundw
                case rel => exact ⟨q + 1, by omega, by go_num, R, hbel⟩
                case measure => simp [intOf]; omega
          · obtain rfl : q = s.size := by omega
            have hcv := hrow.toString (P := Yba.prog) s.size (grownCap w s.size 0 5) hlen 26 22 5 Yba.underlying26 Yba.underlying5 Yba.underlying22
            have ha : mid s.data.toList s.data.toList s.size = s.data.toList.map lowB := mid_all _ _ rfl
            rw [ha] at hcv
            clear ha hrow
            go_wp2
            go_ret
            exact ⟨rfl, hbel⟩
      · have R : Hid (∀ j (hj : j < s.size), j < k + 1 → lowB s[j] = s[j]) := fun j hj h => by
          by_cases e : j = k
          · subst e; exact lowB_not h1
          · exact hno.out j hj (by omega)
        clear hno
        by_cases h2 : 65 ≤ s[k].toNat
        all_goals
          go_wp2
          go_round
          case rel => exact ⟨k + 1, by omega, by go_num, R⟩
          case measure => simp [intOf]; omega
    · go_wp2
      go_ret
      rw [low_same s (fun j hj => hno.out j hj (by omega))]
      exact ⟨rfl, Below.refl _ _⟩
end Go.Proofs.Ybulkhpo
