/-
  Seat b0419a: the test on sizes and slices.Equal, walked.
-/
import Derived.Test.YbulkhqqStart
import Derived.Deep.QuietTactic
import Derived.BigQuiet
namespace Go.Proofs.Ybulkhqq
open Go Go.RowKit

/-- More than 256 strings, or one longer than 4096 bytes. -/
def tooBig (ss : List ByteArray) : Bool := decide (256 < ss.length) || ss.any (fun s => decide (4096 < s.size))
theorem tooBig_len {ss : List ByteArray} (h : 256 < ss.length) : tooBig ss = true := by simp [tooBig, h]
theorem tooBig_at {ss : List ByteArray} (k : Nat) (hk : k < ss.length) (h : 4096 < ss[k].size) : tooBig ss = true := by
  unfold tooBig
  rw [Bool.or_eq_true]
  right
  rw [List.any_eq_true]
  exact ⟨ss[k], List.getElem_mem hk, by simpa using h⟩
theorem tooBig_no {ss : List ByteArray} (h : ¬ 256 < ss.length) (h2 : ∀ j (hj : j < ss.length), ss[j].size ≤ 4096) : tooBig ss = false := by
  unfold tooBig
  rw [Bool.or_eq_false_iff]
  refine ⟨by simpa using h, ?_⟩
  rw [List.any_eq_false]
  intro s hs
  obtain ⟨j, hj, rfl⟩ := List.getElem_of_mem hs
  have := h2 j hj
  simp
  omega
theorem tooBig_false {ss : List ByteArray} (h : tooBig ss = false) : ss.length ≤ 256 ∧ ∀ s ∈ ss, s.size ≤ 4096 := by
  unfold tooBig at h
  rw [Bool.or_eq_false_iff, List.any_eq_false] at h
  refine ⟨by have := h.1; simp at this; omega, fun s hs => ?_⟩
  have := h.2 s hs
  simp at this
  omega

set_option maxHeartbeats 400000 in
theorem big7 (base : Nat) (ao : Option Addr) (n c : Nat) (ss : List ByteArray) (w : World) (hn : ss.length = n) (hm : n ≤ maxLen) (src : SrcS w base ao ss) (hsm : ∀ s ∈ ss, s.size ≤ maxLen) :
    Calls Yba.prog 7 #[.slice ao n c] w fun e w' => e = .returned (.bool (tooBig ss)) ∧ w = w' := by
  unfold maxLen at hm
  have HN : Hid (ss.length = n) := hn
  have HM : Hid (∀ s ∈ ss, s.size ≤ maxLen) := hsm
  clear hn hsm
  by_cases h : 256 < n
  · go_enter Yba.func7, Yba.ntmps7
    go_wp2
    go_ret
    rw [tooBig_len (by have := HN.out; omega)]
    exact ⟨rfl, rfl⟩
  · go_enter Yba.func7, Yba.ntmps7
    go_wp2
    go_loop [3] (fun i => ∃ k : Nat, k ≤ n ∧ i = .int .i64 k ∧ Hid (∀ j (hj : j < ss.length), j < k → ss[j].size ≤ 4096)) (fun i => n - (intOf i).toNat)
    case atStart => exact ⟨0, by omega, rfl, fun j _ hj => absurd hj (by omega)⟩
    case round =>
      obtain ⟨k, hk, rfl, hno⟩ := hrel
      by_cases hlt : k < n
      · have hlt' : k < ss.length := by have := HN.out; omega
        obtain ⟨b, off, hao, hb, hc⟩ := src (by omega)
        subst hao
        have hck := hc k hlt'
        have hsz := HM.out ss[k] (List.getElem_mem hlt')
        have HB : Hid (4096 < ss[k].size → tooBig ss = true) := fun h => tooBig_at k hlt' h
        have HS : Hid (ss[k].size ≤ 4096 → ∀ j (hj : j < ss.length), j < k + 1 → ss[j].size ≤ 4096) := fun h j hj h' => by
          by_cases e : j = k
          · subst e; exact h
          · exact hno.out j hj (by omega)
        generalize ss[k] = s at hck hsz HB HS
        unfold maxLen at hsz
        clear hc hlt' hno src
        by_cases hbig : 4096 < s.size
        · go_wp2
          go_ret
          rw [HB.out hbig]
          exact ⟨rfl, rfl⟩
        · go_wp2
          go_round
          case rel => exact ⟨k + 1, by omega, by go_num, HS.out (by omega)⟩
          case measure => simp [intOf]; omega
      · go_wp2
        go_ret
        rw [tooBig_no (by have := HN.out; omega) (fun j hj => hno.out j hj (by have := HN.out; omega))]
        exact ⟨rfl, rfl⟩

theorem own_shape {w : World} {base : Nat} {v : Value} {l : List UInt8} (h : Own w base v l) (n : Nat) (hn : l.length = n) : ∃ o c, v = .slice o n c ∧
    (0 < n → ∃ g, o = some ⟨g, 0, none⟩ ∧ g < w.heap.size ∧ ∀ j (hj : j < l.length), w.cell? ⟨g, j, none⟩ = some (.int .u8 (l[j].toNat : Int))) := by
  subst hn
  have h' := h
  rcases h.2 with ⟨hv, hn⟩ | ⟨g, cap, cur, hv, _, hgg, _⟩
  · exact ⟨none, 0, by rw [hv, hn], fun hp => absurd hp (by omega)⟩
  · subst hv
    refine ⟨_, cap, rfl, fun _ => ⟨g, rfl, ?_, fun j hj => ?_⟩⟩
    · rcases Nat.lt_or_ge g w.heap.size with h2 | h2
      · exact h2
      · rw [Array.getElem?_eq_none h2] at hgg; cases hgg
    · have := World.ownsRow.cellAt h' j (by omega)
      rw [this]
      simp [cellsB, List.getElem?_eq_getElem hj]

set_option maxHeartbeats 400000 in
theorem eq11 (b1 b2 : Nat) (v1 v2 : Value) (l : List UInt8) (w : World) (h1 : Own w b1 v1 l) (h2 : Own w b2 v2 l) (hl : Hid (l.length ≤ 1000000000)) :
    Calls Yba.prog 11 #[v1, v2] w fun e w' => e = .returned (.bool true) ∧ Below w.heap.size w w' := by
  obtain ⟨n, HN⟩ : ∃ n, Hid (l.length = n) := ⟨_, rfl⟩
  obtain ⟨o1, c1, rfl, hc1⟩ := own_shape h1 n HN.out
  obtain ⟨o2, c2, rfl, hc2⟩ := own_shape h2 n HN.out
  clear h1 h2
  have hle : n ≤ 1000000000 := by have := hl.out; have := HN.out; omega
  have HC1 : Hid (0 < n → ∃ g, o1 = some ⟨g, 0, none⟩ ∧ g < w.heap.size ∧ ∀ j (hj : j < l.length), w.cell? ⟨g, j, none⟩ = some (.int .u8 (l[j].toNat : Int))) := hc1
  have HC2 : Hid (0 < n → ∃ g, o2 = some ⟨g, 0, none⟩ ∧ g < w.heap.size ∧ ∀ j (hj : j < l.length), w.cell? ⟨g, j, none⟩ = some (.int .u8 (l[j].toNat : Int))) := hc2
  clear hc1 hc2 hl
  go_enter Yba.func11, Yba.ntmps11
  go_wp2
  go_loopw [13] (fun i wr => ∃ k : Nat, k ≤ n ∧ i = .int .i64 k ∧ Below w.heap.size w wr) (fun i _ => n - (intOf i).toNat)
  case atStart => exact ⟨0, by omega, rfl, Below.refl _ _⟩
  case round =>
    obtain ⟨k, hk, rfl, hbel⟩ := hrel
    by_cases hlt : k < n
    · have hlt' : k < l.length := by have := HN.out; omega
      obtain ⟨g1, e1, hg1, q1⟩ := HC1.out (by omega)
      obtain ⟨g2, e2, hg2, q2⟩ := HC2.out (by omega)
      subst e1
      subst e2
      have r1 := (hbel.cell (p := ⟨g1, k, none⟩) hg1).trans (q1 k hlt')
      have r2 := (hbel.cell (p := ⟨g2, k, none⟩) hg2).trans (q2 k hlt')
      generalize l[k] = y at r1 r2
      have hi1 : (k : Int) < (n : Int) := by omega
      clear q1 q2 HC1 HC2 hlt'
      go_wp2
      go_region
      go_wp2
      go_roundw
      case rel => exact ⟨k + 1, by omega, by go_num, hbel.drew⟩
      case measure => simp [intOf]; omega
    · go_wp2
      go_ret
      exact ⟨rfl, hbel⟩
end Go.Proofs.Ybulkhqq
