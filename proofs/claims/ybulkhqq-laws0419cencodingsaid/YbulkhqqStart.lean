/-
  Seat b0419a: AppendStart, walked; the test on sizes; slices.Equal.
-/
import Derived.Test.YbulkhqqBe
import Derived.RegionTactic
namespace Go.Proofs.Ybulkhqq
open Go Go.RowKit

/-- A slice of strings that came in: they lie at its address, in a block below 'base', if there are any. -/
def SrcS (w : World) (base : Nat) (ao : Option Addr) (ss : List ByteArray) : Prop :=
  0 < ss.length → ∃ b off, ao = some ⟨b, off, none⟩ ∧ b < base ∧ ∀ i (hi : i < ss.length), w.cell? ⟨b, off + i, none⟩ = some (.string ss[i])
theorem SrcS.below {w w' : World} {base : Nat} {ao : Option Addr} {ss : List ByteArray} (h : SrcS w base ao ss) (hb : Below base w w') : SrcS w' base ao ss := fun hp => by
  obtain ⟨b, off, e, hlt, hc⟩ := h hp
  exact ⟨b, off, e, hlt, fun i hi => (hb.cell (p := ⟨b, off + i, none⟩) hlt).trans (hc i hi)⟩

/-- All strings of a list. -/
def encAll (ss : List ByteArray) : List UInt8 := ss.flatMap encS
theorem encAll_len (ss : List ByteArray) (h : ∀ s ∈ ss, s.size ≤ 4096) : (encAll ss).length ≤ 8193 * ss.length := by
  induction ss with
  | nil => simp [encAll]
  | cons s r ih =>
    have h1 := encS_len s (h s (by simp))
    have h2 := ih fun x hx => h x (by simp [hx])
    unfold encAll at h2 ⊢
    rw [List.flatMap_cons, List.length_append, List.length_cons]
    omega
theorem encAll_snoc (ss : List ByteArray) (k : Nat) (h : k < ss.length) : encAll (ss.take (k + 1)) = encAll (ss.take k) ++ encS ss[k] := by
  rw [List.take_succ_eq_append_getElem h]
  unfold encAll
  rw [List.flatMap_append]
  simp
theorem encAll_zero (ss : List ByteArray) : encAll (ss.take 0) = [] := by simp [encAll]
theorem take_small {ss : List ByteArray} (h : ∀ s ∈ ss, s.size ≤ 4096) (k : Nat) : ∀ s ∈ ss.take k, s.size ≤ 4096 := fun s hs => h s (List.mem_of_mem_take hs)

/-- What AppendStart appends. -/
def encStart (args env : List ByteArray) (d : Int) : List UInt8 := be8 (IntKind.u64.wrap d) ++ uv env.length ++ encAll env ++ encAll args

theorem be8_len (u : Int) : (be8 u).length = 8 := rfl

set_option maxRecDepth 100000 in
set_option maxHeartbeats 1000000 in
theorem start8 (base : Nat) (v : Value) (l : List UInt8) (aA aE : Option Addr) (nA cA nE cE : Nat) (args env : List ByteArray) (d : Int) (w : World)
    (hA : args.length = nA) (hE : env.length = nE) (hnA : nA ≤ 256) (hnE : nE ≤ 256) (sA : ∀ s ∈ args, s.size ≤ 4096) (sE : ∀ s ∈ env, s.size ≤ 4096)
    (srcA : SrcS w base aA args) (srcE : SrcS w base aE env)
    (hown : Own w base v l) (hbase : base ≤ w.heap.size) (hlen : l.length ≤ 1024) :
    Calls Yba.prog 8 #[v, .agg #[.slice aA nA cA, .slice aE nE cE, .int .i64 d]] w fun e w' => ∃ v', e = .returned v' ∧ Own w' base v' (l ++ encStart args env d) ∧ Fr base w w' := by
  have HA : Hid (args.length = nA) := hA
  have HE : Hid (env.length = nE) := hE
  clear hA hE
  have fr0 : Fr base w (w.alloc (.cells #[.slice aA nA cA, .slice aE nE cE, .int .i64 d] 35)) := (Fr.refl _ _).alloc hbase _
  have box0 : Hid ((w.alloc (.cells #[.slice aA nA cA, .slice aE nE cE, .int .i64 d] 35)).heap[w.heap.size]? = some (.cells #[.slice aA nA cA, .slice aE nE cE, .int .i64 d] 35 (0, 0))) := heap_alloc_new w _
  go_enter Yba.func8, Yba.ntmps8
  go_wp2_with fail
  refine (dur13 base v l d _ (hown.alloc _) (by simp; omega) (show _ ≤ _ by omega)).mono ?_
  rintro e w1 ⟨v1, rfl, own1, fr1⟩
  have box1 : Hid (w1.heap[w.heap.size]? = some (.cells #[.slice aA nA cA, .slice aE nE cE, .int .i64 d] 35 (0, 0))) := fr1.other _ _ _ _ (by decide) box0.out
  have fr1' := fr0.trans fr1
  clear fr1 fr0 box0 hown
  have c1 : w1.cell? ⟨w.heap.size, 1, none⟩ = some (.slice aE nE cE) := cell_of_row w1 w.heap.size 1 _ 35 (0, 0) box1.out
  have s1 := fr1'.size
  go_wp2_with fail
  refine (uv14 base v1 _ nE _ (by omega) own1 (by omega) (show _ ≤ _ by rw [List.length_append, be8_len]; omega)).mono ?_
  rintro e w2 ⟨v2, rfl, own2, fr2⟩
  have box2 : Hid (w2.heap[w.heap.size]? = some (.cells #[.slice aA nA cA, .slice aE nE cE, .int .i64 d] 35 (0, 0))) := fr2.other _ _ _ _ (by decide) box1.out
  have fr2' := fr1'.trans fr2
  clear fr2 fr1' box1 own1 c1 s1
  have c2 : w2.cell? ⟨w.heap.size, 1, none⟩ = some (.slice aE nE cE) := cell_of_row w2 w.heap.size 1 _ 35 (0, 0) box2.out
  have hl2 : Hid ((l ++ be8 (IntKind.u64.wrap d) ++ uv nE).length ≤ 2000) := by
    have := uv_len nE
    show _ ≤ _
    rw [List.length_append, List.length_append, be8_len]
    omega
  generalize hL : l ++ be8 (IntKind.u64.wrap d) ++ uv nE = L at own2 hl2
  have HL : Hid (l ++ be8 (IntKind.u64.wrap d) ++ uv nE = L) := hL
  clear hL
  go_wp2
  clear c2
  go_loopw [0, 22] (fun o i wr => ∃ k : Nat, k ≤ nE ∧ i = .int .i64 k ∧ Own wr base o (L ++ encAll (env.take k)) ∧ Fr base w wr ∧
      Hid (wr.heap[w.heap.size]? = some (.cells #[.slice aA nA cA, .slice aE nE cE, .int .i64 d] 35 (0, 0)))) (fun _ i _ => nE - (intOf i).toNat)
  case atStart => exact ⟨0, by omega, rfl, by rw [encAll_zero, List.append_nil]; exact own2, fr2', box2⟩
  case round =>
    clear own2 fr2' box2
    obtain ⟨k, hk, rfl, own3, fr3, box3⟩ := hrel
    have hl3 : Hid ((L ++ encAll (env.take k)).length ≤ 3000000) := by
      have a1 := hl2.out
      have a2 := encAll_len (env.take k) (take_small sE k)
      have a3 : (env.take k).length ≤ k := List.length_take_le _ _
      show _ ≤ _
      rw [List.length_append]
      omega
    have s3 := fr3.size
    by_cases hlt : k < nE
    · have hlt' : k < env.length := by have := HE.out; omega
      obtain ⟨b, off, hao, hb, hc⟩ := (srcE.below fr3.bel) (by omega)
      subst hao
      have hck := hc k hlt'
      have hsk := sE env[k] (List.getElem_mem hlt')
      have HS : Hid (encAll (env.take (k + 1)) = encAll (env.take k) ++ encS env[k]) := encAll_snoc env k hlt'
      generalize env[k] = s at hck hsk HS
      clear hc hlt'
      go_wp2_with fail
      refine (str15 base _ _ s _ hsk own3 (by omega) (show _ ≤ _ by have := hl3.out; omega)).mono ?_
      rintro e w4 ⟨v4, rfl, own4, fr4⟩
      rw [List.append_assoc, ← HS.out] at own4
      have box4 : Hid (w4.heap[w.heap.size]? = some (.cells #[.slice aA nA cA, .slice (some ⟨b, off, none⟩) nE cE, .int .i64 d] 35 (0, 0))) := fr4.other _ _ _ _ (by decide) box3.out
      have fr4' := fr3.trans fr4
      clear own3 fr3 box3 fr4 hck
      go_wp2
      go_roundw
      case rel => exact ⟨k + 1, by omega, by go_num, own4, fr4', box4⟩
      case measure => simp [intOf]; omega
    · obtain rfl : k = nE := by omega
      have c3 : wr.cell? ⟨w.heap.size, 0, none⟩ = some (.slice aA nA cA) := cell_of_row wr w.heap.size 0 _ 35 (0, 0) box3.out
      rw [List.take_of_length_le (by have := HE.out; omega)] at own3 hl3
      generalize hM : L ++ encAll env = M at own3 hl3
      have HM : Hid (L ++ encAll env = M) := hM
      clear hM
      go_wp2
      clear c3
      go_loopw [0, 33] (fun o i wr2 => ∃ q : Nat, q ≤ nA ∧ i = .int .i64 q ∧ Own wr2 base o (M ++ encAll (args.take q)) ∧ Fr base w wr2) (fun _ i _ => nA - (intOf i).toNat)
      case atStart => exact ⟨0, by omega, rfl, by rw [encAll_zero, List.append_nil]; exact own3, fr3⟩
      case round =>
        clear own3 fr3 box3
        obtain ⟨q, hq, rfl, own5, fr5⟩ := hrel
        have hl5 : Hid ((M ++ encAll (args.take q)).length ≤ 6000000) := by
          have a1 := hl3.out
          have a2 := encAll_len (args.take q) (take_small sA q)
          have a3 : (args.take q).length ≤ q := List.length_take_le _ _
          show _ ≤ _
          rw [List.length_append]
          omega
        have s5 := fr5.size
        by_cases hlt2 : q < nA
        · have hlt' : q < args.length := by have := HA.out; omega
          obtain ⟨b, off, hao, hb, hc⟩ := (srcA.below fr5.bel) (by omega)
          subst hao
          have hck := hc q hlt'
          have hsk := sA args[q] (List.getElem_mem hlt')
          have HS : Hid (encAll (args.take (q + 1)) = encAll (args.take q) ++ encS args[q]) := encAll_snoc args q hlt'
          generalize args[q] = s at hck hsk HS
          clear hc hlt'
          go_wp2_with fail
          refine (str15 base _ _ s _ hsk own5 (by omega) (show _ ≤ _ by have := hl5.out; omega)).mono ?_
          rintro e w6 ⟨v6, rfl, own6, fr6⟩
          rw [List.append_assoc, ← HS.out] at own6
          have fr6' := fr5.trans fr6
          clear own5 fr5 fr6 hck
          go_wp2
          go_roundw
          case rel => exact ⟨q + 1, by omega, by go_num, own6, fr6'⟩
          case measure => simp [intOf]; omega
        · rw [List.take_of_length_le (by have := HA.out; omega)] at own5
          go_wp2
          go_ret
          refine ⟨_, rfl, ?_, fr5⟩
          unfold encStart
          rw [HE.out, ← List.append_assoc, ← List.append_assoc, ← List.append_assoc, HL.out, HM.out]
          exact own5
end Go.Proofs.Ybulkhqq
