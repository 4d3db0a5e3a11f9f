/-
  Seat b0419a: the walk of LawS0419CEncoding on its long way.
-/
import Derived.Test.YbulkhqqEnc
namespace Go.Proofs.Ybulkhqq
open Go Go.RowKit

set_option maxRecDepth 100000 in
set_option maxHeartbeats 4000000 in
theorem enc_main (ao aA aE : Option Addr) (n c nA cA nE cE : Nat) (d : Int) (S : List UInt8) (args env : List ByteArray) (w : World) (hn : n ≤ 1024) (hS : S.length = n) (hsrc : Src w ao S)
    (hA : args.length = nA) (srcA : SrcS w w.heap.size aA args) (hbA : tooBig args = false)
    (hE : env.length = nE) (srcE : SrcS w w.heap.size aE env) (hbE : tooBig env = false) :
    Calls Yba.prog 5 #[.slice ao n c, .slice aA nA cA, .slice aE nE cE, .int .i64 d] w fun e w' => e = .returned (.bool true) ∧ Below w.heap.size w w' := by
  obtain ⟨lA, sA⟩ := tooBig_false hbA
  obtain ⟨lE, sE⟩ := tooBig_false hbE
  have hnA : nA ≤ 256 := by omega
  have hnE : nE ≤ 256 := by omega
  have P := big7 w.heap.size aA nA cA args w hA (by unfold maxLen; omega) srcA (fun s hs => by have := sA s hs; unfold maxLen; omega)
  rw [hbA] at P
  have PP : Hid (Calls Yba.prog 7 #[.slice aA nA cA] w fun e w' => e = .returned (.bool false) ∧ w = w') := P
  have P2 := big7 w.heap.size aE nE cE env w hE (by unfold maxLen; omega) srcE (fun s hs => by have := sE s hs; unfold maxLen; omega)
  rw [hbE] at P2
  have PP2 : Hid (Calls Yba.prog 7 #[.slice aE nE cE] w fun e w' => e = .returned (.bool false) ∧ w = w') := P2
  obtain ⟨i0, hi, hz0, hz1, hz2⟩ := info_parts info5
  have hmk := fun wx => run_make (P := Yba.prog) wx 22 5 i0 _ Yba.underlying22 hi hz0 .i64 .i64 n n (by omega) (by omega) (by rw [hz2]; omega) (by omega)
  have hmk2 := fun wx => run_make (P := Yba.prog) wx 22 5 i0 _ Yba.underlying22 hi hz0 .i64 .i64 0 n (by omega) (by omega) (by rw [hz2]; omega) (by omega)
  obtain ⟨w1, hcp, own1, hb1, hs1⟩ := run_copy_own (P := Yba.prog) w ao n c S hS hn hsrc 22 3 Yba.underlying22 Yba.size5
  have Q := start8 w.heap.size _ S aA aE nA cA nE cE args env d w1 hA hE hnA hnE sA sE (srcA.below hb1) (srcE.below hb1) own1 (by omega) (by omega)
  have QQ : Hid (Calls Yba.prog 8 #[.slice (some ⟨w.heap.size, 0, none⟩) n n, .agg #[.slice aA nA cA, .slice aE nE cE, .int .i64 d]] w1 fun e w' => ∃ v', e = .returned v' ∧ Own w' w.heap.size v' (S ++ encStart args env d) ∧ Fr w.heap.size w1 w') := Q
  have HA : Hid (args.length = nA) := hA
  have HE : Hid (env.length = nE) := hE
  have HS : Hid (S.length = n) := hS
  have HS1 : Hid (w1.heap.size = w.heap.size + 1) := hs1
  have HSR : Hid (Src w ao S) := hsrc
  have HSA : Hid (SrcS w w.heap.size aA args) := srcA
  have HSE : Hid (SrcS w w.heap.size aE env) := srcE
  have HsA : Hid (∀ s ∈ args, s.size ≤ 4096) := sA
  have HsE : Hid (∀ s ∈ env, s.size ≤ 4096) := sE
  obtain ⟨U, HU⟩ : ∃ U, Hid (IntKind.u64.wrap d = U) := ⟨_, rfl⟩
  clear P P2 Q hA hE hS hs1 hbA hbE lA lE own1 sA sE srcA srcE hsrc
  go_enter Yba.func5, Yba.ntmps5
  go_wp2_with fail
  refine Calls.mono PP.out ?_
  rintro e w1' ⟨rfl, rfl⟩
  clear PP
  go_wp2_with fail
  refine Calls.mono PP2.out ?_
  rintro e w1' ⟨rfl, rfl⟩
  clear PP2
  go_wp2_with fail
  refine Calls.mono QQ.out ?_
  rintro e w2 ⟨vg, rfl, ownG, frG⟩
  clear QQ hcp hmk
  have hb2 : Below w.heap.size w w2 := hb1.trans frG.bel
  have OWG : Hid (Own w2 w.heap.size vg (S ++ encStart args env d)) := ownG
  have own2 := own_made w2 n hn
  have fr2 : Fr w2.heap.size w2 (w2.alloc (.cells (madeCells #[.int .u8 0] n) 5)) := (Fr.refl _ _).alloc (Nat.le_refl _) _
  clear ownG frG hb1
  go_wp2
  clear hmk2
  go_loopw [11, 12] (fun o i wr => ∃ k : Nat, k ≤ n ∧ i = .int .i64 k ∧ Own wr w2.heap.size o (S.take k) ∧ Fr w2.heap.size w2 wr) (fun _ i _ => n - (intOf i).toNat)
  case atStart => exact ⟨0, by omega, rfl, by rw [List.take_zero]; exact own2, fr2⟩
  case round =>
    clear own2 fr2
    obtain ⟨k, hk, rfl, own3, fr3⟩ := hrel
    have s3 := fr3.size
    by_cases hlt : k < n
    · have hlt' : k < S.length := by have := HS.out; omega
      obtain ⟨b, off, hao, hb, hc⟩ := HSR.out (by omega)
      subst hao
      have hsz2 := hb2.size
      have hck := ((hb2.trans (fr3.bel.mono hsz2)).cell (p := ⟨b, off + k, none⟩) hb).trans (hc k hlt')
      have hst : Hid (S.take k ++ [S[k]] = S.take (k + 1)) := (List.take_succ_eq_append_getElem hlt').symm
      have hll : Hid ((S.take k).length + 1 ≤ 1099511627776) := by
        have : (S.take k).length ≤ k := List.length_take_le _ _
        show _ ≤ _
        omega
      generalize S[k] = y at hck hst
      clear hc hlt'
      go_wp2_with (at_builtin; refine wpList_app _ rfl _ _ rfl w2.heap.size _ _ rfl (own3.alloc _) wr.heap.size 1 1 [y] rfl rfl (one_cell rfl 5) hll.out (by simp; omega) ?_; intro v4 w4 own4 fr4)
      rw [hst.out] at own4
      go_roundw
      case rel => exact ⟨k + 1, by omega, by go_num, own4, (fr3.alloc (by omega) _).trans fr4⟩
      case measure => simp [intOf]; omega
    · rw [List.take_of_length_le (by have := HS.out; omega)] at own3
      go_wp2
      rw [HU.out]
      go_loopw [11, 14] (fun o i wr => ∃ j : Int, -1 ≤ j ∧ j ≤ 7 ∧ i = .int .i64 j ∧ Own wr w2.heap.size o (S ++ (be8 U).take (7 - j).toNat) ∧ Fr w2.heap.size w2 wr) (fun _ i _ => (intOf i + 1).toNat)
      case atStart => exact ⟨7, by omega, by omega, rfl, by simpa using own3, fr3⟩
      case round =>
        clear own3 fr3
        obtain ⟨j, hj1, hj2, rfl, own5, fr5⟩ := hrel
        have s5 := fr5.size
        by_cases hj : 0 ≤ j
        · have hll : Hid ((S ++ (be8 U).take (7 - j).toNat).length + 1 ≤ 1099511627776) := by
            have a1 : ((be8 U).take (7 - j).toNat).length ≤ (be8 U).length := List.length_take_le' _ _
            have a2 := be8_len U
            have a3 := HS.out
            show _ ≤ _
            rw [List.length_append]
            omega
          rcases (show j = 7 ∨ j = 6 ∨ j = 5 ∨ j = 4 ∨ j = 3 ∨ j = 2 ∨ j = 1 ∨ j = 0 by omega) with rfl | rfl | rfl | rfl | rfl | rfl | rfl | rfl
          all_goals
            go_wp2_with (at_builtin; go_must (refine wpList_app _ rfl _ _ rfl w2.heap.size _ _ rfl (own5.alloc _) wr.heap.size 1 1 _ rfl rfl (one_cell (byteOf_val _) 5) hll.out (by simp; omega) ?_); intro v6 w6 own6 fr6)
            rw [List.append_assoc] at own6
            go_roundw
            case rel => exact ⟨_, by decide, by decide, rfl, own6, (fr5.alloc (by omega) _).trans fr6⟩
            case measure => simp [intOf]
        · obtain rfl : j = -1 := by omega
          have own5' : Own _ w2.heap.size _ (S ++ be8 U) := own5
          clear own5
          go_wp2_with fail
          refine (uv9 w2.heap.size _ _ nE _ (by omega) own5' (by omega) (show _ ≤ _ by rw [List.length_append, be8_len]; have := HS.out; omega)).mono ?_
          rintro e w7 ⟨v7, rfl, own7, fr7⟩
          have fr7' := fr5.trans fr7
          clear own5' fr5 fr7
          have hl7 : Hid ((S ++ be8 U ++ uv nE).length ≤ 2000) := by
            have a1 := uv_len nE
            have a2 := HS.out
            show _ ≤ _
            rw [List.length_append, List.length_append, be8_len]
            omega
          generalize hL : S ++ be8 U ++ uv nE = L at own7 hl7
          have HL : Hid (S ++ be8 U ++ uv nE = L) := hL
          clear hL
          go_wp2
          go_loopw [11, 15] (fun o i wr => ∃ q : Nat, q ≤ nE ∧ i = .int .i64 q ∧ Own wr w2.heap.size o (L ++ encAll (env.take q)) ∧ Fr w2.heap.size w2 wr) (fun _ i _ => nE - (intOf i).toNat)
          case atStart => exact ⟨0, by omega, rfl, by rw [encAll_zero, List.append_nil]; exact own7, fr7'⟩
          case round =>
            clear own7 fr7'
            obtain ⟨q, hq, rfl, own8, fr8⟩ := hrel
            have s8 := fr8.size
            have hl8 : Hid ((L ++ encAll (env.take q)).length ≤ 3000000) := by
              have a1 := hl7.out
              have a2 := encAll_len (env.take q) (take_small HsE.out q)
              have a3 : (env.take q).length ≤ q := List.length_take_le _ _
              show _ ≤ _
              rw [List.length_append]
              omega
            by_cases hlt : q < nE
            · have hlt' : q < env.length := by have := HE.out; omega
              obtain ⟨b, off, hao, hb, hc⟩ := (HSE.out.below (hb2.trans (fr8.bel.mono hb2.size))) (by omega)
              subst hao
              have hck := hc q hlt'
              have hsk := HsE.out env[q] (List.getElem_mem hlt')
              have HT : Hid (encAll (env.take (q + 1)) = encAll (env.take q) ++ encS env[q]) := encAll_snoc env q hlt'
              generalize env[q] = t at hck hsk HT
              clear hc hlt'
              go_wp2_with fail
              refine (str10 w2.heap.size _ _ t _ hsk own8 (by omega) (show _ ≤ _ by have := hl8.out; omega)).mono ?_
              rintro e w9 ⟨v9, rfl, own9, fr9⟩
              rw [List.append_assoc, ← HT.out] at own9
              have fr9' := fr8.trans fr9
              clear own8 fr8 fr9 hck
              go_wp2
              go_roundw
              case rel => exact ⟨q + 1, by omega, by go_num, own9, fr9'⟩
              case measure => simp [intOf]; omega
            · rw [List.take_of_length_le (by have := HE.out; omega)] at own8 hl8
              generalize hM : L ++ encAll env = M at own8 hl8
              have HM : Hid (L ++ encAll env = M) := hM
              clear hM
              go_wp2
              go_loopw [11, 16] (fun o i wr => ∃ p : Nat, p ≤ nA ∧ i = .int .i64 p ∧ Own wr w2.heap.size o (M ++ encAll (args.take p)) ∧ Fr w2.heap.size w2 wr) (fun _ i _ => nA - (intOf i).toNat)
              case atStart => exact ⟨0, by omega, rfl, by rw [encAll_zero, List.append_nil]; exact own8, fr8⟩
              case round =>
                clear own8 fr8
                obtain ⟨p, hp, rfl, own10, fr10⟩ := hrel
                have s10 := fr10.size
                have hl10 : Hid ((M ++ encAll (args.take p)).length ≤ 6000000) := by
                  have a1 := hl8.out
                  have a2 := encAll_len (args.take p) (take_small HsA.out p)
                  have a3 : (args.take p).length ≤ p := List.length_take_le _ _
                  show _ ≤ _
                  rw [List.length_append]
                  omega
                by_cases hlt2 : p < nA
                · have hlt' : p < args.length := by have := HA.out; omega
                  obtain ⟨b, off, hao, hb, hc⟩ := (HSA.out.below (hb2.trans (fr10.bel.mono hb2.size))) (by omega)
                  subst hao
                  have hck := hc p hlt'
                  have hsk := HsA.out args[p] (List.getElem_mem hlt')
                  have HT : Hid (encAll (args.take (p + 1)) = encAll (args.take p) ++ encS args[p]) := encAll_snoc args p hlt'
                  generalize args[p] = t at hck hsk HT
                  clear hc hlt'
                  go_wp2_with fail
                  refine (str10 w2.heap.size _ _ t _ hsk own10 (by omega) (show _ ≤ _ by have := hl10.out; omega)).mono ?_
                  rintro e w11 ⟨v11, rfl, own11, fr11⟩
                  rw [List.append_assoc, ← HT.out] at own11
                  have fr11' := fr10.trans fr11
                  clear own10 fr10 fr11 hck
                  go_wp2
                  go_roundw
                  case rel => exact ⟨p + 1, by omega, by go_num, own11, fr11'⟩
                  case measure => simp [intOf]; omega
                · rw [List.take_of_length_le (by have := HA.out; omega)] at own10 hl10
                  have ownG2 := OWG.out.below fr10.bel (Nat.le_refl _)
                  have eG : S ++ encStart args env d = M ++ encAll args := by
                    unfold encStart
                    rw [HE.out, HU.out, ← List.append_assoc, ← List.append_assoc, ← List.append_assoc, HL.out, HM.out]
                  rw [eG] at ownG2
                  clear eG
                  go_wp2_with fail
                  refine (eq11 _ _ _ _ _ _ ownG2 own10 (show _ ≤ _ by have := hl10.out; omega)).mono ?_
                  rintro e w12 ⟨rfl, hb12⟩
                  go_wp2
                  go_ret
                  exact ⟨rfl, (hb2.trans (fr10.bel.mono hb2.size)).trans (hb12.mono (by have := hb2.size; omega))⟩
end Go.Proofs.Ybulkhqq
