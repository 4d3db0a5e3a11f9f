/-
  Seat b0420aF: number, walked.
-/
import Derived.Test.YbulkhreFmtFail
import Derived.Test.YbulkhreFmtNum
import Derived.Deep.DeepCutAuto
import Derived.Deep.CutBlock
namespace Go.Proofs.YbulkhreFmt
open Go Go.RowKit Go.Extern.Stop Go.Stop Go.Extern

/-- What the Reader's error holds: nothing wrong, or an error of fmt.Errorf's make. -/
def ErrIs (ok : Bool) (v : Value) : Prop := (ok = true ∧ v = .nilIface) ∨ (ok = false ∧ ∃ a, v = .iface 48 (.pointer (some a)))

theorem beq_of {x : UInt8} {c : Nat} (h : x.toNat = c) : ((x.toNat : Int) == (c : Int)) = true := by rw [h]; simp
theorem beq_ne {x : UInt8} {c : Nat} (h : x.toNat ≠ c) : ((x.toNat : Int) == (c : Int)) = false := beq_eq_false_iff_ne.2 (by omega)

theorem dotQ_eq (x : UInt8) : ((x.toNat : Int) == 46) = dotQ x := by
  unfold dotQ
  rw [Bool.eq_iff_iff]
  simp
  omega

theorem eQ_eq (x : UInt8) (h : x.toNat ≠ 101) : ((x.toNat : Int) == 69) = eQ x := by
  unfold eQ
  rw [Bool.eq_iff_iff]
  simp
  omega
theorem sgQ_eq (x : UInt8) (h : x.toNat ≠ 43) : ((x.toNat : Int) == 45) = sgQ x := by
  unfold sgQ
  rw [Bool.eq_iff_iff]
  simp
  omega

set_option maxRecDepth 100000 in
set_option maxHeartbeats 4000000 in
theorem number11 (F : Interp) (R g n cap : Nat) (D : List UInt8) (k : Nat) (w : World) (h : Rd w R g n cap D k .nilIface) (hk : k < n) (hn : n ≤ 4096) (hF : F.answers w.tape) :
    Calls Ybaf.prog 11 #[.pointer (some ⟨R, 0, none⟩)] w fun e w' => e = .returned (.tuple #[]) ∧ w.grownBy w' (some R) ∧ ∃ k' v ok, Rd w' R g n cap D k' v ∧ ErrIs ok v ∧ NumPost D n k k' ok := by
  have c0 := h.c0
  have c1 := h.c1
  have f1 := h.fz 1
  have HL : Hid (D.length = n) := h.len
  have HF : Hid (F.answers w.tape) := hF
  have hlt' : k < D.length := by have := HL.out; omega
  have hc := h.row k hlt'
  have hi : (k : Int) < (n : Int) := by omega
  have HP : Hid (peekB D k = D[k]) := peekB_in hlt'
  generalize D[k] = x at hc HP
  clear hlt' hF
  go_enter Ybaf.func11, Ybaf.ntmps11
  go_upto_if 12 with (go_quiet (fail))
  go_cut [] (fun wx => ∃ k1, Rd wx R g n cap D k1 .nilIface ∧ w.grownBy wx (some R) ∧ Hid (N1 D n k k1))
  case first =>
    as_aux_lemma =>
      by_cases hx : x.toNat = 45
      · have b1 := beq_of hx
        have RN := (h.drewN nq).at (k + 1) ((k : Int) + 1) (by omega)
        have GN := gb_set (gb_drewN (World.grownBy.refl w (some R)) nq) 1 (.int .i64 ((k : Int) + 1))
        go_wp2
        go_meet
        exact ⟨k + 1, RN, GN, ⟨by omega, .inl ⟨by rw [HP.out]; exact hx, rfl⟩⟩⟩
      · have b1 := beq_ne hx
        go_wp2
        go_meet
        exact ⟨k, h.drewN nq, gb_drewN (World.grownBy.refl w (some R)) nq, ⟨by omega, .inr ⟨by rw [HP.out]; exact hx, rfl⟩⟩⟩
  case rest =>
    clear c0 c1 f1 hc HP hi h
    obtain ⟨k1, r1, g1, n1⟩ := hcut
    have c0 := r1.c0
    have c1 := r1.c1
    have f1 := r1.fz 1
    have hk1 : k1 ≤ n := n1.out.1
    have HF1 : Hid (F.answers wc.tape) := by show F.answers wc.tape; rw [g1.tape]; exact HF.out
    go_upto_block 0 with fail
    go_cut [] (fun wx => ∃ k2, Rd wx R g n cap D k2 .nilIface ∧ w.grownBy wx (some R) ∧ Hid (N2 D n k k2))
    case first =>
      as_aux_lemma =>
        by_cases hlt : k1 < n
        · have hlt' : k1 < D.length := by have := HL.out; omega
          have hc := r1.row k1 hlt'
          have hi : (k1 : Int) < (n : Int) := by omega
          have HP : Hid (peekB D k1 = D[k1]) := peekB_in hlt'
          generalize D[k1] = x1 at hc HP
          clear hlt'
          by_cases hx : x1.toNat = 48
          · have b1 := beq_of hx
            go_wp2
            go_quiet (fail)
            have RN := (r1.drewN nq).at (k1 + 1) ((k1 : Int) + 1) (by omega)
            have GN := gb_set (gb_drewN g1 nq) 1 (.int .i64 ((k1 : Int) + 1))
            go_wp2
            go_meet
            exact ⟨k1 + 1, RN, GN, n2_zero n1.out HL.out (by rw [HP.out]; exact decide_eq_true hx)⟩
          · have b1 := beq_ne hx
            have hz : Hid (zeroQ (peekB D k1) = false) := by show _ = _; rw [HP.out]; exact decide_eq_false hx
            go_wp2
            go_quiet (fail)
            clear c0 c1 f1 hc b1
            have r1' := r1.drewN nq
            have g1' := gb_drewN g1 nq
            have HF2 : Hid (F.answers (wc.drewN nq).tape) := HF1
            generalize wc.drewN nq = wd at *
            go_wp2_with fail
            refine (digits17 R g n cap D k1 _ r1' hk1 hn).mono ?_
            rintro e w2 ⟨rfl, r2, g2⟩
            have g2' := gb_trans g1' g2
            have HF3 : Hid (F.answers w2.tape) := by show F.answers w2.tape; rw [g2.tape]; exact HF2.out
            by_cases hr : 0 < run isDg D k1
            · have b2 : decide (k1 < k1 + run isDg D k1) = true := decide_eq_true (by omega)
              go_wp2
              go_meet
              exact ⟨_, r2, g2', n2_digits n1.out HL.out hz.out hr⟩
            · have b2 : decide (k1 < k1 + run isDg D k1) = false := decide_eq_false (by omega)
              have hr0 : Hid (run isDg D k1 = 0) := by show _ = _; omega
              go_wp2_with fail
              refine (fail10 F _ R g n cap D _ _ r2 HF3.out).mono ?_
              rintro e w3 ⟨rfl, ⟨a, r3⟩, g3⟩
              go_wp2
              refine bodyPost_ret (v := .tuple #[]) (results_none rfl _ _ _) rfl ?_
              refine ⟨rfl, gb_trans g2' g3, k1, _, false, ?_, .inr ⟨rfl, a, rfl⟩, np_nodigits n1.out hr0.out⟩
              rw [hr0.out, Nat.add_zero] at r3
              exact r3
        · have hi : decide ((k1 : Int) < (n : Int)) = false := decide_eq_false (by omega)
          have hr0 : Hid (run isDg D k1 = 0) := run_end (by have := HL.out; omega)
          go_wp2
          go_quiet (fail)
          clear c0 c1 f1 hi
          have r1' := r1.drewN nq
          have g1' := gb_drewN g1 nq
          have HF2 : Hid (F.answers (wc.drewN nq).tape) := HF1
          generalize wc.drewN nq = wd at *
          go_wp2_with fail
          refine (digits17 R g n cap D k1 _ r1' hk1 hn).mono ?_
          rintro e w2 ⟨rfl, r2, g2⟩
          have g2' := gb_trans g1' g2
          have HF3 : Hid (F.answers w2.tape) := by show F.answers w2.tape; rw [g2.tape]; exact HF2.out
          have hr : ¬ 0 < run isDg D k1 := by have := hr0.out; omega
          have b2 : decide (k1 < k1 + run isDg D k1) = false := decide_eq_false (by omega)
          go_wp2_with fail
          refine (fail10 F _ R g n cap D _ _ r2 HF3.out).mono ?_
          rintro e w3 ⟨rfl, ⟨a, r3⟩, g3⟩
          go_wp2
          refine bodyPost_ret (v := .tuple #[]) (results_none rfl _ _ _) rfl ?_
          refine ⟨rfl, gb_trans g2' g3, k1, _, false, ?_, .inr ⟨rfl, a, rfl⟩, np_nodigits n1.out hr0.out⟩
          rw [hr0.out, Nat.add_zero] at r3
          exact r3
    case rest =>
      clear c0 c1 f1 r1 g1 n1 hk1 HF1
      obtain ⟨k2, r2, g2, n2⟩ := hcut
      have c0 := r2.c0
      have c1 := r2.c1
      have f1 := r2.fz 1
      have hk2 : k2 ≤ n := n2.out.1
      go_upto_region 6 with fail
      go_cut [79] (fun s79 wx => s79 = .bool (dotQ (peekB D k2)) ∧ Rd wx R g n cap D k2 .nilIface ∧ w.grownBy wx (some R))
      case first =>
        as_aux_lemma =>
          by_cases hlt : k2 < n
          · have hlt' : k2 < D.length := by have := HL.out; omega
            have hc := r2.row k2 hlt'
            have hi : (k2 : Int) < (n : Int) := by omega
            have HP : Hid (peekB D k2 = D[k2]) := peekB_in hlt'
            generalize D[k2] = x2 at hc HP
            clear hlt'
            go_quiet (fail)
            go_wp2
            go_meet
            refine ⟨?_, r2.drewN nq, gb_drewN g2 nq⟩
            rw [HP.out]
            exact congrArg Value.bool (dotQ_eq x2)
          · have hi : decide ((k2 : Int) < (n : Int)) = false := decide_eq_false (by omega)
            have HP : Hid (peekB D k2 = 0) := peekB_out (by have := HL.out; omega)
            go_quiet (fail)
            go_wp2
            go_meet
            refine ⟨?_, r2.drewN nq, gb_drewN g2 nq⟩
            rw [HP.out]
            rfl
      case rest =>
        clear c0 c1 f1 r2 g2
        obtain ⟨rfl, r3, g3⟩ := hcut
        have c0 := r3.c0
        have c1 := r3.c1
        have f1 := r3.fz 1
        have HF3 : Hid (F.answers wc.tape) := by show F.answers wc.tape; rw [g3.tape]; exact HF.out
        go_upto_if 79 with fail
        go_cut [] (fun wx => ∃ k4, Rd wx R g n cap D k4 .nilIface ∧ w.grownBy wx (some R) ∧ Hid (N3 D n k k4))
        case first =>
          as_aux_lemma =>
            cases hd : dotQ (peekB D k2) with
            | false =>
              have HD : Hid (dotQ (peekB D k2) = false) := hd
              go_wp2
              go_meet
              exact ⟨k2, r3, g3, n3_none n2.out HD.out⟩
            | true =>
              have HD : Hid (dotQ (peekB D k2) = true) := hd
              have hlt : k2 < n := by
                rcases Nat.lt_or_ge k2 n with a | a
                · exact a
                · rw [peekB_out (by have := HL.out; omega)] at hd; cases hd
              have RN := r3.at (k2 + 1) ((k2 : Int) + 1) (by omega)
              have GN := gb_set g3 1 (.int .i64 ((k2 : Int) + 1))
              have HF4 : Hid (F.answers (wc.setCell ⟨R, 1, none⟩ (.int .i64 ((k2 : Int) + 1))).tape) := HF3
              go_wp2_with fail
              clear c0 c1 f1 r3 g3
              generalize wc.setCell ⟨R, 1, none⟩ (.int .i64 ((k2 : Int) + 1)) = wd at *
              refine (digits17 R g n cap D (k2 + 1) _ RN (by omega) hn).mono ?_
              rintro e w4 ⟨rfl, r4, g4⟩
              have g4' := gb_trans GN g4
              have HF5 : Hid (F.answers w4.tape) := by show F.answers w4.tape; rw [g4.tape]; exact HF4.out
              have HR : Hid (k2 + 1 + run isDg D (k2 + 1) ≤ n) := by have := run_le isDg D (k2 + 1); have := HL.out; show _ ≤ _; omega
              by_cases hr : 0 < run isDg D (k2 + 1)
              · have b2 : decide (k2 + 1 < k2 + 1 + run isDg D (k2 + 1)) = true := decide_eq_true (by omega)
                go_wp2
                go_meet
                exact ⟨_, r4, g4', n3_frac n2.out HD.out _ HR.out⟩
              · have b2 : decide (k2 + 1 < k2 + 1 + run isDg D (k2 + 1)) = false := decide_eq_false (by omega)
                go_wp2_with fail
                refine (fail10 F _ R g n cap D _ _ r4 HF5.out).mono ?_
                rintro e w5 ⟨rfl, ⟨a, r5⟩, g5⟩
                go_wp2
                refine bodyPost_ret (v := .tuple #[]) (results_none rfl _ _ _) rfl ?_
                exact ⟨rfl, gb_trans g4' g5, _, _, false, r5, .inr ⟨rfl, a, rfl⟩, np_frac n2.out HD.out _ HR.out⟩
        case rest =>
          clear c0 c1 f1 r3 g3 HF3
          obtain ⟨k4, r4, g4, n3⟩ := hcut
          have c0 := r4.c0
          have c1 := r4.c1
          have f1 := r4.fz 1
          have hk4 : k4 ≤ n := n3.out.1
          go_upto_region 10 with fail
          go_cut [127] (fun s127 wx => s127 = .bool (eQ (peekB D k4)) ∧ Rd wx R g n cap D k4 .nilIface ∧ w.grownBy wx (some R))
          case first =>
            as_aux_lemma =>
              by_cases hlt : k4 < n
              · have hlt' : k4 < D.length := by have := HL.out; omega
                have hc := r4.row k4 hlt'
                have hi : (k4 : Int) < (n : Int) := by omega
                have HP : Hid (peekB D k4 = D[k4]) := peekB_in hlt'
                generalize D[k4] = x4 at hc HP
                clear hlt'
                by_cases hx : x4.toNat = 101
                · have b1 : ((x4.toNat : Int) == 101) = true := beq_of hx
                  go_quiet (fail)
                  go_wp2
                  go_meet
                  refine ⟨?_, r4.drewN nq, gb_drewN g4 nq⟩
                  rw [HP.out]
                  exact congrArg Value.bool (decide_eq_true (.inl hx)).symm
                · have b1 : ((x4.toNat : Int) == 101) = false := beq_ne hx
                  go_quiet (fail)
                  go_wp2
                  go_meet
                  refine ⟨?_, r4.drewN nq, gb_drewN g4 nq⟩
                  rw [HP.out]
                  exact congrArg Value.bool (eQ_eq x4 hx)
              · have hi : decide ((k4 : Int) < (n : Int)) = false := decide_eq_false (by omega)
                have HP : Hid (peekB D k4 = 0) := peekB_out (by have := HL.out; omega)
                go_quiet (fail)
                go_wp2
                go_meet
                refine ⟨?_, r4.drewN nq, gb_drewN g4 nq⟩
                rw [HP.out]
                rfl
          case rest =>
            clear c0 c1 f1 r4 g4
            obtain ⟨rfl, r5, g5⟩ := hcut
            have c0 := r5.c0
            have c1 := r5.c1
            have f1 := r5.fz 1
            have HF5 : Hid (F.answers wc.tape) := by show F.answers wc.tape; rw [g5.tape]; exact HF.out
            cases he : eQ (peekB D k4) with
            | false =>
              have HE : Hid (eQ (peekB D k4) = false) := he
              go_wp2
              go_end0
              exact ⟨rfl, g5, k4, _, true, r5, .inl ⟨rfl, rfl⟩, np_none n3.out HE.out⟩
            | true =>
              have HE : Hid (eQ (peekB D k4) = true) := he
              have hlt : k4 < n := by
                rcases Nat.lt_or_ge k4 n with a | a
                · exact a
                · rw [peekB_out (by have := HL.out; omega)] at he; cases he
              have RN := r5.at (k4 + 1) ((k4 : Int) + 1) (by omega)
              have GN := gb_set g5 1 (.int .i64 ((k4 : Int) + 1))
              have HF6 : Hid (F.answers (wc.setCell ⟨R, 1, none⟩ (.int .i64 ((k4 : Int) + 1))).tape) := HF5
              go_upto_region 12 with fail
              clear c0 c1 f1 r5 g5 HF5
              generalize wc.setCell ⟨R, 1, none⟩ (.int .i64 ((k4 : Int) + 1)) = wd at *
              have c0 := RN.c0
              have c1 : wd.cell? ⟨R, 1, none⟩ = some (.int .i64 ((k4 : Int) + 1)) := RN.c1
              have f1 := RN.fz 1
              go_cut [170] (fun s170 wx => s170 = .bool (sgQ (peekB D (k4 + 1))) ∧ Rd wx R g n cap D (k4 + 1) .nilIface ∧ w.grownBy wx (some R))
              case first =>
                as_aux_lemma =>
                  by_cases hlt2 : k4 + 1 < n
                  · have hlt' : k4 + 1 < D.length := by have := HL.out; omega
                    have hc := RN.row (k4 + 1) hlt'
                    have hi : (k4 : Int) + 1 < (n : Int) := by omega
                    have HP : Hid (peekB D (k4 + 1) = D[k4 + 1]) := peekB_in hlt'
                    generalize D[k4 + 1] = x5 at hc HP
                    clear hlt'
                    by_cases hx : x5.toNat = 43
                    · have b1 : ((x5.toNat : Int) == 43) = true := beq_of hx
                      go_quiet (fail)
                      go_wp2
                      go_meet
                      refine ⟨?_, RN.drewN nq, gb_drewN GN nq⟩
                      rw [HP.out]
                      exact congrArg Value.bool (decide_eq_true (.inl hx)).symm
                    · have b1 : ((x5.toNat : Int) == 43) = false := beq_ne hx
                      go_quiet (fail)
                      go_wp2
                      go_meet
                      refine ⟨?_, RN.drewN nq, gb_drewN GN nq⟩
                      rw [HP.out]
                      exact congrArg Value.bool (sgQ_eq x5 hx)
                  · have hi : decide ((k4 : Int) + 1 < (n : Int)) = false := decide_eq_false (by omega)
                    have HP : Hid (peekB D (k4 + 1) = 0) := peekB_out (by have := HL.out; omega)
                    go_quiet (fail)
                    go_wp2
                    go_meet
                    refine ⟨?_, RN.drewN nq, gb_drewN GN nq⟩
                    rw [HP.out]
                    rfl
              case rest =>
                clear c0 c1 f1 RN GN HF6
                obtain ⟨rfl, r6, g6⟩ := hcut
                have c1 : wc.cell? ⟨R, 1, none⟩ = some (.int .i64 ((k4 : Int) + 1)) := r6.c1
                have f1 := r6.fz 1
                have HF6 : Hid (F.answers wc.tape) := by show F.answers wc.tape; rw [g6.tape]; exact HF.out
                cases hs : sgQ (peekB D (k4 + 1)) with
                | false =>
                  go_wp2_with fail
                  refine (digits17 R g n cap D (k4 + 1) _ r6 (by omega) hn).mono ?_
                  rintro e w7 ⟨rfl, r7, g7⟩
                  have g7' := gb_trans g6 g7
                  have HF7 : Hid (F.answers w7.tape) := by show F.answers w7.tape; rw [g7.tape]; exact HF6.out
                  have HR : Hid (k4 + 1 + run isDg D (k4 + 1) ≤ n) := by have := run_le isDg D (k4 + 1); have := HL.out; show _ ≤ _; omega
                  by_cases hr : 0 < run isDg D (k4 + 1)
                  · have b2 : decide (k4 + 1 < k4 + 1 + run isDg D (k4 + 1)) = true := decide_eq_true (by omega)
                    go_wp2
                    go_end0
                    exact ⟨rfl, g7', _, _, true, r7, .inl ⟨rfl, rfl⟩, np_exp_ok n3.out HE.out _ HR.out (by omega)⟩
                  · have b2 : decide (k4 + 1 < k4 + 1 + run isDg D (k4 + 1)) = false := decide_eq_false (by omega)
                    go_wp2_with fail
                    refine (fail10 F _ R g n cap D _ _ r7 HF7.out).mono ?_
                    rintro e w8 ⟨rfl, ⟨a, r8⟩, g8⟩
                    go_wp2
                    go_end0
                    exact ⟨rfl, gb_trans g7' g8, _, _, false, r8, .inr ⟨rfl, a, rfl⟩, np_exp_bad n3.out HE.out _ HR.out⟩
                | true =>
                  have hlt2 : k4 + 1 < n := by
                    rcases Nat.lt_or_ge (k4 + 1) n with a | a
                    · exact a
                    · rw [peekB_out (by have := HL.out; omega)] at hs; cases hs
                  have RN := r6.at (k4 + 2) ((k4 : Int) + 1 + 1) (by omega)
                  have GN := gb_set g6 1 (.int .i64 ((k4 : Int) + 1 + 1))
                  have HF8 : Hid (F.answers (wc.setCell ⟨R, 1, none⟩ (.int .i64 ((k4 : Int) + 1 + 1))).tape) := HF6
                  go_wp2_with fail
                  clear c1 f1 r6 g6
                  generalize wc.setCell ⟨R, 1, none⟩ (.int .i64 ((k4 : Int) + 1 + 1)) = we at *
                  refine (digits17 R g n cap D (k4 + 2) _ RN (by omega) hn).mono ?_
                  rintro e w7 ⟨rfl, r7, g7⟩
                  have g7' := gb_trans GN g7
                  have HF7 : Hid (F.answers w7.tape) := by show F.answers w7.tape; rw [g7.tape]; exact HF8.out
                  have HR : Hid (k4 + 2 + run isDg D (k4 + 2) ≤ n) := by have := run_le isDg D (k4 + 2); have := HL.out; show _ ≤ _; omega
                  by_cases hr : 0 < run isDg D (k4 + 2)
                  · have b2 : decide (k4 + 2 < k4 + 2 + run isDg D (k4 + 2)) = true := decide_eq_true (by omega)
                    go_wp2
                    go_end0
                    exact ⟨rfl, g7', _, _, true, r7, .inl ⟨rfl, rfl⟩, np_exp_ok n3.out HE.out _ HR.out (by omega)⟩
                  · have b2 : decide (k4 + 2 < k4 + 2 + run isDg D (k4 + 2)) = false := decide_eq_false (by omega)
                    go_wp2_with fail
                    refine (fail10 F _ R g n cap D _ _ r7 HF7.out).mono ?_
                    rintro e w8 ⟨rfl, ⟨a, r8⟩, g8⟩
                    go_wp2
                    go_end0
                    exact ⟨rfl, gb_trans g7' g8, _, _, false, r8, .inr ⟨rfl, a, rfl⟩, np_exp_bad n3.out HE.out _ HR.out⟩
end Go.Proofs.YbulkhreFmt
