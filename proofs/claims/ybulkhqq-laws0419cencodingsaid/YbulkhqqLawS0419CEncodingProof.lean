/-
  Seat b0419a: 'Rows.LawS0419CEncodingSaid', proved: the frame after the seat's shells, at four parameters; the walk lies in YbulkhqqEnc and YbulkhqqEncMain.
-/
import Derived.Test.YbulkhqqRows
import Derived.WalkKit
import Derived.ProofKit
import Derived.ShutString
import Derived.ChangeOld
import Derived.Below
import Derived.Carry
import Derived.SliceStrings
import Derived.Test.YbulkhqqEncMain
namespace Go.Proofs.Ybulkhqq.lawS0419CEncoding
open Go.ChangeShapes Go.WideShapes Go.ChangeAt Go.RowKit
set_option linter.unusedVariables false

theorem own : ownKnob Yba.prog.godebug = none := by kernel_rfl
theorem laidOut : laidOutB Yba.prog = true := by kernel_rfl

/-- What the walk is told of a slice of bytes that came in. -/
def IsRow (w : World) (a : Option Addr) (len cap : Nat) (zs : List Int) : Prop :=
  (a = none ∧ len = 0 ∧ cap = 0 ∧ zs = []) ∨
  ∃ x, a = some x ∧ len ≤ cap ∧ cap ≤ maxLen ∧ zs.length = cap ∧ (∀ i, i < zs.length → w.cell? (x.add i) = some (.int .u8 (zs.getD i 0))) ∧ ∀ n ∈ zs, (Lit.int .u8 n).wf = true
/-- What the walk is told of a slice of strings that came in. -/
def IsStrs (w : World) (a : Option Addr) (len cap : Nat) (ss : List ByteArray) : Prop :=
  (a = none ∧ len = 0 ∧ cap = 0 ∧ ss = []) ∨
  ∃ x, a = some x ∧ len ≤ cap ∧ cap ≤ maxLen ∧ ss.length = cap ∧ (∀ i, i < ss.length → w.cell? (x.add i) = some (.string (ss.getD i ByteArray.empty))) ∧ ∀ s ∈ ss, s.size ≤ maxLen

theorem add_none (b off j : Nat) : (⟨b, off, none⟩ : Addr).add j = ⟨b, off + j, none⟩ := by unfold Addr.add; split <;> simp_all

theorem src_of {w : World} {a : Option Addr} {len cap : Nat} {zs : List Int} (h : IsRow w a len cap zs) : len ≤ maxLen ∧ ∃ S : List UInt8, S.length = len ∧ Src w a S := by
  rcases h with ⟨rfl, rfl, rfl, rfl⟩ | ⟨x, rfl, hl, hm, hz, hcell, hwf⟩
  · exact ⟨by unfold maxLen; omega, [], rfl, fun h => absurd h (by simp)⟩
  · refine ⟨by omega, (List.range len).map fun i => UInt8.ofNat (zs.getD i 0).toNat, by simp, fun hp => ?_⟩
    simp only [List.length_map, List.length_range] at hp
    obtain ⟨b, off, spot⟩ := x
    have h00 := hcell 0 (by omega)
    have hspot : spot = none := by simpa [Addr.add] using World.cell?_spot h00
    subst hspot
    rw [add_none] at h00
    refine ⟨b, off, rfl, block_lt_of_cell h00, fun i hi => ?_⟩
    have hi' : i < len := by simpa using hi
    have hbi : 0 ≤ zs.getD i 0 ∧ zs.getD i 0 ≤ 255 := by
      have := hwf (zs.getD i 0) (by rw [List.getD_eq_getElem?_getD, List.getElem?_eq_getElem (by omega)]; exact List.getElem_mem (by omega))
      simp [Lit.wf] at this
      exact this
    rw [← add_none, hcell i (by omega)]
    simp only [List.getElem_map, List.getElem_range, UInt8.toNat_ofNat']
    congr 2
    omega

theorem srcS_of {w : World} {a : Option Addr} {len cap : Nat} {ss : List ByteArray} (h : IsStrs w a len cap ss) : len ≤ maxLen ∧ ∃ S : List ByteArray, S.length = len ∧ SrcS w w.heap.size a S ∧ ∀ s ∈ S, s.size ≤ maxLen := by
  rcases h with ⟨rfl, rfl, rfl, rfl⟩ | ⟨x, rfl, hl, hm, hz, hcell, hws⟩
  · exact ⟨by unfold maxLen; omega, [], rfl, fun h => absurd h (by simp), by simp⟩
  · refine ⟨by omega, ss.take len, by simp; omega, fun hp => ?_, fun s hs => hws s (List.mem_of_mem_take hs)⟩
    have hp' : 0 < len := by simp at hp; omega
    obtain ⟨b, off, spot⟩ := x
    have h00 := hcell 0 (by omega)
    have hspot : spot = none := by simpa [Addr.add] using World.cell?_spot h00
    subst hspot
    rw [add_none] at h00
    refine ⟨b, off, rfl, block_lt_of_cell h00, fun i hi => ?_⟩
    have hi' : i < len := by simp at hi; omega
    rw [← add_none, hcell i (by omega), List.getD_eq_getElem?_getD, List.getElem?_eq_getElem (by omega)]
    simp

/-! ### STEP 1: THE WALK -/
theorem walk (a0 a1 a2 : Option Addr) (n0 c0 n1 c1 n2 c2 : Nat) (z0 : List Int) (s1 s2 : List ByteArray) (d : Int) (w : World) (w0 : IsRow w a0 n0 c0 z0) (w1 : IsStrs w a1 n1 c1 s1) (w2 : IsStrs w a2 n2 c2 s2) :
    Calls Yba.prog 5 #[.slice a0 n0 c0, .slice a1 n1 c1, .slice a2 n2 c2, .int .i64 d] w fun e w' => e = .returned (.bool true) ∧ Below w.heap.size w w' := by
  obtain ⟨m0, S, hS, src⟩ := src_of w0
  obtain ⟨m1, args, hA, srcA, hsA⟩ := srcS_of w1
  obtain ⟨m2, env, hE, srcE, hsE⟩ := srcS_of w2
  by_cases h0 : 1024 < n0
  · exact enc_long _ _ _ _ _ _ _ _ _ _ _ h0 m0
  · cases hbA : tooBig args with
    | true => exact enc_bigA _ _ _ _ _ _ _ _ _ _ args _ (by omega) hA m1 srcA hsA hbA
    | false =>
      cases hbE : tooBig env with
      | true => exact enc_bigE _ _ _ _ _ _ _ _ _ _ args env _ (by omega) hA m1 srcA hsA hbA hE m2 srcE hsE hbE
      | false => exact enc_main _ _ _ _ _ _ _ _ _ _ S args env _ (by omega) hS src hA srcA hbA hE srcE hbE

/-! ### THE ROW's STEP -/
theorem strs_of {H : Type} {enc : TypeId × Value → H} {W : World} {a : Option Addr} {len cap : Nat} {d : DataW H} {p : List MemPlace} (h : DataW.Trod enc Yba.prog W 0 (fun _ => true) true 30 (.slice a len cap) d p) : ∃ ss, IsStrs W a len cap ss := by
  obtain ⟨fuel, hf⟩ := h
  rcases open_strings Yba.underlying30 Yba.underlying9 (by kernel_rfl) hf with ⟨hcs, _⟩ | ⟨x, l, c, ss, hcs, _, hl, hm, hz, _, hcell, hws⟩
  · simp [Value.cells] at hcs
    obtain ⟨rfl, rfl, rfl⟩ := hcs
    exact ⟨[], .inl ⟨rfl, rfl, rfl, rfl⟩⟩
  · simp [Value.cells] at hcs
    obtain ⟨rfl, rfl, rfl⟩ := hcs
    exact ⟨ss, .inr ⟨_, rfl, hl, hm, by simpa using hz, hcell, hws⟩⟩

set_option maxRecDepth 100000 in
theorem lifted (os : Os) (started : os.Started) (H : Type) (enc : TypeId × Value → H) :
    ReturnsInHanded {} Yba.checked os 5 .any (Rows.lawS0419CEncodingSpec.pre6 enc Yba.prog Yba.f5 Rows.lawS0419CEncodingRow.domain false) (Rows.lawS0419CEncodingSpec.post enc Yba.prog Yba.f5 false true false false) := by
  refine returnsInHanded_of_change (C := Yba.checked) own started (by kernel_rfl) Yba.func5
    (ChangeSpec.witness6 (enc := enc) (C := Yba.checked) false ⟨#[], #[.slice none 0 0, .slice none 0 0, .slice none 0 0, .int .i64 0], []⟩ 8 (by kernel_rfl) (by kernel_rfl) (by kernel_rfl) (by kernel_rfl)) ?_
  intro W base args ds gs before hval0 hW hcnd _
  have hval : ∀ (j : Nat) t v, Yba.f5.params[j]? = some t → args[j]? = some v → Value.okWide Yba.prog W .any base t v := hval0
  have hW' := hW
  obtain ⟨p, q, hA0, hV, rfl, hfz, hnd⟩ := hW
  have hA : DataW.TrodAll enc Yba.prog W 0 (fun _ => true) true Yba.f5.params.toList args.toList ds p := hA0
  rw [Yba.params5] at hA hval
  obtain ⟨v0, v1, v2, v3, d0, d1, d2, d3, p0, p1, p2, p3, rfl, rfl, rfl, h0, h1, h2, h3⟩ := trodAll_four hA
  obtain ⟨rfl, rfl⟩ := trodVars_none hV
  obtain ⟨a0, len0, cap0, rfl⟩ := okWide_slice Yba.underlying22 (hval 0 22 v0 rfl rfl)
  obtain ⟨a1, len1, cap1, rfl⟩ := okWide_slice Yba.underlying30 (hval 1 30 v1 rfl rfl)
  obtain ⟨a2, len2, cap2, rfl⟩ := okWide_slice Yba.underlying30 (hval 2 30 v2 rfl rfl)
  have lt0 : ∀ x ∈ p0, x.block < W.heap.size := by obtain ⟨m, hm⟩ := h0; exact DataW.trod_lt m _ _ _ hm
  have lt1 : ∀ x ∈ p1, x.block < W.heap.size := by obtain ⟨m, hm⟩ := h1; exact DataW.trod_lt m _ _ _ hm
  have lt2 : ∀ x ∈ p2, x.block < W.heap.size := by obtain ⟨m, hm⟩ := h2; exact DataW.trod_lt m _ _ _ hm
  have lt3 : ∀ x ∈ p3, x.block < W.heap.size := by obtain ⟨m, hm⟩ := h3; exact DataW.trod_lt m _ _ _ hm
  have k3 := h3
  obtain ⟨n3, rfl, rfl, rfl, w3⟩ := open_int Yba.underlying2 (hval 3 2 v3 rfl rfl) h3
  obtain ⟨z0, w0⟩ : ∃ zs, IsRow W a0 len0 cap0 zs := by
    obtain ⟨fuel, hf⟩ := h0
    rcases open_ints Yba.underlying22 Yba.underlying5 (by kernel_rfl) hf with ⟨hcs, _⟩ | ⟨x, l, c, zs, hcs, _, hl, hm, hz, _, hcell, hwz⟩
    · simp [Value.cells] at hcs
      obtain ⟨rfl, rfl, rfl⟩ := hcs
      exact ⟨[], .inl ⟨rfl, rfl, rfl, rfl⟩⟩
    · simp [Value.cells] at hcs
      obtain ⟨rfl, rfl, rfl⟩ := hcs
      exact ⟨zs, .inr ⟨_, rfl, hl, hm, by simpa using hz, hcell, hwz⟩⟩
  obtain ⟨s1, w1⟩ := strs_of h1
  obtain ⟨s2, w2⟩ := strs_of h2
  clear hA0 hval0
  refine (walk a0 a1 a2 len0 cap0 len1 cap1 len2 cap2 z0 s1 s2 n3 W w0 w1 w2).mono fun e W' ⟨he, bel⟩ => ?_
  subst he
  exact ⟨_, rfl, _, _, _, [], _, [], hW', trodAll_mk1 (shut_bool Yba.underlying4 _),
    trodAll_mk4 (Below.trod laidOut (by kernel_rfl) (of_decide_eq_true (by kernel_rfl)) h0 bel lt0) (Below.trod laidOut (by kernel_rfl) (of_decide_eq_true (by kernel_rfl)) h1 bel lt1)
      (Below.trod laidOut (by kernel_rfl) (of_decide_eq_true (by kernel_rfl)) h2 bel lt2) (Below.trod laidOut (by kernel_rfl) (of_decide_eq_true (by kernel_rfl)) k3 bel lt3), rfl, bel.frame _, fun h => by cases h⟩

theorem over : Rows.lawS0419CEncodingRow.holds Yba.pinned (OpenSpec.ofChange Rows.lawS0419CEncodingSpec) :=
  OpenClaim.holds_of_wide 5 Yba.f5 rfl rfl rfl rfl rfl rfl rfl ⟨rfl, rfl, rfl, rfl, rfl⟩ rfl rfl rfl rfl rfl (by kernel_rfl) Yba.func5 (by kernel_rfl)
    (of_decide_eq_true (by kernel_rfl)) (by unfold Func.isWrapper; first | (rw [if_pos (by decide +kernel)]; kernel_rfl) | (rw [if_neg (by decide +kernel)]; exact ⟨rfl, rfl⟩))
    (fun os started H enc _ => lifted os started H enc)

/-- THE STATEMENT -/
theorem proved : Rows.LawS0419CEncodingSaid := over
#print axioms proved
end Go.Proofs.Ybulkhqq.lawS0419CEncoding
