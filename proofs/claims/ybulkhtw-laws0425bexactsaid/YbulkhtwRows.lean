/-
  No cell of these rows narrows 'for every input' (looked for: loops, veiled, ifaces, maps, wideKeys, modest, calm, conditions, laid).
  DERIVED. THE GIVEN ROWS OF THIS SEAT. 1 by the template 'for every input the law returns true; each argument reads behind the call as it read before'; 0 by the template 'total and deterministic' (their statements: YbulkhtwTotals.lean).
  GIVEN WITH THE SEED: the statements are not yours to turn. If you find one false, say at which input.
  Laid BY PROGRAM, IN A SANDBOX (cutbox-rows.mjs): the forced cells as the released guide's own fill.sh prints them over the translation 4e6caaf279551951… (all of the seat's roots in one cut). By AI agents, Wed Nov 11 2026. No macro, syntax, notation, axiom, sorry.
-/
import Derived.Test.YbulkhtwChecked
import GoSem.Claim
import GoSem.ClaimJoined
import GoSem.ClaimMapViews
import Derived.JoinedTies
import Derived.KernelRfl
namespace Go.Proofs.Ybulkhtw
/- THE CELL 'sum', in the pinned program and in every row, IS THE sha256 OF THE DUMP (.gsa) THAT YbulkhtwProg.lean LOADS. Nothing in Lean hashes anything: it is a label: what it is worth is what the hold of that sum in a sandbox is worth. -/
noncomputable def Yba.pinned : Pinned := { name := "ybulkhtw", sum := "4e6caaf279551951755fd3486801b2beabf0e6ebcbdde1d5e4cbd8838d4f60e7", checked := Yba.checked }
namespace Rows
def none {H : Type} : Left H := { results := [], args := [] }

/-- 'btree.LawS0425BExact': WHATEVER THE INPUT: true; the input reads as it did. -/
def lawS0425BExactSpec : ChangeSpec := { name := "lawS0425BExact", fn := fun _ => fun
  | [d1, d2] => { results := [.lit (.bool true)], args := [d1, d2] }
  | _ => none }
def lawS0425BExactRow : OpenClaim := { program := "ybulkhtw", sum := "4e6caaf279551951755fd3486801b2beabf0e6ebcbdde1d5e4cbd8838d4f60e7", func := "example.com/anchorlog/anchorlog/internal/btree.LawS0425BExact", spec := "lawS0425BExact", apart := false }
def LawS0425BExactSaid : Prop := lawS0425BExactRow.holds Yba.pinned (OpenSpec.ofChange lawS0425BExactSpec)

/-- ITS FALSE NEIGHBOUR: 'it returns false'. Refute it at one input. -/
def lawS0425BExactWrong : ChangeSpec := { name := "lawS0425BExact", fn := fun _ => fun
  | [d1, d2] => { results := [.lit (.bool false)], args := [d1, d2] }
  | _ => none }
def LawS0425BExactWrongFalsely : Prop := lawS0425BExactRow.holds Yba.pinned (OpenSpec.ofChange lawS0425BExactWrong)

end Rows
end Go.Proofs.Ybulkhtw
