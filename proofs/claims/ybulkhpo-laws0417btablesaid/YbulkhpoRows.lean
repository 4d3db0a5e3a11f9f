/-
  No cell of these rows narrows 'for every input' (looked for: loops, veiled, ifaces, maps, wideKeys, modest, calm, conditions, laid).
  DERIVED. THE GIVEN ROWS OF THIS SEAT. 2 by the template 'for every input the law returns true; each argument reads behind the call as it read before'; 0 by the template 'total and deterministic' (their statements: YbulkhpoTotals.lean).
  GIVEN WITH THE SEED: the statements are not yours to turn. If you find one false, say at which input.
  Laid BY PROGRAM, IN A SANDBOX (cutbox-rows.mjs): the forced cells as the released guide's own fill.sh prints them over the translation b578c44953a0f7ab… (all of the seat's roots in one cut). By AI agents, Wed Nov 11 2026. No macro, syntax, notation, axiom, sorry.
-/
import Derived.Test.YbulkhpoChecked
import GoSem.Claim
import GoSem.ClaimJoined
import GoSem.ClaimMapViews
import Derived.JoinedTies
import Derived.KernelRfl
namespace Go.Proofs.Ybulkhpo
/- THE CELL 'sum', in the pinned program and in every row, IS THE sha256 OF THE DUMP (.gsa) THAT YbulkhpoProg.lean LOADS. Nothing in Lean hashes anything: it is a label: what it is worth is what the hold of that sum in a sandbox is worth. -/
noncomputable def Yba.pinned : Pinned := { name := "ybulkhpo", sum := "b578c44953a0f7abb4a03776e9f49f225f1367ce1581a1b4bf6ea2c37c30954c", checked := Yba.checked }
namespace Rows
def none {H : Type} : Left H := { results := [], args := [] }

/-- 'wire.LawS0417BExact': WHATEVER THE INPUT: true; the input reads as it did. -/
def lawS0417BExactSpec : ChangeSpec := { name := "lawS0417BExact", fn := fun _ => fun
  | [d] => { results := [.lit (.bool true)], args := [d] }
  | _ => none }
def lawS0417BExactRow : OpenClaim := { program := "ybulkhpo", sum := "b578c44953a0f7abb4a03776e9f49f225f1367ce1581a1b4bf6ea2c37c30954c", func := "example.com/zonewright/zonewright/internal/wire.LawS0417BExact", spec := "lawS0417BExact", apart := false }
def LawS0417BExactSaid : Prop := lawS0417BExactRow.holds Yba.pinned (OpenSpec.ofChange lawS0417BExactSpec)

/-- ITS FALSE NEIGHBOUR: 'it returns false'. Refute it at one input. -/
def lawS0417BExactWrong : ChangeSpec := { name := "lawS0417BExact", fn := fun _ => fun
  | [d] => { results := [.lit (.bool false)], args := [d] }
  | _ => none }
def LawS0417BExactWrongFalsely : Prop := lawS0417BExactRow.holds Yba.pinned (OpenSpec.ofChange lawS0417BExactWrong)

/-- 'wire.LawS0417BTable': WHATEVER THE INPUT: true; the input reads as it did. -/
def lawS0417BTableSpec : ChangeSpec := { name := "lawS0417BTable", fn := fun _ => fun
  | [d] => { results := [.lit (.bool true)], args := [d] }
  | _ => none }
def lawS0417BTableRow : OpenClaim := { program := "ybulkhpo", sum := "b578c44953a0f7abb4a03776e9f49f225f1367ce1581a1b4bf6ea2c37c30954c", func := "example.com/zonewright/zonewright/internal/wire.LawS0417BTable", spec := "lawS0417BTable", apart := false }
def LawS0417BTableSaid : Prop := lawS0417BTableRow.holds Yba.pinned (OpenSpec.ofChange lawS0417BTableSpec)

/-- ITS FALSE NEIGHBOUR: 'it returns false'. Refute it at one input. -/
def lawS0417BTableWrong : ChangeSpec := { name := "lawS0417BTable", fn := fun _ => fun
  | [d] => { results := [.lit (.bool false)], args := [d] }
  | _ => none }
def LawS0417BTableWrongFalsely : Prop := lawS0417BTableRow.holds Yba.pinned (OpenSpec.ofChange lawS0417BTableWrong)

end Rows
end Go.Proofs.Ybulkhpo
