/-
  No cell of these rows narrows 'for every input' (looked for: loops, veiled, ifaces, maps, wideKeys, modest, calm, conditions, laid).
  DERIVED. THE GIVEN ROWS OF THIS SEAT. 2 by the template 'for every input the law returns true; each argument reads behind the call as it read before'; 0 by the template 'total and deterministic' (their statements: YbulkhreFmtTotals.lean).
  GIVEN WITH THE SEED: the statements are not yours to turn. If you find one false, say at which input.
  Laid BY PROGRAM, IN A SANDBOX (cutbox-rows.mjs): the forced cells as the released guide's own fill.sh prints them over the translation 415b5d4e2fcbc190… (all of the seat's roots in one cut). By AI agents, Wed Nov 11 2026. No macro, syntax, notation, axiom, sorry.
-/
import Derived.Test.YbulkhreFmtChecked
import GoSem.Claim
import GoSem.ClaimJoined
import GoSem.ClaimMapViews
import Derived.JoinedTies
import Derived.KernelRfl
namespace Go.Proofs.YbulkhreFmt
/- THE CELL 'sum', in the pinned program and in every row, IS THE sha256 OF THE DUMP (.gsa) THAT YbulkhreFmtProg.lean LOADS. Nothing in Lean hashes anything: it is a label: what it is worth is what the hold of that sum in a sandbox is worth. -/
noncomputable def Ybaf.pinned : Pinned := { name := "ybulkhrefmt", sum := "415b5d4e2fcbc190272668471c627f4af4e48b25d84eea1c1c8f844fda1ef6e6", checked := Ybaf.checked }
namespace Rows
def none {H : Type} : Left H := { results := [], args := [] }

/-- 'codec.LawS0420ARoundTrip': WHATEVER THE INPUT: true; the input reads as it did. -/
def lawS0420ARoundTripSpec : ChangeSpec := { name := "lawS0420ARoundTrip", fn := fun _ => fun
  | [d1, d2, d3] => { results := [.lit (.bool true)], args := [d1, d2, d3] }
  | _ => none }
def lawS0420ARoundTripRow : OpenClaim := { program := "ybulkhrefmt", sum := "415b5d4e2fcbc190272668471c627f4af4e48b25d84eea1c1c8f844fda1ef6e6", func := "example.com/hearsay/hearsay/internal/codec.LawS0420ARoundTrip", spec := "lawS0420ARoundTrip", stops := ["fmt.errorf"], inPlace := ["fmt.errorf"], apart := false }
/-- NO THEOREM (fmt's text is open here; it may be false): for the released tool's asking of the row's closed facts alone. THE STATEMENT IS 'LawS0420ARoundTripToldSaid' (YbulkhreFmtCards.lean). -/
def LawS0420ARoundTripFormAsk : Prop := lawS0420ARoundTripRow.holds Ybaf.pinned (OpenSpec.ofChange lawS0420ARoundTripSpec)

/-- ITS FALSE NEIGHBOUR: 'it returns false'. Refute it at one input. -/
def lawS0420ARoundTripWrong : ChangeSpec := { name := "lawS0420ARoundTrip", fn := fun _ => fun
  | [d1, d2, d3] => { results := [.lit (.bool false)], args := [d1, d2, d3] }
  | _ => none }
def LawS0420ARoundTripWrongFormAsk : Prop := lawS0420ARoundTripRow.holds Ybaf.pinned (OpenSpec.ofChange lawS0420ARoundTripWrong)

/-- 'codec.LawS0420AModel': WHATEVER THE INPUT: true; the input reads as it did. -/
def lawS0420AModelSpec : ChangeSpec := { name := "lawS0420AModel", fn := fun _ => fun
  | [d] => { results := [.lit (.bool true)], args := [d] }
  | _ => none }
def lawS0420AModelRow : OpenClaim := { program := "ybulkhrefmt", sum := "415b5d4e2fcbc190272668471c627f4af4e48b25d84eea1c1c8f844fda1ef6e6", func := "example.com/hearsay/hearsay/internal/codec.LawS0420AModel", spec := "lawS0420AModel", stops := ["fmt.errorf"], inPlace := ["fmt.errorf", "math/bits.Add64"], apart := false }
/-- NO THEOREM (fmt's text is open here; it may be false): for the released tool's asking of the row's closed facts alone. THE STATEMENT IS 'LawS0420AModelToldSaid' (YbulkhreFmtCards.lean). -/
def LawS0420AModelFormAsk : Prop := lawS0420AModelRow.holds Ybaf.pinned (OpenSpec.ofChange lawS0420AModelSpec)

/-- ITS FALSE NEIGHBOUR: 'it returns false'. Refute it at one input. -/
def lawS0420AModelWrong : ChangeSpec := { name := "lawS0420AModel", fn := fun _ => fun
  | [d] => { results := [.lit (.bool false)], args := [d] }
  | _ => none }
def LawS0420AModelWrongFormAsk : Prop := lawS0420AModelRow.holds Ybaf.pinned (OpenSpec.ofChange lawS0420AModelWrong)

end Rows
end Go.Proofs.YbulkhreFmt
