/-
  No cell of these rows narrows 'for every input' (looked for: loops, veiled, ifaces, maps, wideKeys, modest, calm, conditions, laid).
  DERIVED. THE GIVEN ROWS OF THIS SEAT. 3 by the template 'for every input the law returns true; each argument reads behind the call as it read before'; 0 by the template 'total and deterministic' (their statements: YbulkhqqTotals.lean).
  GIVEN WITH THE SEED: the statements are not yours to turn. If you find one false, say at which input.
  Laid BY PROGRAM, IN A SANDBOX (cutbox-rows.mjs): the forced cells as the released guide's own fill.sh prints them over the translation 53fbad2389a8d9d7… (all of the seat's roots in one cut). By AI agents, Wed Nov 11 2026. No macro, syntax, notation, axiom, sorry.
-/
import Derived.Test.YbulkhqqChecked
import GoSem.Claim
import GoSem.ClaimJoined
import GoSem.ClaimMapViews
import Derived.JoinedTies
import Derived.KernelRfl
namespace Go.Proofs.Ybulkhqq
/- THE CELL 'sum', in the pinned program and in every row, IS THE sha256 OF THE DUMP (.gsa) THAT YbulkhqqProg.lean LOADS. Nothing in Lean hashes anything: it is a label: what it is worth is what the hold of that sum in a sandbox is worth. -/
noncomputable def Yba.pinned : Pinned := { name := "ybulkhqq", sum := "53fbad2389a8d9d76b425e87d5a61618d68e8782dca67e675dca13bb23358b57", checked := Yba.checked }
namespace Rows
def none {H : Type} : Left H := { results := [], args := [] }

/-- 'protocol.LawS0419AExact': WHATEVER THE INPUT: true; the input reads as it did. -/
def lawS0419AExactSpec : ChangeSpec := { name := "lawS0419AExact", fn := fun _ => fun
  | [d] => { results := [.lit (.bool true)], args := [d] }
  | _ => none }
def lawS0419AExactRow : OpenClaim := { program := "ybulkhqq", sum := "53fbad2389a8d9d76b425e87d5a61618d68e8782dca67e675dca13bb23358b57", func := "example.com/rigline/rigline/pkg/protocol.LawS0419AExact", spec := "lawS0419AExact", apart := false }
def LawS0419AExactSaid : Prop := lawS0419AExactRow.holds Yba.pinned (OpenSpec.ofChange lawS0419AExactSpec)

/-- ITS FALSE NEIGHBOUR: 'it returns false'. Refute it at one input. -/
def lawS0419AExactWrong : ChangeSpec := { name := "lawS0419AExact", fn := fun _ => fun
  | [d] => { results := [.lit (.bool false)], args := [d] }
  | _ => none }
def LawS0419AExactWrongFalsely : Prop := lawS0419AExactRow.holds Yba.pinned (OpenSpec.ofChange lawS0419AExactWrong)

/-- 'protocol.LawS0419AFresh': WHATEVER THE INPUT: true; the input reads as it did. -/
def lawS0419AFreshSpec : ChangeSpec := { name := "lawS0419AFresh", fn := fun _ => fun
  | [d] => { results := [.lit (.bool true)], args := [d] }
  | _ => none }
def lawS0419AFreshRow : OpenClaim := { program := "ybulkhqq", sum := "53fbad2389a8d9d76b425e87d5a61618d68e8782dca67e675dca13bb23358b57", func := "example.com/rigline/rigline/pkg/protocol.LawS0419AFresh", spec := "lawS0419AFresh", apart := false }
def LawS0419AFreshSaid : Prop := lawS0419AFreshRow.holds Yba.pinned (OpenSpec.ofChange lawS0419AFreshSpec)

/-- ITS FALSE NEIGHBOUR: 'it returns false'. Refute it at one input. -/
def lawS0419AFreshWrong : ChangeSpec := { name := "lawS0419AFresh", fn := fun _ => fun
  | [d] => { results := [.lit (.bool false)], args := [d] }
  | _ => none }
def LawS0419AFreshWrongFalsely : Prop := lawS0419AFreshRow.holds Yba.pinned (OpenSpec.ofChange lawS0419AFreshWrong)

/-- 'protocol.LawS0419CEncoding': WHATEVER THE INPUT: true; the input reads as it did. -/
def lawS0419CEncodingSpec : ChangeSpec := { name := "lawS0419CEncoding", fn := fun _ => fun
  | [d1, d2, d3, d4] => { results := [.lit (.bool true)], args := [d1, d2, d3, d4] }
  | _ => none }
def lawS0419CEncodingRow : OpenClaim := { program := "ybulkhqq", sum := "53fbad2389a8d9d76b425e87d5a61618d68e8782dca67e675dca13bb23358b57", func := "example.com/rigline/rigline/pkg/protocol.LawS0419CEncoding", spec := "lawS0419CEncoding", named := ["encoding/binary.BigEndian"], apart := false }
def LawS0419CEncodingSaid : Prop := lawS0419CEncodingRow.holds Yba.pinned (OpenSpec.ofChange lawS0419CEncodingSpec)

/-- ITS FALSE NEIGHBOUR: 'it returns false'. Refute it at one input. -/
def lawS0419CEncodingWrong : ChangeSpec := { name := "lawS0419CEncoding", fn := fun _ => fun
  | [d1, d2, d3, d4] => { results := [.lit (.bool false)], args := [d1, d2, d3, d4] }
  | _ => none }
def LawS0419CEncodingWrongFalsely : Prop := lawS0419CEncodingRow.holds Yba.pinned (OpenSpec.ofChange lawS0419CEncodingWrong)

end Rows
end Go.Proofs.Ybulkhqq
