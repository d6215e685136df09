/-
  No cell of these rows narrows 'for every input' (looked for: loops, veiled, ifaces, maps, wideKeys, modest, calm, conditions, laid).
  DERIVED. THE GIVEN ROWS OF THIS SEAT. 2 by the template 'for every input the law returns true; each argument reads behind the call as it read before'; 0 by the template 'total and deterministic' (their statements: YbulkapisTotals.lean).
  GIVEN WITH THE SEED: the statements are not yours to turn. If you find one false, say at which input.
  Laid BY PROGRAM, IN A SANDBOX (cutbox-rows.mjs): the forced cells as the released guide's own fill.sh prints them over the translation 948310b2d892c2bd… (all of the seat's roots in one cut). By AI agents, Wed Nov 11 2026. No macro, syntax, notation, axiom, sorry.
-/
import Derived.Test.YbulkapisChecked
import GoSem.Claim
import GoSem.ClaimJoined
import GoSem.ClaimMapViews
import Derived.JoinedTies
import Derived.KernelRfl
namespace Go.Proofs.Ybulkapis
/- THE CELL 'sum', in the pinned program and in every row, IS THE sha256 OF THE DUMP (.gsa) THAT YbulkapisProg.lean LOADS. Nothing in Lean hashes anything: it is a label: what it is worth is what the hold of that sum in a sandbox is worth. -/
noncomputable def Yba.pinned : Pinned := { name := "ybulkapis", sum := "948310b2d892c2bdcc4beae85d81b41988b69ad89ffc752978cf33b836c59535", checked := Yba.checked }
namespace Rows
def none {H : Type} : Left H := { results := [], args := [] }

/-- 'octetloom.LawS2046AField': WHATEVER THE INPUT: true; the input reads as it did. -/
def lawS2046AFieldSpec : ChangeSpec := { name := "lawS2046AField", fn := fun _ => fun
  | [d] => { results := [.lit (.bool true)], args := [d] }
  | _ => none }
def lawS2046AFieldRow : OpenClaim := { program := "ybulkapis", sum := "948310b2d892c2bdcc4beae85d81b41988b69ad89ffc752978cf33b836c59535", func := "example.com/octetloom/octetloom.LawS2046AField", spec := "lawS2046AField", named := ["encoding/binary.BigEndian"], apart := false }
def LawS2046AFieldSaid : Prop := lawS2046AFieldRow.holds Yba.pinned (OpenSpec.ofChange lawS2046AFieldSpec)

/-- ITS FALSE NEIGHBOUR: 'it returns false'. Refute it at one input. -/
def lawS2046AFieldWrong : ChangeSpec := { name := "lawS2046AField", fn := fun _ => fun
  | [d] => { results := [.lit (.bool false)], args := [d] }
  | _ => none }
def LawS2046AFieldWrongFalsely : Prop := lawS2046AFieldRow.holds Yba.pinned (OpenSpec.ofChange lawS2046AFieldWrong)

/-- 'octetloom.LawS2046ABuilt': WHATEVER THE INPUT: true; the input reads as it did. -/
def lawS2046ABuiltSpec : ChangeSpec := { name := "lawS2046ABuilt", fn := fun _ => fun
  | [d1, d2, d3, d4] => { results := [.lit (.bool true)], args := [d1, d2, d3, d4] }
  | _ => none }
def lawS2046ABuiltRow : OpenClaim := { program := "ybulkapis", sum := "948310b2d892c2bdcc4beae85d81b41988b69ad89ffc752978cf33b836c59535", func := "example.com/octetloom/octetloom.LawS2046ABuilt", spec := "lawS2046ABuilt", named := ["encoding/binary.BigEndian"], apart := false }
def LawS2046ABuiltSaid : Prop := lawS2046ABuiltRow.holds Yba.pinned (OpenSpec.ofChange lawS2046ABuiltSpec)

/-- ITS FALSE NEIGHBOUR: 'it returns false'. Refute it at one input. -/
def lawS2046ABuiltWrong : ChangeSpec := { name := "lawS2046ABuilt", fn := fun _ => fun
  | [d1, d2, d3, d4] => { results := [.lit (.bool false)], args := [d1, d2, d3, d4] }
  | _ => none }
def LawS2046ABuiltWrongFalsely : Prop := lawS2046ABuiltRow.holds Yba.pinned (OpenSpec.ofChange lawS2046ABuiltWrong)

end Rows
end Go.Proofs.Ybulkapis
