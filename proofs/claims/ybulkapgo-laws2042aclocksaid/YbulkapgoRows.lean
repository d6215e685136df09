/-
  No cell of these rows narrows 'for every input' (looked for: loops, veiled, ifaces, maps, wideKeys, modest, calm, conditions, laid).
  DERIVED. THE GIVEN ROWS OF THIS SEAT. 3 by the template 'for every input the law returns true; each argument reads behind the call as it read before'; 0 by the template 'total and deterministic' (their statements: YbulkapgoTotals.lean).
  GIVEN WITH THE SEED: the statements are not yours to turn. If you find one false, say at which input.
  Laid BY PROGRAM, IN A SANDBOX (cutbox-rows.mjs): the forced cells as the released guide's own fill.sh prints them over the translation b4d06ff3d5d0ffb9… (all of the seat's roots in one cut). By AI agents, Wed Nov 11 2026. No macro, syntax, notation, axiom, sorry.
-/
import Derived.Test.YbulkapgoChecked
import GoSem.Claim
import GoSem.ClaimJoined
import GoSem.ClaimMapViews
import Derived.JoinedTies
import Derived.KernelRfl
namespace Go.Proofs.Ybulkapgo
/- THE CELL 'sum', in the pinned program and in every row, IS THE sha256 OF THE DUMP (.gsa) THAT YbulkapgoProg.lean LOADS. Nothing in Lean hashes anything: it is a label: what it is worth is what the hold of that sum in a sandbox is worth. -/
noncomputable def Yba.pinned : Pinned := { name := "ybulkapgo", sum := "b4d06ff3d5d0ffb9fa704355373025db4b81a1ff51a7cb7d51db99c9d987528b", checked := Yba.checked }
namespace Rows
def none {H : Type} : Left H := { results := [], args := [] }

/-- 'curfew.LawS2042AClock': WHATEVER THE INPUT: true; the input reads as it did. -/
def lawS2042AClockSpec : ChangeSpec := { name := "lawS2042AClock", fn := fun _ => fun
  | [d] => { results := [.lit (.bool true)], args := [d] }
  | _ => none }
def lawS2042AClockRow : OpenClaim := { program := "ybulkapgo", sum := "b4d06ff3d5d0ffb9fa704355373025db4b81a1ff51a7cb7d51db99c9d987528b", func := "curfew.LawS2042AClock", spec := "lawS2042AClock", apart := false }
def LawS2042AClockSaid : Prop := lawS2042AClockRow.holds Yba.pinned (OpenSpec.ofChange lawS2042AClockSpec)

/-- ITS FALSE NEIGHBOUR: 'it returns false'. Refute it at one input. -/
def lawS2042AClockWrong : ChangeSpec := { name := "lawS2042AClock", fn := fun _ => fun
  | [d] => { results := [.lit (.bool false)], args := [d] }
  | _ => none }
def LawS2042AClockWrongFalsely : Prop := lawS2042AClockRow.holds Yba.pinned (OpenSpec.ofChange lawS2042AClockWrong)

/-- 'curfew.LawS2042BWhy': WHATEVER THE INPUT: true; the input reads as it did. -/
def lawS2042BWhySpec : ChangeSpec := { name := "lawS2042BWhy", fn := fun _ => fun
  | [d1, d2, d3, d4, d5] => { results := [.lit (.bool true)], args := [d1, d2, d3, d4, d5] }
  | _ => none }
def lawS2042BWhyRow : OpenClaim := { program := "ybulkapgo", sum := "b4d06ff3d5d0ffb9fa704355373025db4b81a1ff51a7cb7d51db99c9d987528b", func := "curfew.LawS2042BWhy", spec := "lawS2042BWhy", apart := false }
def LawS2042BWhySaid : Prop := lawS2042BWhyRow.holds Yba.pinned (OpenSpec.ofChange lawS2042BWhySpec)

/-- ITS FALSE NEIGHBOUR: 'it returns false'. Refute it at one input. -/
def lawS2042BWhyWrong : ChangeSpec := { name := "lawS2042BWhy", fn := fun _ => fun
  | [d1, d2, d3, d4, d5] => { results := [.lit (.bool false)], args := [d1, d2, d3, d4, d5] }
  | _ => none }
def LawS2042BWhyWrongFalsely : Prop := lawS2042BWhyRow.holds Yba.pinned (OpenSpec.ofChange lawS2042BWhyWrong)

/-- 'curfew.LawS2042BDistinct': WHATEVER THE INPUT: true; the input reads as it did. -/
def lawS2042BDistinctSpec : ChangeSpec := { name := "lawS2042BDistinct", fn := fun _ => fun
  | [d1, d2, d3] => { results := [.lit (.bool true)], args := [d1, d2, d3] }
  | _ => none }
def lawS2042BDistinctRow : OpenClaim := { program := "ybulkapgo", sum := "b4d06ff3d5d0ffb9fa704355373025db4b81a1ff51a7cb7d51db99c9d987528b", func := "curfew.LawS2042BDistinct", spec := "lawS2042BDistinct", apart := false }
def LawS2042BDistinctSaid : Prop := lawS2042BDistinctRow.holds Yba.pinned (OpenSpec.ofChange lawS2042BDistinctSpec)

/-- ITS FALSE NEIGHBOUR: 'it returns false'. Refute it at one input. -/
def lawS2042BDistinctWrong : ChangeSpec := { name := "lawS2042BDistinct", fn := fun _ => fun
  | [d1, d2, d3] => { results := [.lit (.bool false)], args := [d1, d2, d3] }
  | _ => none }
def LawS2042BDistinctWrongFalsely : Prop := lawS2042BDistinctRow.holds Yba.pinned (OpenSpec.ofChange lawS2042BDistinctWrong)

end Rows
end Go.Proofs.Ybulkapgo
