/-
  No cell of these rows narrows 'for every input' (looked for: loops, veiled, ifaces, maps, wideKeys, modest, calm, conditions, laid).
  DERIVED. THE GIVEN ROWS OF THIS SEAT. 1 by the template 'for every input the law returns true; each argument reads behind the call as it read before'; 0 by the template 'total and deterministic' (their statements: YbulkapjuTotals.lean).
  GIVEN WITH THE SEED: the statements are not yours to turn. If you find one false, say at which input.
  Laid BY PROGRAM, IN A SANDBOX (cutbox-rows.mjs): the forced cells as the released guide's own fill.sh prints them over the translation f1f5be9d6d28c8f4… (all of the seat's roots in one cut). By AI agents, Wed Nov 11 2026. No macro, syntax, notation, axiom, sorry.
-/
import Derived.Test.YbulkapjuChecked
import GoSem.Claim
import GoSem.ClaimJoined
import GoSem.ClaimMapViews
import Derived.JoinedTies
import Derived.KernelRfl
namespace Go.Proofs.Ybulkapju
/- THE CELL 'sum', in the pinned program and in every row, IS THE sha256 OF THE DUMP (.gsa) THAT YbulkapjuProg.lean LOADS. Nothing in Lean hashes anything: it is a label: what it is worth is what the hold of that sum in a sandbox is worth. -/
noncomputable def Yba.pinned : Pinned := { name := "ybulkapju", sum := "f1f5be9d6d28c8f435e063282c458ea50607604bf1ef29e10206e8ec92bbf21f", checked := Yba.checked }
namespace Rows
def none {H : Type} : Left H := { results := [], args := [] }

/-- 'sealstamp.LawS2048CDone': WHATEVER THE INPUT: true; the input reads as it did. -/
def lawS2048CDoneSpec : ChangeSpec := { name := "lawS2048CDone", fn := fun _ => fun
  | [d1, d2, d3, d4] => { results := [.lit (.bool true)], args := [d1, d2, d3, d4] }
  | _ => none }
def lawS2048CDoneRow : OpenClaim := { program := "ybulkapju", sum := "f1f5be9d6d28c8f435e063282c458ea50607604bf1ef29e10206e8ec92bbf21f", func := "example.com/sealstamp/sealstamp.LawS2048CDone", spec := "lawS2048CDone", unfollowed := true, recurses := true, apart := false }
def LawS2048CDoneSaid : Prop := lawS2048CDoneRow.holds Yba.pinned (OpenSpec.ofChange lawS2048CDoneSpec)

/-- ITS FALSE NEIGHBOUR: 'it returns false'. Refute it at one input. -/
def lawS2048CDoneWrong : ChangeSpec := { name := "lawS2048CDone", fn := fun _ => fun
  | [d1, d2, d3, d4] => { results := [.lit (.bool false)], args := [d1, d2, d3, d4] }
  | _ => none }
def LawS2048CDoneWrongFalsely : Prop := lawS2048CDoneRow.holds Yba.pinned (OpenSpec.ofChange lawS2048CDoneWrong)

end Rows
end Go.Proofs.Ybulkapju
