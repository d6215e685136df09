/- fmt.Errorf at the two formats of 'checkVector': closed facts, and the contract: a new error comes back, whatever its text. -/
import Derived.Test.YbulkapjgFmtRows
import Derived.WalkKit
import Derived.WalkSpells
import Derived.WalkLawsBesides
import Derived.Outline
import Derived.Stop.CallBack
import Derived.Stop.IfaceNil
import Derived.BigCall
import GoSem.ClaimData
namespace Go.Proofs.YbulkapjgFmt
open Go.RowKit Go.Extern.Stop Go.Stop Go.Extern

theorem call31 (args : Array Value) (w : World) : (callFunc 31 args).run Ybaf.prog w = (FmtCalls.errorf #[9, 102] #[32] args).run Ybaf.prog w :=
  run_callFunc_next Ybaf.func31 (by kernel_rfl) (by kernel_rfl) (by kernel_rfl) args w
theorem fguard (name : String) (w : World) : (FmtStop.guard name).run Ybaf.prog w = .ok () w := by kernel_rfl
theorem nextTurns : Extern.next FmtCalls.turnsRow = some (FmtCalls.begun #[] #[]) := by kernel_rfl
theorem fmtA : FmtStop.printed? ⟨#[118, 101, 99, 116, 111, 114, 32, 101, 110, 116, 114, 121, 32, 37, 100, 32, 105, 115, 32, 110, 101, 103, 97, 116, 105, 118, 101]⟩ 1 = some [(0, 100, false)] := by kernel_rfl
theorem fmtAr (w : World) : (FmtDoors.printed ⟨#[118, 101, 99, 116, 111, 114, 32, 101, 110, 116, 114, 121, 32, 37, 100, 32, 105, 115, 32, 110, 101, 103, 97, 116, 105, 118, 101]⟩ 1).run Ybaf.prog w = .ok [(0, 100, false)] w := by kernel_rfl
theorem fmtB : FmtStop.printed? ⟨#[118, 101, 99, 116, 111, 114, 32, 101, 110, 116, 114, 105, 101, 115, 32, 97, 100, 100, 32, 117, 112, 32, 116, 111, 32, 109, 111, 114, 101, 32, 116, 104, 97, 110, 32, 37, 100]⟩ 1 = some [(0, 100, false)] := by kernel_rfl
theorem fmtBr (w : World) : (FmtDoors.printed ⟨#[118, 101, 99, 116, 111, 114, 32, 101, 110, 116, 114, 105, 101, 115, 32, 97, 100, 100, 32, 117, 112, 32, 116, 111, 32, 109, 111, 114, 101, 32, 116, 104, 97, 110, 32, 37, 100]⟩ 1).run Ybaf.prog w = .ok [(0, 100, false)] w := by kernel_rfl
def shape3 : List UInt8 := [5, 3, 0, 0, 0, 0, 0, 0, 0, 105, 110, 116]
def shape2 : List UInt8 := [5, 5, 0, 0, 0, 0, 0, 0, 0, 105, 110, 116, 54, 52]
theorem act3 (name : String) (x : Value) (w : World) : (FmtCalls.act name true 100 false (.iface 3 x)).run Ybaf.prog w = .ok (.closed true) w := by kernel_rfl
theorem op3 (name : String) (x : Int) (w : World) : (FmtStop.operand name true 100 false (.iface 3 (.int .i64 x))).run Ybaf.prog w = .ok (shape3, Go.Extern.Stop.digits 8 (x % 2 ^ 64).toNat) w := by kernel_rfl
theorem act2 (name : String) (x : Value) (w : World) : (FmtCalls.act name true 100 false (.iface 2 x)).run Ybaf.prog w = .ok (.closed true) w := by kernel_rfl
theorem op2 (name : String) (x : Int) (w : World) : (FmtStop.operand name true 100 false (.iface 2 (.int .i64 x))).run Ybaf.prog w = .ok (shape2, Go.Extern.Stop.digits 8 (x % 2 ^ 64).toNat) w := by kernel_rfl
theorem ptr74 (w : World) : (FmtStop.ptrTo "errors.errorString").run Ybaf.prog w = .ok 74 w := by kernel_rfl
theorem elem74 (w : World) : (elemOf 74).run Ybaf.prog w = .ok 76 w := by kernel_rfl
theorem isError74 (w : World) : (FmtDoors.textMethod 74 "Error").run Ybaf.prog w = .ok true w := by kernel_rfl

set_option maxHeartbeats 800000 in
theorem errorf_neg (F : Interp) (x : Int) (blk : Nat) (w : World) (hF : F.answers w.tape) (hc : w.cell? ⟨blk, 0, none⟩ = some (.iface 3 (.int .i64 x))) :
    Calls Ybaf.prog 21 #[.string ⟨#[118, 101, 99, 116, 111, 114, 32, 101, 110, 116, 114, 121, 32, 37, 100, 32, 105, 115, 32, 110, 101, 103, 97, 116, 105, 118, 101]⟩, .slice (some ⟨blk, 0, none⟩) 1 1] w fun e w' =>
      ∃ a, e = .returned (.iface 74 (.pointer (some a))) ∧ Below w.heap.size w w' := by
  have hF' := answers_open hF
  have h1 := call31
  have h2 := fguard
  have h3 := fmtA
  have h4 := fmtAr
  have h5 := act3
  have h6 := op3
  have h7 := ptr74
  have h8 := elem74
  have h9 := isError74
  go_enter Ybaf.func21, Ybaf.ntmps21
  go_wp2
  apply rows_value nextTurns
  case hr =>
    go_simp
    exact ⟨rfl, rfl⟩
  case h =>
    go_wp2
    go_ret
    exact ⟨⟨w.heap.size, 0, none⟩, rfl, ((Below.refl _ _).alloc (Nat.le_refl _) _).drew⟩

set_option maxHeartbeats 800000 in
theorem errorf_over (F : Interp) (x : Int) (blk : Nat) (w : World) (hF : F.answers w.tape) (hc : w.cell? ⟨blk, 0, none⟩ = some (.iface 2 (.int .i64 x))) :
    Calls Ybaf.prog 21 #[.string ⟨#[118, 101, 99, 116, 111, 114, 32, 101, 110, 116, 114, 105, 101, 115, 32, 97, 100, 100, 32, 117, 112, 32, 116, 111, 32, 109, 111, 114, 101, 32, 116, 104, 97, 110, 32, 37, 100]⟩, .slice (some ⟨blk, 0, none⟩) 1 1] w fun e w' =>
      ∃ a, e = .returned (.iface 74 (.pointer (some a))) ∧ Below w.heap.size w w' := by
  have hF' := answers_open hF
  have h1 := call31
  have h2 := fguard
  have h3 := fmtB
  have h4 := fmtBr
  have h5 := act2
  have h6 := op2
  have h7 := ptr74
  have h8 := elem74
  have h9 := isError74
  go_enter Ybaf.func21, Ybaf.ntmps21
  go_wp2
  apply rows_value nextTurns
  case hr =>
    go_simp
    exact ⟨rfl, rfl⟩
  case h =>
    go_wp2
    go_ret
    exact ⟨⟨w.heap.size, 0, none⟩, rfl, ((Below.refl _ _).alloc (Nat.le_refl _) _).drew⟩
end Go.Proofs.YbulkapjgFmt
