import Derived.Test.YbulkapjuRows
import Derived.WalkKit
import Derived.WalkSpells
import Derived.WalkLawsBesides
import Derived.Laws.EntriesVeiled
import Derived.Outline
namespace Go.Proofs.Ybulkapju
open Go.RowKit

theorem neq_nil_nil (w : World) : (binOp .neq 1 .nilFunc .nilFunc).run Yba.prog w = .ok (.bool false) w := by kernel_rfl
theorem neq_func_nil (a : Addr) (w : World) : (binOp .neq 1 (.func (.func 4) #[] #[.pointer (some a)]) .nilFunc).run Yba.prog w = .ok (.bool true) w := by kernel_rfl

set_option maxHeartbeats 400000 in
theorem count_any (c : Nat) (n : Int) (w : World) (hc : w.cell? ⟨c, 0, none⟩ = some (.int .i64 n)) (hf : w.frozen? ⟨c, 0, none⟩ = false) (l : 0 ≤ n) (h : n < 1000) :
    Calls Yba.prog 4 #[.pointer (some ⟨c, 0, none⟩)] w fun e w' => e = .returned (.tuple #[]) ∧ w' = w.setCell ⟨c, 0, none⟩ (.int .i64 (n + 1)) := by
  go_enter Yba.func4, Yba.ntmps4
  go_wp2
  go_end0
  exact ⟨rfl, rfl⟩

set_option maxHeartbeats 400000 in
theorem done_none (b : Nat) (w : World) (hc : w.cell? ⟨b, 4, none⟩ = some .nilFunc) :
    Calls Yba.prog 5 #[.pointer (some ⟨b, 0, none⟩)] w fun e w' => e = .returned (.tuple #[]) ∧ w' = w := by
  have hn := neq_nil_nil
  go_enter Yba.func5, Yba.ntmps5
  go_wp2
  go_end0
  exact ⟨rfl, rfl⟩

set_option maxHeartbeats 400000 in
theorem done_some (b c : Nat) (n : Int) (w : World) (hb : w.cell? ⟨b, 4, none⟩ = some (.func (.func 4) #[] #[.pointer (some ⟨c, 0, none⟩)]))
    (hc : w.cell? ⟨c, 0, none⟩ = some (.int .i64 n)) (hf : w.frozen? ⟨c, 0, none⟩ = false) (l : 0 ≤ n) (h : n < 1000) :
    Calls Yba.prog 5 #[.pointer (some ⟨b, 0, none⟩)] w fun e w' => e = .returned (.tuple #[]) ∧ w' = w.setCell ⟨c, 0, none⟩ (.int .i64 (n + 1)) := by
  have hn := neq_func_nil
  go_enter Yba.func5, Yba.ntmps5
  go_wp2_with (go_at_call 4; refine (count_any c n _ hc hf l h).mono ?_; rintro e w' ⟨rfl, rfl⟩)
  go_end0
  exact ⟨rfl, rfl⟩

end Go.Proofs.Ybulkapju
