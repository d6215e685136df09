import Derived.Test.YbulkapisRows
import Derived.WalkKit
import Derived.WalkSpells
import Derived.WalkLawsBesides
import Derived.Deep.QuietTactic
import Derived.Deep.RegionWith
import Derived.BigQuiet
import Derived.Outline
import Derived.Lib.EndianBits
namespace Go.Proofs.Ybulkapis
open Go.RowKit

theorem or16 {x0 x1 : Int} (l0 : 0 ≤ x0) (h0 : x0 ≤ 255) (l1 : 0 ≤ x1) (h1 : x1 ≤ 255) : bits .or .u16 x1 (x0 * 256) = x0 * 256 + x1 := by
  rw [u16_or8 _ _ l1 (by omega) (by omega) (by omega) (by omega)]; omega

set_option maxHeartbeats 400000 in
theorem u16_any (g o n c : Nat) (x0 x1 : Int) (w : World) (hn : 2 ≤ n) (c0 : w.cell? ⟨g, o, none⟩ = some (.int .u8 x0)) (c1 : w.cell? ⟨g, o + 1, none⟩ = some (.int .u8 x1))
    (l0 : 0 ≤ x0) (h0 : x0 ≤ 255) (l1 : 0 ≤ x1) (h1 : x1 ≤ 255) (hg : g < w.heap.size) :
    Calls Yba.prog 6 #[.agg #[], .slice (some ⟨g, o, none⟩) n c] w fun e w' => e = .returned (.int .u16 (x0 * 256 + x1)) ∧ Below w.heap.size w w' := by
  have hn1 : (1 : Int) < (n : Int) := by omega
  have hn0 : 0 < n := by omega
  have c0' : (w.alloc (.cells #[] 30)).cell? ⟨g, o, none⟩ = some (.int .u8 x0) := by rw [← c0]; exact World.cell?_alloc_past _ _ _ (by exact hg)
  have c1' : (w.alloc (.cells #[] 30)).cell? ⟨g, o + 1, none⟩ = some (.int .u8 x1) := by rw [← c1]; exact World.cell?_alloc_past _ _ _ (by exact hg)
  go_enter Yba.func6, Yba.ntmps6
  go_wp2
  go_quiet (fail)
  go_wp2
  have HO := or16 l0 h0 l1 h1
  go_ret
  exact ⟨by rw [← HO]; rfl, below_drewN ((Below.refl _ _).alloc (Nat.le_refl _) _) _⟩

set_option maxHeartbeats 400000 in
theorem length_short (a : Option Addr) (n c : Nat) (w : World) (hn : n < 4) :
    Calls Yba.prog 5 #[.slice a n c] w fun e w' => e = .returned (.int .u16 0) ∧ w' = w := by
  go_enter Yba.func5, Yba.ntmps5
  go_wp2
  go_ret
  exact ⟨rfl, rfl⟩

set_option maxHeartbeats 400000 in
theorem length_long (g o n c : Nat) (x0 x1 : Int) (w : World) (hn : 4 ≤ n) (hc : n ≤ c) (hm : c ≤ maxLen) (c0 : w.cell? ⟨g, o + 2, none⟩ = some (.int .u8 x0)) (c1 : w.cell? ⟨g, o + 2 + 1, none⟩ = some (.int .u8 x1))
    (l0 : 0 ≤ x0) (h0 : x0 ≤ 255) (l1 : 0 ≤ x1) (h1 : x1 ≤ 255) (hg : g < w.heap.size) :
    Calls Yba.prog 5 #[.slice (some ⟨g, o, none⟩) n c] w fun e w' => e = .returned (.int .u16 (x0 * 256 + x1)) ∧ Below w.heap.size w w' := by
  unfold maxLen at hm
  go_enter Yba.func5, Yba.ntmps5
  go_wp2
  go_region_with (go_at_call 6; refine (u16_any g (o + 2) 2 (c - 2) x0 x1 _ (by omega) (by exact c0) (by exact c1) l0 h0 l1 h1 (by exact hg)).mono ?_; rintro e w' ⟨rfl, hb⟩)
  all_goals (go_wp2; go_ret; exact ⟨rfl, ((Below.refl w.heap.size w).drew).trans hb⟩)
end Go.Proofs.Ybulkapis
