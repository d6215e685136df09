/- '(*cancelCtx).clock' by its contract. -/
import Derived.Test.YbulkapgoRows
import Derived.WalkKit
import Derived.WalkSpells
import Derived.WalkLawsBesides
import Derived.Outline
import Derived.Deep.LoopGhost
import Derived.Test.YbulkapgoClockInv
namespace Go.Proofs.Ybulkapgo.clock
open Go.RowKit

theorem assert59 (v : Value) (w : World) : (Instr.typeAssert (.iface 59 v) 45 59 false).run Yba.prog w = .ok v w := by kernel_rfl

set_option maxHeartbeats 400000 in
theorem clock_nil (w : World) : Calls Yba.prog 6 #[.pointer none] w fun e w' => e = .returned (.pointer none) ∧ w' = w := by
  go_enter Yba.func6, Yba.ntmps6
  go_wp2
  refine wp_loop_rounds 1 ?_
  rw [rounds_succ]
  go_wp2
  go_ret
  exact ⟨rfl, rfl⟩

set_option maxRecDepth 100000 in
set_option maxHeartbeats 400000 in
theorem clock_any (B len : Nat) (ck : Int → Option Addr) (d : ND) (f : Nat → Nat) (w : World) (hpos : 0 < len) (h : Linked w B len ck d f) :
    Calls Yba.prog 6 #[.pointer (some ⟨f 0, 0, none⟩)] w fun e w' => e = .returned (.pointer (wantF ck d len 0)) ∧ w' = w := by
  have hta := assert59
  go_enter Yba.func6, Yba.ntmps6
  go_wp2
  go_loopg [3] len (fun gk p wr => ∃ j, j + gk = len ∧ wr = w ∧ p = .pointer (if j < len then some ⟨f j, 0, none⟩ else none) ∧ wantF ck d len 0 = wantF ck d gk j)
  case atStart => exact ⟨0, by omega, rfl, by simp [hpos], rfl⟩
  case round =>
    obtain ⟨j, hj, rfl, rfl, hw⟩ := hrel
    have HJ : Hid (j + gk = len) := hj
    have HW0 : Hid (wantF ck d len 0 = wantF ck d gk j) := hw
    clear hj hw
    by_cases hlt : j < len
    · have hn := h.node j hlt
      have hu := h.up j hlt
      have hk := hn.kind
      obtain ⟨n, rfl⟩ : ∃ n, gk = n + 1 := ⟨gk - 1, by have := HJ.out; omega⟩
      simp only [hlt, if_true]
      by_cases h3 : d.K j % 6 = 3
      · obtain ⟨g, g1, g2, g3, g4⟩ := hn.ctx h3
        have HW : Hid (wantF ck d len 0 = ck (d.PC j % 3)) := by rw [HW0.out]; exact wantF_clock h3
        rw [h3] at hk
        clear h hn hu h3 HW0
        go_wp2
        go_ret
        exact ⟨by rw [HW.out]; rfl, rfl⟩
      · have h3' : (d.K j % 6 == 3) = false := by simpa using h3
        cases hd : d.D j with
        | true =>
          obtain ⟨g, g1, g2, g3, g4⟩ := hn.dlyes hd
          have HW : Hid (wantF ck d len 0 = ck (d.DC j % 3)) := by rw [HW0.out]; exact wantF_dl h3 hd
          clear h hn hu h3 HW0 hd
          go_wp2
          go_ret
          exact ⟨by rw [HW.out]; rfl, rfl⟩
        | false =>
          have g3 := hn.dlno hd
          have HW : Hid (wantF ck d len 0 = wantF ck d n (j + 1)) := by rw [HW0.out]; exact wantF_on h3 hd
          clear hn h3 HW0 hd
          have H : Hid (Linked wr B len ck d f) := h
          clear h
          go_wp2
          all_goals
            go_roundg n
            case measure => omega
            case rel => exact ⟨j + 1, by have := HJ.out; omega, rfl, by first | rw [if_pos (by assumption)] | rw [if_neg (by assumption)], HW.out⟩
    · have HW : Hid (wantF ck d len 0 = none) := by
        have e : gk = 0 := by have := HJ.out; omega
        rw [HW0.out, e]; rfl
      simp only [hlt, if_false]
      clear h HW0
      go_wp2
      go_ret
      exact ⟨by rw [HW.out]; rfl, rfl⟩

end Go.Proofs.Ybulkapgo.clock
