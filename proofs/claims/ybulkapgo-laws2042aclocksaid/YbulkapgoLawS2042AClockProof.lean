/- A proof of 'Rows.LawS2042AClockSaid', after the shell that its sister statements have. -/
import Derived.Test.YbulkapgoRows
import Derived.WalkKit
import Derived.ProofKit
import Derived.OpenShut
import Derived.ShutString
import Derived.ChangeOld
import Derived.Below
import Derived.Deep.Slices
import Derived.Test.YbulkapgoClockWalk
namespace Go.Proofs.Ybulkapgo.lawS2042AClock
open Go.ChangeShapes Go.WideShapes Go.ChangeAt Go.RowKit
open Go.ChangeMaps (open_string shut_string)
set_option linter.unusedVariables false

theorem own : ownKnob Yba.prog.godebug = none := by kernel_rfl
theorem laidOut : laidOutB Yba.prog = true := by kernel_rfl

open Go.Proofs.Ybulkapgo.clock

/-- WHAT THE WALK IS TOLD OF THE NODES: none, or they lie in a row. -/
def IsRow (w : World) (a : Option Addr) (len : Nat) : Prop :=
  len = 0 ∨ ∃ b off d, a = some ⟨b, off, none⟩ ∧ Came w b off len d

theorem cells22 : Yba.prog.cellsOf 41 = 4 := by kernel_rfl
theorem cells5 : Yba.prog.cellsOf 5 = 1 := by kernel_rfl
theorem cells4 : Yba.prog.cellsOf 4 = 1 := by kernel_rfl

theorem rows_of {H : Type} {enc : TypeId × Value → H} {w : World} {base : Nat} {spare : Nat → Bool} {held : Bool} {a : Option Addr} {len cap : Nat} {x : DataW H} {p : List MemPlace}
    (h : DataW.Trod enc Yba.prog w base spare held 22 (.slice a len cap) x p) : IsRow w a len := by
  obtain ⟨fuel, hf⟩ := h
  rcases Go.Deep.open_slice Yba.underlying22 hf with ⟨hcs, _⟩ | ⟨x, l, c, m, n, D, Pl, hcs, _, hl, _, hm, _, hx⟩
  · simp [Value.cells] at hcs
    exact .inl hcs.2.1
  · simp [Value.cells] at hcs
    obtain ⟨rfl, rfl, rfl⟩ := hcs
    by_cases hz : len = 0
    · exact .inl hz
    right
    have hlm : len ≤ m := by rw [hm]; split <;> omega
    have each : ∀ i, i < m → ∃ q : Int × Bool × Int × Int, (w.cell? (x.add (i * 4)) = some (.int .u8 q.1) ∧ w.cell? (x.add (i * 4 + 1)) = some (.bool q.2.1) ∧ w.cell? (x.add (i * 4 + 2)) = some (.int .u8 q.2.2.1) ∧ w.cell? (x.add (i * 4 + 3)) = some (.int .u8 q.2.2.2)) ∧
        (0 ≤ q.1 ∧ q.1 ≤ 255) ∧ (0 ≤ q.2.2.1 ∧ q.2.2.1 ≤ 255) ∧ (0 ≤ q.2.2.2 ∧ q.2.2.2 ≤ 255) := by
      intro i hi
      obtain ⟨cs', h1, h2⟩ := hx i hi
      rw [cells22] at h1
      obtain ⟨_, hlen, hcell⟩ := World.cells?_some h1
      obtain ⟨xs, k, hk, hxy, _, hxl, hf⟩ := DataW.trod_struct Yba.underlying41 h2
      match xs, hxl, cs', hlen with
      | [y0, y1, y2, y3], _, [v0, v1, v2, v3], _ =>
        have g0 := hf 0 _ rfl
        have g1 := hf 1 _ rfl
        have g2 := hf 2 _ rfl
        have g3 := hf 3 _ rfl
        simp [cells5, cells4] at g0 g1 g2 g3
        obtain ⟨n0, e0, _, b0⟩ := DataW.trod_int Yba.underlying5 g0
        obtain ⟨n1, e1, _⟩ := DataW.trod_bool Yba.underlying4 g1
        obtain ⟨n2, e2, _, b2⟩ := DataW.trod_int Yba.underlying5 g2
        obtain ⟨n3, e3, _, b3⟩ := DataW.trod_int Yba.underlying5 g3
        simp at e0 e1 e2 e3
        subst e0 e1 e2 e3
        have c0 := hcell 0 (by omega)
        have c1 := hcell 1 (by omega)
        have c2 := hcell 2 (by omega)
        have c3 := hcell 3 (by omega)
        rw [Go.Deep.add_add] at c0 c1 c2 c3
        exact ⟨(n0, n1, n2, n3), ⟨c0, c1, c2, c3⟩, bounds_u8 b0, bounds_u8 b2, bounds_u8 b3⟩
    obtain ⟨q, hq⟩ := Go.Deep.choose_lt each
    obtain ⟨b, off, spot⟩ := x
    have hspot : spot = none := by simpa [Addr.add] using World.cell?_spot (hq 0 (by omega)).1.1
    subst hspot
    have hadd : ∀ j, (⟨b, off, none⟩ : Addr).add j = ⟨b, off + j, none⟩ := fun j => Addr.add_lit ..
    simp only [hadd] at hq
    refine ⟨b, off, ⟨fun i => (q i).1, fun i => (q i).2.1, fun i => (q i).2.2.1, fun i => (q i).2.2.2⟩, rfl, ?_⟩
    exact ⟨block_lt_of_cell (hq 0 (by omega)).1.1, fun j hj => (hq j (by omega)).1.1, fun j hj => (hq j (by omega)).1.2.1, fun j hj => (hq j (by omega)).1.2.2.1, fun j hj => (hq j (by omega)).1.2.2.2,
      fun j hj => (hq j (by omega)).2.1, fun j hj => (hq j (by omega)).2.2.1, fun j hj => (hq j (by omega)).2.2.2⟩

theorem walk (a0 : Option Addr) (len0 cap0 : Nat) (w : World) (w0 : IsRow w a0 len0) :
    Calls Yba.prog 3 #[.slice a0 len0 cap0] w fun e w' => e = .returned (.bool true) ∧ Below w.heap.size w w' := by
  by_cases hbig : 1024 < len0
  · exact walk_big a0 len0 cap0 w hbig
  by_cases hz : len0 = 0
  · subst hz
    exact walk_empty a0 cap0 w
  · rcases w0 with h | ⟨b, off, d, rfl, hc⟩
    · exact absurd h hz
    · exact walk_some b off len0 cap0 d w (by omega) (by omega) hc

/-! ### THE ROW's STEP: WRITTEN OUT: LEAVE IT -/
set_option maxRecDepth 100000 in
theorem lifted (os : Os) (started : os.Started) (H : Type) (enc : TypeId × Value → H) :
    ReturnsInHanded {} Yba.checked os 3 .any (Rows.lawS2042AClockSpec.pre6 enc Yba.prog Yba.f3 Rows.lawS2042AClockRow.domain false) (Rows.lawS2042AClockSpec.post enc Yba.prog Yba.f3 false true false false) := by
  refine returnsInHanded_of_change (C := Yba.checked) own started (by kernel_rfl) Yba.func3
    (ChangeSpec.witness6 (enc := enc) (C := Yba.checked) false ⟨#[], #[.slice none 0 0], []⟩ 8 (by kernel_rfl) (by kernel_rfl) (by kernel_rfl) (by kernel_rfl)) ?_
  intro W base args ds gs before hval0 hW hcnd _
  have hval : ∀ (j : Nat) t v, Yba.f3.params[j]? = some t → args[j]? = some v → Value.okWide Yba.prog W .any base t v := hval0
  have hW' := hW
  obtain ⟨p, q, hA0, hV, rfl, hfz, hnd⟩ := hW
  have hA : DataW.TrodAll enc Yba.prog W 0 (fun _ => true) true Yba.f3.params.toList args.toList ds p := hA0
  rw [Yba.params3] at hA hval
  obtain ⟨v0, vs0, d0, ds0, p0, q0, hargs, rfl, rfl, h0, r0⟩ := trodAll_cons hA
  obtain ⟨rfl, rfl, rfl⟩ := trodAll_nil r0
  obtain rfl : args = #[v0] := by cases args; simp_all
  obtain ⟨rfl, rfl⟩ := trodVars_none hV
  obtain ⟨a0, len0, cap0, rfl⟩ := okWide_slice Yba.underlying22 (hval 0 22 v0 rfl rfl)
  have k0 := h0
  have lt0 : ∀ x ∈ p0, x.block < W.heap.size := by obtain ⟨m, hm⟩ := k0; exact DataW.trod_lt m _ _ _ hm
  have w0 := rows_of h0
  clear hA0 hval0
  refine (walk a0 len0 cap0 W w0).mono fun e W' ⟨he, bel⟩ => ?_
  subst he
  exact ⟨_, rfl, _, _, _, [], _, [], hW', trodAll_mk1 (shut_bool Yba.underlying4 _), (trodAll_cons_mk (Below.trod laidOut (by kernel_rfl) (of_decide_eq_true (by kernel_rfl)) k0 bel lt0) trodAll_mk0), rfl, bel.frame _, fun h => by cases h⟩

theorem over : Rows.lawS2042AClockRow.holds Yba.pinned (OpenSpec.ofChange Rows.lawS2042AClockSpec) :=
  OpenClaim.holds_of_wide 3 Yba.f3 rfl rfl rfl rfl rfl rfl rfl ⟨rfl, rfl, rfl, rfl, rfl⟩ rfl rfl rfl rfl rfl (by kernel_rfl) Yba.func3 (by kernel_rfl)
    (of_decide_eq_true (by kernel_rfl)) (by unfold Func.isWrapper; first | (rw [if_pos (by decide +kernel)]; kernel_rfl) | (rw [if_neg (by decide +kernel)]; exact ⟨rfl, rfl⟩))
    (fun os started H enc _ => lifted os started H enc)

/-- ████ THE STATEMENT ████ -/
theorem proved : Rows.LawS2042AClockSaid := over
end Go.Proofs.Ybulkapgo.lawS2042AClock
