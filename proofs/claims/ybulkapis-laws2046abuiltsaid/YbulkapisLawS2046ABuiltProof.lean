/- A proof of 'Rows.LawS2046ABuiltSaid', typed into the shell that the seat gives. -/
import Derived.Test.YbulkapisRows
import Derived.WalkKit
import Derived.ProofKit
import Derived.OpenShut
import Derived.ShutString
import Derived.ChangeOld
import Derived.Below
import Derived.Test.YbulkapisWalk
namespace Go.Proofs.Ybulkapis.lawS2046ABuilt
open Go.ChangeShapes Go.WideShapes Go.ChangeAt Go.RowKit
open Go.ChangeMaps (open_string shut_string)
set_option linter.unusedVariables false

theorem own : ownKnob Yba.prog.godebug = none := by kernel_rfl
theorem laidOut : laidOutB Yba.prog = true := by kernel_rfl

/-- WHAT THE WALK IS TOLD OF A SLICE OF INTEGERS THAT CAME IN: it is nil; or it leads to a row of 'cap' cells, the numbers 'zs' (the first 'len' are its elements, the rest its spare room), each fitting its kind. -/
def IsRow (k : IntKind) (w : World) (a : Option Addr) (len cap : Nat) (zs : List Int) : Prop :=
  (a = none ∧ len = 0 ∧ cap = 0 ∧ zs = []) ∨
  ∃ x, a = some x ∧ len ≤ cap ∧ cap ≤ maxLen ∧ zs.length = cap ∧ (∀ i, i < zs.length → w.cell? (x.add i) = some (.int k (zs.getD i 0))) ∧ ∀ n ∈ zs, (Lit.int k n).wf = true

/-! ### STEP 1: THE WALK -/
theorem info5 : (Yba.prog.info? 5).map (fun i => (i.zero, i.size, i.bytes)) = some (some (.int .u8 0), 1, 1) := by kernel_rfl

theorem four_cells (w : World) (v0 v1 v2 v3 : Value) (j : Nat) (u : Value) (h : [v0, v1, v2, v3][j]? = some u) :
    (w.alloc (.cells #[v0, v1, v2, v3] 5)).cell? ((⟨w.heap.size, 0, none⟩ : Addr).add j) = some u := by
  match j, h with
  | 0, h => simp at h; subst h; simp [Addr.add]
  | 1, h => simp at h; subst h; simp [Addr.add]
  | 2, h => simp at h; subst h; simp [Addr.add]
  | 3, h => simp at h; subst h; simp [Addr.add]
  | j + 4, h => simp at h

theorem row_cells {w w' : World} {a : Option Addr} {len cap : Nat} {zs : List Int} (h : IsRow .u8 w a len cap zs) (hb : Below w.heap.size w w') :
    (a = none → len = 0 ∧ cap = 0) ∧ ((zs.take len).map (Value.int .u8)).length = len ∧ ∀ ad, a = some ad → ∀ j u, ((zs.take len).map (Value.int .u8))[j]? = some u → w'.cell? (ad.add j) = some u := by
  rcases h with ⟨rfl, rfl, rfl, rfl⟩ | ⟨x, rfl, hl, hm, hz, hcell, _⟩
  · exact ⟨fun _ => ⟨rfl, rfl⟩, rfl, fun ad h => by cases h⟩
  · refine ⟨fun h => (by cases h), (by simp; omega), ?_⟩
    intro ad had j u hu
    obtain rfl := Option.some.inj had
    have hj : j < ((zs.take len).map (Value.int .u8)).length := (List.getElem?_eq_some_iff.1 hu).1
    have hj' : j < len := by simp at hj; omega
    have hc := hcell j (by omega)
    rw [hb.cell (by exact block_lt_of_cell hc), hc]
    rw [← hu]
    simp [hj', List.getD, show j < zs.length by omega]

theorem join16 {r : Int} : r / 256 * 256 + r % 256 = r := by omega

set_option maxHeartbeats 400000 in
theorem walk (a0 : Int) (a1 : Int) (a2 : Int) (a3 : Option Addr) (len3 cap3 : Nat) (z3 : List Int) (w : World) (w0 : (Lit.int .u8 a0).wf = true) (w1 : (Lit.int .u8 a1).wf = true) (w2 : (Lit.int .u16 a2).wf = true) (w3 : IsRow .u8 w a3 len3 cap3 z3) :
    Calls Yba.prog 4 #[.int .u8 a0, .int .u8 a1, .int .u16 a2, .slice a3 len3 cap3] w fun e w' => e = .returned (.bool true) ∧ Below w.heap.size w w' := by
  by_cases hbig : 4096 < len3
  · go_enter Yba.func4, Yba.ntmps4
    go_wp2
    go_ret
    exact ⟨rfl, Below.refl _ _⟩
  obtain ⟨i0, hi, hz0, hz1, hz2⟩ := info_parts info5
  obtain ⟨l0, u0⟩ := bounds_u8 w0
  obtain ⟨l1, u1⟩ := bounds_u8 w1
  obtain ⟨l2, u2⟩ := bounds_u16 w2
  clear w0 w1 w2
  go_enter Yba.func4, Yba.ntmps4
  go_wp2_with (at_make; refine wpList_make_own _ rfl _ _ 22 rfl w.heap.size 5 i0 (.int .u8 0) 1 Yba.underlying22 hi hz0 hz1 _ _ _ (4 + len3) rfl rfl (by omega) ?b2 ?b3 (Nat.le_refl _) ?_)
  case b2 => rw [hz2]; omega
  case b3 => unfold maxLen; omega
  intro wa hown0 hgrow0
  have hba : Below w.heap.size w wa := (Below.refl _ _).grown hgrow0 (Nat.le_refl _) (fun k h => by cases h)
  go_wp2_with (at_builtin; refine wpList_append_fits _ rfl (.tmp 17) (.tmp 25) 22 rfl w.heap.size 5 i0 1 Yba.underlying22 hi hz1 w.heap.size 0 (4 + len3) [] rfl (hown0.alloc _) ⟨wa.heap.size, 0, none⟩ 4 4 [.int .u8 a0, .int .u8 a1, .int .u8 (a2 / 256), .int .u8 (a2 % 256)] rfl rfl (four_cells wa _ _ _ _) (by simp [Value.oneCell']) (by omega) ?_)
  intro wb hown1 hgrow1
  have hbb : Below w.heap.size w wb := (hba.alloc hba.size _).grown hgrow1 (by simp; have := hba.size; omega) (fun k hk => by cases hk; exact Nat.le_refl _)
  obtain ⟨r1, r2, r3⟩ := row_cells w3 hbb
  go_wp2_with (at_builtin; refine wpList_append_fits_any _ rfl (.tmp 27) (.tmp 28) 22 rfl w.heap.size 5 i0 1 Yba.underlying22 hi hz1 w.heap.size 4 (4 + len3) _ rfl hown1 a3 len3 cap3 ((z3.take len3).map (Value.int .u8)) rfl (by rw [r2, Nat.mul_one]) r1 r3 (ints_oneCell _ _) (by omega) ?_)
  intro wc hown2 hgrow2
  have hbc : Below w.heap.size w wc := hbb.grown hgrow2 hbb.size (fun k hk => by cases hk; exact Nat.le_refl _)
  have d2 : wc.cell? ⟨w.heap.size, 0 + 2, none⟩ = some (.int .u8 (a2 / 256)) := by rw [Nat.zero_add, hown2.cellAt 2 (by omega)]; rfl
  have d3 : wc.cell? ⟨w.heap.size, 0 + 2 + 1, none⟩ = some (.int .u8 (a2 % 256)) := by rw [Nat.zero_add, hown2.cellAt 3 (by omega)]; rfl
  have hgs : w.heap.size < wc.heap.size := block_lt_of_cell d2
  clear hown0 hgrow0 hown1 hgrow1 hown2 hgrow2 r1 r2 r3 w3 hba hbb
  go_wp2_with fail
  refine (length_long w.heap.size 0 (4 + len3) (4 + len3) (a2 / 256) (a2 % 256) wc (by omega) (Nat.le_refl _) (by unfold maxLen; omega) d2 d3 (by omega) (by omega) (by omega) (by omega) hgs).mono ?_
  rintro e wd ⟨rfl, hbd⟩
  rw [join16]
  go_wp2_with fail
  refine (length_short _ 3 (4 + len3) wd (by omega)).mono ?_
  rintro e we ⟨rfl, rfl⟩
  go_wp2
  go_ret
  exact ⟨rfl, hbc.trans (hbd.mono hbc.size)⟩

/-! ### THE ROW's STEP: WRITTEN OUT: LEAVE IT -/
set_option maxRecDepth 100000 in
theorem lifted (os : Os) (started : os.Started) (H : Type) (enc : TypeId × Value → H) :
    ReturnsInHanded {} Yba.checked os 4 .any (Rows.lawS2046ABuiltSpec.pre6 enc Yba.prog Yba.f4 Rows.lawS2046ABuiltRow.domain false) (Rows.lawS2046ABuiltSpec.post enc Yba.prog Yba.f4 false true false false) := by
  refine returnsInHanded_of_change (C := Yba.checked) own started (by kernel_rfl) Yba.func4
    (ChangeSpec.witness6 (enc := enc) (C := Yba.checked) false ⟨#[], #[.int .u8 0, .int .u8 0, .int .u16 0, .slice none 0 0], []⟩ 8 (by kernel_rfl) (by kernel_rfl) (by kernel_rfl) (by kernel_rfl)) ?_
  intro W base args ds gs before hval0 hW hcnd _
  have hval : ∀ (j : Nat) t v, Yba.f4.params[j]? = some t → args[j]? = some v → Value.okWide Yba.prog W .any base t v := hval0
  have hW' := hW
  obtain ⟨p, q, hA0, hV, rfl, hfz, hnd⟩ := hW
  have hA : DataW.TrodAll enc Yba.prog W 0 (fun _ => true) true Yba.f4.params.toList args.toList ds p := hA0
  rw [Yba.params4] at hA hval
  obtain ⟨v0, vs0, d0, ds0, p0, q0, hargs, rfl, rfl, h0, r0⟩ := trodAll_cons hA
  obtain ⟨v1, vs1, d1, ds1, p1, q1, rfl, rfl, rfl, h1, r1⟩ := trodAll_cons r0
  obtain ⟨v2, vs2, d2, ds2, p2, q2, rfl, rfl, rfl, h2, r2⟩ := trodAll_cons r1
  obtain ⟨v3, vs3, d3, ds3, p3, q3, rfl, rfl, rfl, h3, r3⟩ := trodAll_cons r2
  obtain ⟨rfl, rfl, rfl⟩ := trodAll_nil r3
  obtain rfl : args = #[v0, v1, v2, v3] := by cases args; simp_all
  obtain ⟨rfl, rfl⟩ := trodVars_none hV
  obtain ⟨a0, rfl, rfl, rfl, w0⟩ := open_int Yba.underlying5 (hval 0 5 v0 rfl rfl) h0
  obtain ⟨a1, rfl, rfl, rfl, w1⟩ := open_int Yba.underlying5 (hval 1 5 v1 rfl rfl) h1
  obtain ⟨a2, rfl, rfl, rfl, w2⟩ := open_int Yba.underlying23 (hval 2 23 v2 rfl rfl) h2
  obtain ⟨a3, len3, cap3, rfl⟩ := okWide_slice Yba.underlying22 (hval 3 22 v3 rfl rfl)
  have k3 := h3
  have lt3 : ∀ x ∈ p3, x.block < W.heap.size := by obtain ⟨m, hm⟩ := k3; exact DataW.trod_lt m _ _ _ hm
  obtain ⟨z3, w3⟩ : ∃ zs, IsRow .u8 W a3 len3 cap3 zs := by
    obtain ⟨fuel, hf⟩ := h3
    rcases open_ints Yba.underlying22 Yba.underlying5 (by kernel_rfl) hf with ⟨hcs, _⟩ | ⟨x, l, c, zs, hcs, _, hl, hm, hz, _, hcell, hwz⟩
    · simp [Value.cells] at hcs
      obtain ⟨rfl, rfl, rfl⟩ := hcs
      exact ⟨[], .inl ⟨rfl, rfl, rfl, rfl⟩⟩
    · simp [Value.cells] at hcs
      obtain ⟨rfl, rfl, rfl⟩ := hcs
      exact ⟨zs, .inr ⟨_, rfl, hl, hm, by simpa using hz, hcell, hwz⟩⟩
  clear hA0 hval0
  refine (walk a0 a1 a2 a3 len3 cap3 z3 W w0 w1 w2 w3).mono fun e W' ⟨he, bel⟩ => ?_
  subst he
  exact ⟨_, rfl, _, _, _, [], _, [], hW', trodAll_mk1 (shut_bool Yba.underlying4 _), (trodAll_cons_mk (shut_int Yba.underlying5 w0) (trodAll_cons_mk (shut_int Yba.underlying5 w1) (trodAll_cons_mk (shut_int Yba.underlying23 w2) (trodAll_cons_mk (Below.trod laidOut (by kernel_rfl) (of_decide_eq_true (by kernel_rfl)) k3 bel lt3) trodAll_mk0)))), rfl, bel.frame _, fun h => by cases h⟩

theorem over : Rows.lawS2046ABuiltRow.holds Yba.pinned (OpenSpec.ofChange Rows.lawS2046ABuiltSpec) :=
  OpenClaim.holds_of_wide 4 Yba.f4 rfl rfl rfl rfl rfl rfl rfl ⟨rfl, rfl, rfl, rfl, rfl⟩ rfl rfl rfl rfl rfl (by kernel_rfl) Yba.func4 (by kernel_rfl)
    (of_decide_eq_true (by kernel_rfl)) (by unfold Func.isWrapper; first | (rw [if_pos (by decide +kernel)]; kernel_rfl) | (rw [if_neg (by decide +kernel)]; exact ⟨rfl, rfl⟩))
    (fun os started H enc _ => lifted os started H enc)

/-- ████ THE STATEMENT ████ -/
theorem proved : Rows.LawS2046ABuiltSaid := over
end Go.Proofs.Ybulkapis.lawS2046ABuilt
