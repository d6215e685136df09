/- A proof of 'Rows.LawS2048CDoneSaid', typed into the shell that the seat gives. -/
import Derived.Test.YbulkapjuRows
import Derived.WalkKit
import Derived.ProofKit
import Derived.OpenShut
import Derived.ShutString
import Derived.Test.YbulkapjuWalk
namespace Go.Proofs.Ybulkapju.lawS2048CDone
open Go.ChangeShapes Go.WideShapes Go.ChangeAt Go.RowKit
open Go.ChangeMaps (open_string shut_string)
set_option linter.unusedVariables false      -- a walk need not use every 'w<i>' (that an integer argument fits its kind)

theorem own : ownKnob Yba.prog.godebug = none := by kernel_rfl

/-! ### STEP 1: THE WALK -/
set_option maxHeartbeats 400000 in
theorem walk_ff (a0 : Int) (a3 : Int) (l3 : 0 ≤ a3) (u3 : a3 ≤ 255) (w : World) :
    Calls Yba.prog 3 #[.int .i64 a0, .bool false, .bool false, .int .u8 a3] w fun e w' => e = .returned (.bool true) ∧ Grown w w' := by
  go_enter Yba.func3, Yba.ntmps3
  go_wp2_with fail
  go_loop [13] (fun i => ∃ n : Nat, (n : Int) ≤ a3 % 4 + 1 ∧ i = .int .i64 n) (fun i => 5 - (intOf i).toNat)
  case atStart => exact ⟨0, by omega, rfl⟩
  case round =>
    obtain ⟨n, hn, rfl⟩ := hrel
    by_cases hlt : (n : Int) < a3 % 4 + 1
    · go_wp2_with (go_at_call 5; refine (done_none (w.heap.size + 1 + 1) _ (by go_simp)).mono ?_; rintro e w' ⟨rfl, rfl⟩)
      go_round
      case rel => exact ⟨n + 1, by omega, by go_num⟩
      case measure => simp [intOf]; omega
    · go_wp2
      go_ret
      exact ⟨rfl, by repeat (first | exact Grown.refl _ | apply Grown.drew | apply Grown.alloc)⟩

set_option maxHeartbeats 400000 in
theorem walk_ft (a0 : Int) (a3 : Int) (l3 : 0 ≤ a3) (u3 : a3 ≤ 255) (w : World) :
    Calls Yba.prog 3 #[.int .i64 a0, .bool false, .bool true, .int .u8 a3] w fun e w' => e = .returned (.bool true) ∧ Grown w w' := by
  go_enter Yba.func3, Yba.ntmps3
  go_wp2_with fail
  go_loop [13] (fun i => ∃ n : Nat, (n : Int) ≤ a3 % 4 + 1 ∧ i = .int .i64 n) (fun i => 5 - (intOf i).toNat)
  case atStart => exact ⟨0, by omega, rfl⟩
  case round =>
    obtain ⟨n, hn, rfl⟩ := hrel
    by_cases hlt : (n : Int) < a3 % 4 + 1
    · go_wp2_with (go_at_call 5; refine (done_none (w.heap.size + 1 + 1) _ (by go_simp)).mono ?_; rintro e w' ⟨rfl, rfl⟩)
      go_round
      case rel => exact ⟨n + 1, by omega, by go_num⟩
      case measure => simp [intOf]; omega
    · go_wp2
      go_ret
      exact ⟨rfl, by repeat (first | exact Grown.refl _ | apply Grown.drew | apply Grown.alloc)⟩

set_option maxHeartbeats 400000 in
theorem walk_tf (a0 : Int) (a3 : Int) (l3 : 0 ≤ a3) (u3 : a3 ≤ 255) (w : World) :
    Calls Yba.prog 3 #[.int .i64 a0, .bool true, .bool false, .int .u8 a3] w fun e w' => e = .returned (.bool true) ∧ Grown w w' := by
  go_enter Yba.func3, Yba.ntmps3
  go_wp2_with fail
  go_loopw [13] (fun i wr => ∃ n : Nat, (n : Int) ≤ a3 % 4 + 1 ∧ i = .int .i64 n ∧ wr = ((w.alloc (.cells #[.int .i64 n] 3)).alloc (.cells #[.int .i64 0] 24)).alloc (.cells #[.nilIface, .int .i64 a0, .nilIface, .nilFunc, .func (.func 4) #[] #[.pointer (some ⟨w.heap.size, 0, none⟩)]] 32)) (fun i _ => 5 - (intOf i).toNat)
  case atStart => exact ⟨0, by omega, rfl, rfl⟩
  case round =>
    obtain ⟨n, hn, rfl, rfl⟩ := hrel
    by_cases hlt : (n : Int) < a3 % 4 + 1
    · go_wp2_with (go_at_call 5; refine (done_some (w.heap.size + 1 + 1) w.heap.size n _ (by go_simp) (by go_simp) (by go_simp) (by omega) (by omega)).mono ?_; rintro e w' ⟨rfl, rfl⟩)
      go_roundw
      case rel => exact ⟨n + 1, by omega, by go_num, by go_simp⟩
      case measure => simp [intOf]; omega
    · go_wp2
      go_ret
      exact ⟨rfl, by repeat (first | exact Grown.refl _ | apply Grown.drew | apply Grown.alloc)⟩

set_option maxHeartbeats 400000 in
theorem walk_tt (a0 : Int) (a3 : Int) (l3 : 0 ≤ a3) (u3 : a3 ≤ 255) (w : World) :
    Calls Yba.prog 3 #[.int .i64 a0, .bool true, .bool true, .int .u8 a3] w fun e w' => e = .returned (.bool true) ∧ Grown w w' := by
  go_enter Yba.func3, Yba.ntmps3
  go_wp2_with fail
  go_loopw [13] (fun i wr => ∃ n : Nat, (n : Int) ≤ a3 % 4 + 1 ∧ i = .int .i64 n ∧ wr = ((w.alloc (.cells #[.int .i64 n] 3)).alloc (.cells #[.int .i64 0] 24)).alloc (.cells #[.nilIface, .int .i64 a0, .iface 22 (.pointer (some ⟨w.heap.size + 1, 0, none⟩)), .nilFunc, .func (.func 4) #[] #[.pointer (some ⟨w.heap.size, 0, none⟩)]] 32)) (fun i _ => 5 - (intOf i).toNat)
  case atStart => exact ⟨0, by omega, rfl, rfl⟩
  case round =>
    obtain ⟨n, hn, rfl, rfl⟩ := hrel
    by_cases hlt : (n : Int) < a3 % 4 + 1
    · go_wp2_with (go_at_call 5; refine (done_some (w.heap.size + 1 + 1) w.heap.size n _ (by go_simp) (by go_simp) (by go_simp) (by omega) (by omega)).mono ?_; rintro e w' ⟨rfl, rfl⟩)
      go_roundw
      case rel => exact ⟨n + 1, by omega, by go_num, by go_simp⟩
      case measure => simp [intOf]; omega
    · go_wp2
      go_ret
      exact ⟨rfl, by repeat (first | exact Grown.refl _ | apply Grown.drew | apply Grown.alloc)⟩

theorem walk (a0 : Int) (a1 : Bool) (a2 : Bool) (a3 : Int) (w0 : (Lit.int .i64 a0).wf = true) (w3 : (Lit.int .u8 a3).wf = true) (w : World) :
    Calls Yba.prog 3 #[.int .i64 a0, .bool a1, .bool a2, .int .u8 a3] w fun e w' => e = .returned (.bool true) ∧ Grown w w' := by
  obtain ⟨l3, u3⟩ := bounds_u8 w3
  match a1, a2 with
  | false, false => exact walk_ff a0 a3 l3 u3 w
  | false, true => exact walk_ft a0 a3 l3 u3 w
  | true, false => exact walk_tf a0 a3 l3 u3 w
  | true, true => exact walk_tt a0 a3 l3 u3 w

/-! ### THE ROW's STEP: WRITTEN OUT: LEAVE IT -/
set_option maxRecDepth 100000 in
theorem lifted (os : Os) (started : os.Started) (H : Type) (enc : TypeId × Value → H) :
    ReturnsInHanded {} Yba.checked os 3 .any (Rows.lawS2048CDoneSpec.pre6 enc Yba.prog Yba.f3 Rows.lawS2048CDoneRow.domain false) (Rows.lawS2048CDoneSpec.post enc Yba.prog Yba.f3 false true false false) := by
  refine returnsInHanded_of_change (C := Yba.checked) own started (by kernel_rfl) Yba.func3
    (ChangeSpec.witness6 (enc := enc) (C := Yba.checked) false ⟨#[], #[.int .i64 0, .bool false, .bool false, .int .u8 0], []⟩ 8 (by kernel_rfl) (by kernel_rfl) (by kernel_rfl) (by kernel_rfl)) ?_
  intro W base args ds gs before hval0 hW hcnd _
  have hval : ∀ (j : Nat) t v, Yba.f3.params[j]? = some t → args[j]? = some v → Value.okWide Yba.prog W .any base t v := hval0
  have hW' := hW
  obtain ⟨p, q, hA0, hV, rfl, hfz, hnd⟩ := hW
  have hA : DataW.TrodAll enc Yba.prog W 0 (fun _ => true) true Yba.f3.params.toList args.toList ds p := hA0
  rw [Yba.params3] at hA hval
  obtain ⟨v0, vs0, d0, ds0, p0, q0, hargs, rfl, rfl, h0, r0⟩ := trodAll_cons hA
  obtain ⟨v1, vs1, d1, ds1, p1, q1, rfl, rfl, rfl, h1, r1⟩ := trodAll_cons r0
  obtain ⟨v2, vs2, d2, ds2, p2, q2, rfl, rfl, rfl, h2, r2⟩ := trodAll_cons r1
  obtain ⟨v3, vs3, d3, ds3, p3, q3, rfl, rfl, rfl, h3, r3⟩ := trodAll_cons r2
  obtain ⟨rfl, rfl, rfl⟩ := trodAll_nil r3
  obtain rfl : args = #[v0, v1, v2, v3] := by cases args; simp_all
  obtain ⟨rfl, rfl⟩ := trodVars_none hV
  obtain ⟨a0, rfl, rfl, rfl, w0⟩ := open_int Yba.underlying2 (hval 0 2 v0 rfl rfl) h0
  obtain ⟨a1, rfl, rfl, rfl⟩ := open_bool Yba.underlying4 (hval 1 4 v1 rfl rfl) h1
  obtain ⟨a2, rfl, rfl, rfl⟩ := open_bool Yba.underlying4 (hval 2 4 v2 rfl rfl) h2
  obtain ⟨a3, rfl, rfl, rfl, w3⟩ := open_int Yba.underlying5 (hval 3 5 v3 rfl rfl) h3
  clear hA0 hval0
  simp only [List.append_nil] at hW'
  refine (walk a0 a1 a2 a3 w0 w3 W).mono fun e W' ⟨he, hg⟩ => ?_
  subst he
  exact ⟨_, rfl, post_of_same (pa := []) (pv := []) hW' (fun _ _ _ => (trodAll_cons_mk (shut_bool Yba.underlying4 _) trodAll_mk0)) (fun sp _ => (trodAll_cons_mk (shut_int Yba.underlying2 w0) (trodAll_cons_mk (shut_bool Yba.underlying4 _) (trodAll_cons_mk (shut_bool Yba.underlying4 _) (trodAll_cons_mk (shut_int Yba.underlying5 w3) trodAll_mk0))))) (fun _ _ => rfl) rfl
    (hg.frame _) hg.2.1 (ok_one (by kernel_rfl) rfl (okWide_bool_mk Yba.underlying4 _))⟩

theorem over : Rows.lawS2048CDoneRow.holds Yba.pinned (OpenSpec.ofChange Rows.lawS2048CDoneSpec) :=
  OpenClaim.holds_of_wide 3 Yba.f3 rfl rfl rfl rfl rfl rfl rfl ⟨rfl, rfl, rfl, rfl, rfl⟩ rfl rfl rfl rfl rfl (by kernel_rfl) Yba.func3 (by kernel_rfl)
    (of_decide_eq_true (by kernel_rfl)) (by unfold Func.isWrapper; first | (rw [if_pos (by decide +kernel)]; kernel_rfl) | (rw [if_neg (by decide +kernel)]; exact ⟨rfl, rfl⟩))
    (fun os started H enc _ => lifted os started H enc)

/-- ████ THE STATEMENT ████ -/
theorem proved : Rows.LawS2048CDoneSaid :=
  over
end Go.Proofs.Ybulkapju.lawS2048CDone
