/- 'zzs2047bless' and 'zzs2047bcheck' by their contracts. -/
import Derived.Test.YbulkapjgFmtPlace
namespace Go.Proofs.YbulkapjgFmt
open Go.RowKit Plain

set_option maxRecDepth 100000 in
set_option maxHeartbeats 1000000 in
theorem less_true (a b k : Nat) (A B : Nat → Nat) (w : World) (hk : k ≤ 4000) (ha : ∀ i, i < k → w.cell? ⟨a, i, none⟩ = some (num (A i))) (hb : ∀ i, i < k → w.cell? ⟨b, i, none⟩ = some (num (B i)))
    (hle : ∀ i, i < k → A i ≤ B i) (hlt : ∃ i, i < k ∧ A i < B i) :
    Calls Ybaf.prog 18 #[.slice (some ⟨a, 0, none⟩) k k, .slice (some ⟨b, 0, none⟩) k k] w fun e w' => e = .returned (.bool true) ∧ ∃ q, w' = w.drewN q := by
  have HA : Hid (∀ i, i < k → w.cell? ⟨a, i, none⟩ = some (num (A i))) := ha
  have HB : Hid (∀ i, i < k → w.cell? ⟨b, i, none⟩ = some (num (B i))) := hb
  have HLE : Hid (∀ i, i < k → A i ≤ B i) := hle
  have HLT : Hid (∃ i, i < k ∧ A i < B i) := hlt
  clear ha hb hle hlt
  go_enter Ybaf.func18, Ybaf.ntmps18
  go_wp2
  go_loopw [5] (fun s wr => ∃ i q : Nat, i ≤ k ∧ s = .int .i64 i ∧ wr = w.drewN q ∧ ∀ p, p < i → A p = B p) (fun s _ => k - (intOf s).toNat)
  case atStart => exact ⟨0, 0, Nat.zero_le _, rfl, rfl, fun p h => by omega⟩
  case round =>
    obtain ⟨i, q, hik, rfl, rfl, heq⟩ := hrel
    have HEQ : Hid (∀ p, p < i → A p = B p) := heq
    clear heq
    by_cases hlt : i < k
    · obtain ⟨x, hx⟩ : ∃ x, x = A i := ⟨_, rfl⟩
      obtain ⟨y, hy⟩ : ∃ y, y = B i := ⟨_, rfl⟩
      have hcx : w.cell? ⟨a, i, none⟩ = some (.int .i64 x) := by rw [hx]; exact HA.out i hlt
      have hcy : w.cell? ⟨b, i, none⟩ = some (.int .i64 y) := by rw [hy]; exact HB.out i hlt
      have hxy : x ≤ y := by rw [hx, hy]; exact HLE.out i hlt
      have HXY : Hid (x = A i ∧ y = B i) := ⟨hx, hy⟩
      clear hx hy
      have hI : (i : Int) < (k : Int) := by omega
      by_cases e : x = y
      · have hne : ((x : Int) != (y : Int)) = false := by rw [e]; simp
        have HE : Hid (x = y) := e
        clear e
        go_wp2
        go_quiet (fail)
        go_wp2
        go_roundw
        case rel => exact ⟨i + 1, _, by omega, by go_num, rfl, fun p hp => by
          by_cases e : p = i
          · subst e; rw [← HXY.out.1, ← HXY.out.2]; exact HE.out
          · exact HEQ.out p (by omega)⟩
        case measure => simp [intOf]; omega
      · have hne : ((x : Int) != (y : Int)) = true := by simp only [bne_iff_ne, ne_eq]; omega
        have hlt2 : (x : Int) < (y : Int) := by omega
        clear e
        go_wp2
        go_quiet (fail)
        go_wp2
        go_quiet (fail)
        go_wp2
        go_ret
        exact ⟨rfl, _, by rw [World.drewN_drewN, World.drewN_drewN]⟩
    · obtain ⟨p, hp, hpl⟩ := HLT.out
      have := HEQ.out p (by omega)
      omega

/-- The copies ahead of placement j. -/
def totAt (c : Nat) (R : List Nat) (j : Nat) : Nat := if j < R.length then row R j else c

theorem totAt_zero {c n : Nat} {E : Nat → Nat} {R : List Nat} (h : Plain.Rows c n E R) : totAt c R 0 = 0 := by
  unfold totAt; rw [if_pos h.pos, h.row_zero]

theorem totAt_succ {c n : Nat} {E : Nat → Nat} {R : List Nat} (h : Plain.Rows c n E R) {j : Nat} (hj : j < R.length) : totAt c R (j + 1) = totAt c R j + copies c R j ∧ totAt c R j + copies c R j ≤ c ∧ 1 ≤ copies c R j := by
  have h1 := h.copies_pos hj
  have h2 := h.next_gt hj
  unfold totAt
  rw [if_pos hj]
  refine ⟨?_, by omega, h1.1⟩
  by_cases e : j + 1 < R.length
  · rw [if_pos e, h.row_next e]; omega
  · rw [if_neg e, next_last e] at *; omega

theorem load_arr {wr : World} {Ld q col c n k j lv cp N : Nat} {E : Nat → Nat} {R : List Nat} (h : Arr wr Ld 2 n n (fun i => num (Plain.load c n E R k j col i))) (hq : q = node c n E R j col) (hlv : lv = Plain.load c n E R k j col q) (hcp : cp = copies c R j) :
    Arr ((wr.drewN N).setCell ⟨Ld, q, none⟩ (.int .i64 ((lv : Int) + (cp : Int)))) Ld 2 n n (fun i => num (Plain.load c n E R k j (col + 1) i)) := by
  have h' : Arr (wr.drewN N) Ld 2 n n (fun i => num (Plain.load c n E R k j col i)) := h
  refine (h'.set q _).congr (fun i _ => ?_)
  rw [load_succ, ← hq]
  by_cases e : i = q
  · subst e
    simp only [if_true, hlv, hcp]
    unfold num
    congr 1
  · simp only [e, if_false, show ¬ q = i from fun e' => e e'.symm, Nat.add_zero]

theorem grown_draw {wB wr : World} {g q N : Nat} (h : wB.grownBy wr (some g)) (v : Value) : wB.grownBy ((wr.drewN N).setCell ⟨g, q, none⟩ v) (some g) := by
  refine ⟨h.os, h.tape, h.output, by simpa using h.size, fun m hm hne => ?_⟩
  rw [Below.heap_setCell _ _ _ _ (by intro e; exact hne (by rw [e]))]
  exact h.block m hm hne

set_option maxHeartbeats 400000 in
theorem check_nil (bb n k : Nat) (w : World) (hn : n ≤ 2000) :
    Calls Ybaf.prog 9 #[.slice none 0 0, .slice (some ⟨bb, 0, none⟩) n n, .int .i64 k] w fun e w' => e = .returned (.tuple #[.int .i64 0, .bool true]) ∧ Below w.heap.size w w' := by
  have hmk := run_make_row' (P := Ybaf.prog) 23 2 (.int .i64 0) 8 Ybaf.underlying23 info2 rfl .i64 .i64 n (by omega) (by omega)
  go_enter Ybaf.func9, Ybaf.ntmps9
  go_wp2
  refine wp_loop_rounds 1 ?_
  rw [rounds_succ]
  go_wp2
  go_ret2
  exact ⟨rfl, (Below.refl _ _).alloc (Nat.le_refl _) _⟩

set_option maxRecDepth 100000 in
set_option maxHeartbeats 1000000 in
theorem check_some (Pb bb n k c : Nat) (V : Nat → Nat) (E b : Nat → Nat) (R : List Nat) (w : World) (hn : n ≤ 2000) (hk : k ≤ 4000) (hc : c ≤ 9223372036854775807) (hm : R.length ≤ n + 1)
    (hF : Filled c k n E b) (hR : Plain.Rows c n E R) (hL : Laid w Pb V c k n E R R.length) (hb : Arr w bb 2 n n (fun i => num (b i))) (hbb : ∀ i, i < n → b i ≤ 9223372036854775807) :
    Calls Ybaf.prog 9 #[.slice (some ⟨Pb, 0, none⟩) R.length R.length, .slice (some ⟨bb, 0, none⟩) n n, .int .i64 k] w fun e w' => e = .returned (.tuple #[.int .i64 c, .bool true]) ∧ Below w.heap.size w w' := by
  have hmk := run_make_row' (P := Ybaf.prog) 23 2 (.int .i64 0) 8 Ybaf.underlying23 info2 rfl .i64 .i64 n (by omega) (by omega)
  have HA : Hid (Filled c k n E b ∧ Plain.Rows c n E R ∧ Laid w Pb V c k n E R R.length ∧ Arr w bb 2 n n (fun i => num (b i)) ∧ (∀ i, i < n → b i ≤ 9223372036854775807)) := ⟨hF, hR, hL, hb, hbb⟩
  obtain ⟨m, hml⟩ : ∃ m, R.length = m := ⟨_, rfl⟩
  rw [hml]
  have hm2 : m ≤ n + 1 := by omega
  have HML : Hid (R.length = m) := hml
  have hPl : Pb < w.heap.size := block_lt_of_cell (hL.cnum 0 hR.pos)
  have hbl := hb.lt
  clear hF hR hL hb hbb hm hml
  go_enter Ybaf.func9, Ybaf.ntmps9
  go_wp2
  go_loopw [10, 21] (fun t s wr => ∃ j : Nat, j ≤ m ∧ s = .int .i64 j ∧ t = .int .i64 (totAt c R j : Nat) ∧ Below w.heap.size w wr ∧ w.heap.size < wr.heap.size ∧ Arr wr w.heap.size 2 n n (fun i => num (base c n E R k j i))) (fun _ s _ => m - (intOf s).toNat)
  case atStart =>
    refine ⟨0, Nat.zero_le _, rfl, by rw [totAt_zero HA.out.2.1]; rfl, (Below.refl _ _).alloc (Nat.le_refl _) _, by simp, (Arr.made w (.int .i64 0) n 2).congr (fun i _ => rfl)⟩
  case round =>
    obtain ⟨j, hjm, rfl, rfl, hbx, hsx, hLd⟩ := hrel
    obtain ⟨hF, hR, hL, hb, hbb⟩ := HA.out
    by_cases hjlt : j < m
    · have hjR : j < R.length := by rw [HML.out]; exact hjlt
      obtain ⟨t1, t2, t3⟩ := totAt_succ hR hjR
      obtain ⟨T, hT⟩ : ∃ T, T = totAt c R j := ⟨_, rfl⟩
      obtain ⟨cp, hcp⟩ : ∃ cp, cp = copies c R j := ⟨_, rfl⟩
      rw [← hT]
      have c0 : wr.cell? ⟨Pb, j * 2, none⟩ = some (.int .i64 cp) := by rw [hbx.cell (p := ⟨Pb, j * 2, none⟩) hPl, hcp]; exact hL.cnum j hjR
      have c1 : wr.cell? ⟨Pb, j * 2 + 1, none⟩ = some (.slice (some ⟨V j, 0, none⟩) k k) := by rw [hbx.cell (p := ⟨Pb, j * 2 + 1, none⟩) hPl]; exact hL.crow j hjR
      have hcp1 : 1 ≤ cp := by omega
      have hTc : T + cp ≤ c := by omega
      have HT : Hid (T = totAt c R j ∧ cp = copies c R j ∧ totAt c R (j + 1) = T + cp) := ⟨hT, hcp, by omega⟩
      have HI : Hid (Below w.heap.size w wr ∧ Arr wr w.heap.size 2 n n (fun i => num (base c n E R k j i))) := ⟨hbx, hLd⟩
      clear hF hR hL hb hbb hjR t1 t2 t3 hT hcp hbx hLd hmk
      obtain ⟨w1, rfl⟩ : ∃ x, x = wr := ⟨_, rfl⟩
      have hdcp : decide ((cp : Int) < 1) = false := decide_eq_false (by omega)
      go_wp2
      go_loopw [39] (fun s wx => ∃ col : Nat, col ≤ k ∧ s = .int .i64 col ∧ (w1.alloc (.cells #[.int .i64 cp, .slice (some ⟨V j, 0, none⟩) k k] 69)).grownBy wx (some w.heap.size) ∧ Arr wx w.heap.size 2 n n (fun i => num (Plain.load c n E R k j col i))) (fun s _ => k - (intOf s).toNat)
      case atStart => exact ⟨0, Nat.zero_le _, rfl, ⟨rfl, rfl, rfl, Nat.le_refl _, fun _ _ _ => rfl⟩, (HI.out.2.alloc _).congr (fun i _ => rfl)⟩
      case round =>
        obtain ⟨col, hck, rfl, hgx, hLx⟩ := hrel
        obtain ⟨hF, hR, hL, hb, hbb⟩ := HA.out
        have hjR : j < R.length := by rw [HML.out]; exact hjlt
        have hold : ∀ b o v, b < w.heap.size → w.cell? ⟨b, o, none⟩ = some v → wr.cell? ⟨b, o, none⟩ = some v := fun b o v h1 h2 =>
          kept_cell hgx (cell_on ((HI.out.1.cell (p := ⟨b, o, none⟩) h1).trans h2) _) (by intro e; have := Option.some.inj e; omega)
        have hx0 : wr.cell? ⟨w1.heap.size, 0, none⟩ = some (.int .i64 cp) := kept_cell hgx (by simp) (by intro e; have := Option.some.inj e; omega)
        have hx1 : wr.cell? ⟨w1.heap.size, 1, none⟩ = some (.slice (some ⟨V j, 0, none⟩) k k) := kept_cell hgx (by simp) (by intro e; have := Option.some.inj e; omega)
        have HX : Hid ((w1.alloc (.cells #[.int .i64 cp, .slice (some ⟨V j, 0, none⟩) k k] 69)).grownBy wr (some w.heap.size) ∧ Arr wr w.heap.size 2 n n (fun i => num (Plain.load c n E R k j col i))) := ⟨hgx, hLx⟩
        by_cases hcl : col < k
        · obtain ⟨q, hq⟩ : ∃ q, q = node c n E R j col := ⟨_, rfl⟩
          have hqn : q < n := by rw [hq]; exact node_lt hF hR hjR hcl
          have hVl : V j < w.heap.size := block_lt_of_cell (hL.cnode j hjR col hcl)
          have n0 : wr.cell? ⟨V j, col, none⟩ = some (.int .i64 ((q : Int) + 1)) := hold _ _ _ hVl (by rw [hq]; exact hL.cnode j hjR col hcl)
          obtain ⟨bv, hbv⟩ : ∃ bv, bv = b q := ⟨_, rfl⟩
          have b0 : wr.cell? ⟨bb, q, none⟩ = some (.int .i64 bv) := hold _ _ _ hbl (by rw [hbv]; exact hb.cell hqn)
          obtain ⟨lv, hlv⟩ : ∃ lv, lv = Plain.load c n E R k j col q := ⟨_, rfl⟩
          have l0 : wr.cell? ⟨w.heap.size, q, none⟩ = some (.int .i64 lv) := by rw [hlv]; exact hLx.cell hqn
          have lf := hLx.free q
          have hroom : lv + cp ≤ bv := by
            have := load_room hF hR hjR hcl
            rw [← hq, ← HT.out.2.1, ← hlv, ← hbv] at this
            exact this
          have hbvb : bv ≤ 9223372036854775807 := by rw [hbv]; exact hbb q hqn
          have HQ : Hid (q = node c n E R j col ∧ lv = Plain.load c n E R k j col q) := ⟨hq, hlv⟩
          have hqI : (q : Int) < (n : Int) := by omega
          by_cases hc0 : col = 0
          · subst hc0
            clear hF hR hL hb hbb hjR hold hgx hLx hq hbv hlv
            go_wp2
            go_quiet (fail)
            go_wp2
            go_region
            all_goals go_wp2
            all_goals
              go_roundw
              case rel => exact ⟨0 + 1, by omega, by go_num, grown_draw HX.out.1 _, load_arr HX.out.2 HQ.out.1 HQ.out.2 HT.out.2.1⟩
              case measure => simp [intOf]; omega
          · obtain ⟨d, rfl⟩ : ∃ d, col = d + 1 := ⟨col - 1, by omega⟩
            obtain ⟨q', hq'⟩ : ∃ q', q' = node c n E R j d := ⟨_, rfl⟩
            have n1 : wr.cell? ⟨V j, d, none⟩ = some (.int .i64 ((q' : Int) + 1)) := hold _ _ _ hVl (by rw [hq']; exact hL.cnode j hjR d (by omega))
            have hqq : q' < q := by rw [hq, hq']; exact node_asc hF hR hjR hcl
            have hdI : (d : Int) < (k : Int) := by omega
            clear hF hR hL hb hbb hjR hold hgx hLx hq hbv hlv hq' hc0
            go_wp2
            go_quiet (fail)
            go_wp2
            go_region
            all_goals go_wp2
            all_goals
              go_roundw
              case rel => exact ⟨d + 1 + 1, by omega, by go_num, grown_draw HX.out.1 _, load_arr HX.out.2 HQ.out.1 HQ.out.2 HT.out.2.1⟩
              case measure => simp [intOf]; omega
        · obtain rfl : k = col := by omega
          have hTI : (cp : Int) ≤ 9223372036854775807 - (T : Int) := by omega
          have HB : Hid (Below w.heap.size w wr ∧ w.heap.size < wr.heap.size) := ⟨(HI.out.1.alloc HI.out.1.size _).grown hgx (by simp; omega) (fun m hm => by cases hm; exact Nat.le_refl _), by have := hgx.size; simp at this; omega⟩
          by_cases hj0 : j = 0
          · subst hj0
            clear hF hR hL hb hbb hjR hold hgx hLx
            go_wp2
            go_quiet (fail)
            go_wp2
            go_roundw
            case rel => exact ⟨0 + 1, by omega, by go_num, int_eq (by rw [HT.out.2.2]; omega), below_drewN HB.out.1 _, HB.out.2, HX.out.2⟩
            case measure => simp [intOf]; omega
          · obtain ⟨d, rfl⟩ : ∃ d, j = d + 1 := ⟨j - 1, by omega⟩
            have hdR : d < R.length := by omega
            have p1 : wr.cell? ⟨Pb, d * 2 + 1, none⟩ = some (.slice (some ⟨V d, 0, none⟩) k k) := hold _ _ _ hPl (hL.crow d hdR)
            obtain ⟨cz, hcz, _⟩ := node_strict hF hR hjR
            have hVl : V (d + 1) < w.heap.size := block_lt_of_cell (hL.cnode (d + 1) hjR cz hcz)
            have hVl' : V d < w.heap.size := block_lt_of_cell (hL.cnode d hdR cz hcz)
            have hless := fun q => less_true (V d) (V (d + 1)) k (fun i => node c n E R d i + 1) (fun i => node c n E R (d + 1) i + 1) (wr.drewN q) hk (fun i hi => hold _ _ _ hVl' (hL.cnode d hdR i hi)) (fun i hi => hold _ _ _ hVl (hL.cnode (d + 1) hjR i hi))
              (fun i hi => by have := node_up hF hR hjR hi; omega) (by obtain ⟨i, hi, h⟩ := node_strict hF hR hjR; exact ⟨i, hi, by omega⟩)
            have HLS : Hid (∀ q, Calls Ybaf.prog 18 #[.slice (some ⟨V d, 0, none⟩) k k, .slice (some ⟨V (d + 1), 0, none⟩) k k] (wr.drewN q) fun e w' => e = .returned (.bool true) ∧ ∃ m, w' = (wr.drewN q).drewN m) := hless
            have hdm : (d : Int) < (m : Int) := by omega
            clear hF hR hL hb hbb hjR hold hgx hLx hless hcz hVl hVl' hdR hj0
            go_wp2
            go_quiet ((go_at_call 18; exact Calls.quiet_of (HLS.out _)))
            go_wp2
            go_roundw
            case rel => exact ⟨d + 1 + 1, by omega, by go_num, int_eq (by rw [HT.out.2.2]; omega), below_drewN HB.out.1 _, HB.out.2, HX.out.2⟩
            case measure => simp [intOf]; omega
    · obtain rfl : m = j := by omega
      have hfin : totAt c R m = c := by unfold totAt; rw [if_neg (by rw [HML.out]; omega)]
      rw [hfin]
      have HB : Hid (Below w.heap.size w wr) := hbx
      clear hF hR hL hb hbb hLd hfin hbx
      go_wp2
      go_ret2
      exact ⟨rfl, HB.out⟩
end Go.Proofs.YbulkapjgFmt
