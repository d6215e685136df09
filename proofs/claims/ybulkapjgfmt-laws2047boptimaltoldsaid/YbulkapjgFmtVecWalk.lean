/- The walk of 'capmax.LawS2047BVector'. -/
import Derived.Test.YbulkapjgFmtPlacer
import Derived.Laws.CopyOwn
namespace Go.Proofs.YbulkapjgFmt
open Go.RowKit Plain

theorem size2 : (Ybaf.prog.info? 2).map (·.size) = some 1 := by kernel_rfl

theorem eql_nil30 (w : World) : (binOp .eql 30 (.slice none 0 0) (.slice none 0 0)).run Ybaf.prog w = .ok (.bool true) w := by kernel_rfl

set_option maxRecDepth 100000 in
set_option maxHeartbeats 400000 in
theorem vec_big (a : Option Addr) (len cap : Nat) (kk : Int) (w : World) (h : 1024 < len) :
    Calls Ybaf.prog 4 #[.slice a len cap, .int .u8 kk] w fun e w' => e = .returned (.bool true) ∧ Below w.heap.size w w' := by
  go_enter Ybaf.func4, Ybaf.ntmps4
  go_wp2
  go_ret
  exact ⟨rfl, Below.refl _ _⟩

set_option maxRecDepth 100000 in
set_option maxHeartbeats 400000 in
theorem vec_zero (a : Option Addr) (cap : Nat) (kk : Int) (w : World) (k0 : 0 ≤ kk) (k1 : kk ≤ 255) :
    Calls Ybaf.prog 4 #[.slice a 0 cap, .int .u8 kk] w fun e w' => e = .returned (.bool true) ∧ Below w.heap.size w w' := by
  have hmk : ∀ w : World, (Instr.makeSlice 23 (.int .i64 0) (.int .i64 0)).run Ybaf.prog w = .ok (.slice (some ⟨w.heap.size, 0, none⟩) 0 0) (w.alloc (.cells (madeCells #[.int .i64 0] 0) 2)) :=
    fun w => run_make_row' (P := Ybaf.prog) 23 2 (.int .i64 0) 8 Ybaf.underlying23 info2 rfl .i64 .i64 0 (by omega) (by omega) w
  have hq30 := eql_nil30
  have hcp := fun W : World => run_copy_none (P := Ybaf.prog) W 23 23 3 2 (some ⟨w.heap.size, 0, none⟩) a 0 0 0 cap Ybaf.underlying23 size2 rfl
  go_enter Ybaf.func4, Ybaf.ntmps4
  go_wp2
  refine wp_loop_rounds 1 ?_
  rw [rounds_succ]
  go_wp2_with fail
  refine (Place_none 1 _ _).mono ?_
  rintro e w1 ⟨b, rfl, hb⟩
  have hb1 : Below w.heap.size w w1 := ((((Below.refl _ _).alloc (Nat.le_refl _) _).alloc (by simp) _).alloc (by simp; omega) _).trans (hb.mono (by simp; omega))
  clear hb
  go_wp2
  refine wp_loop_rounds 1 ?_
  rw [rounds_succ]
  go_wp2
  go_ret
  exact ⟨rfl, hb1⟩

theorem heap_setRow {w : World} {g : Nat} {cur cs : Array Value} {t : TypeId} (h : w.heap[g]? = some (.cells cur t (0, 0))) : (w.setRow g cs).heap[g]? = some (.cells cs t (0, 0)) := by
  have hg : g < w.heap.size := (Array.getElem?_eq_some_iff.1 h).1
  simp [World.setRow, Array.getElem?_modify, h]

/-- What copy leaves: the new row holds the numbers. -/
theorem copied (rb ro n cap : Nat) (z : Nat → Int) (w : World) (hr : ∀ i, i < n → w.cell? ⟨rb, ro + i, none⟩ = some (.int .i64 (z i))) (hrb : rb < w.heap.size) :
    ∃ w1, (Builtin.copy_ #[23, 23] 3 #[.slice (some ⟨w.heap.size, 0, none⟩) n n, .slice (some ⟨rb, ro, none⟩) n cap]).run Ybaf.prog (w.alloc (.cells (madeCells #[.int .i64 0] n) 2)) = .ok (.int .i64 n) w1 ∧
      Arr w1 w.heap.size 2 n n (fun i => .int .i64 (z i)) ∧ Below w.heap.size w w1 ∧ w1.heap.size = w.heap.size + 1 := by
  have ha := Arr.made w (.int .i64 0) n 2
  obtain ⟨cur, hb, hs, _, _⟩ := ha
  have hlen : ((List.range n).map (fun i => Value.int .i64 (z i))).length = n := by simp
  have hrun := run_copy_row (P := Ybaf.prog) (w.alloc (.cells (madeCells #[.int .i64 0] n) 2)) 23 23 3 2 w.heap.size 0 n n ⟨rb, ro, none⟩ n cap cur 2 ((List.range n).map (fun i => Value.int .i64 (z i))) Ybaf.underlying23 size2 hb (by rw [hlen]; exact (Nat.min_self n).symm)
    (fun j v hv => by
      have hj : j < n := by have := (List.getElem?_eq_some_iff.1 hv).1; omega
      rw [Addr.add_lit, World.cell?_alloc_past _ _ _ hrb, hr j hj]
      simpa [hj] using hv) (by rw [hlen]; omega) (by
      intro u hu
      obtain ⟨_, _, rfl⟩ := List.mem_map.1 hu
      rfl)
  refine ⟨_, by rw [hrun, hlen]; rfl, ⟨_, heap_setRow hb, ?_, Nat.le_refl _, ?_⟩, ?_, ?_⟩
  · simp; omega
  · intro i hi
    simp
    rw [List.getElem?_append_left (by simpa using hi)]
    simp [hi]
  · exact below_setRow ((Below.refl _ _).alloc (Nat.le_refl _) _) (Nat.le_refl _) _
  · simp [World.setRow]

set_option maxRecDepth 100000 in
set_option maxHeartbeats 1000000 in
theorem vec_bad (F : Stop.Interp) (rb ro n cap p : Nat) (z : Nat → Int) (kk : Int) (w : World) (hF : F.answers w.tape) (k0 : 0 ≤ kk) (k1 : kk ≤ 255) (hn1 : 1 ≤ n) (hn : n ≤ 1024) (hrb : rb < w.heap.size)
    (hr : ∀ i, i < n → w.cell? ⟨rb, ro + i, none⟩ = some (.int .i64 (z i))) (hp : p < n) (hz : ∀ i, i < p → okAt z i) (hbad : ¬ okAt z p) (hzb : ∀ i, i < n → -9223372036854775808 ≤ z i ∧ z i ≤ 9223372036854775807) :
    Calls Ybaf.prog 4 #[.slice (some ⟨rb, ro, none⟩) n cap, .int .u8 kk] w fun e w' => e = .returned (.bool true) ∧ Below w.heap.size w w' := by
  have hmk := run_make_row' (P := Ybaf.prog) 23 2 (.int .i64 0) 8 Ybaf.underlying23 info2 rfl .i64 .i64 n (by omega) (by omega)
  obtain ⟨w1, hcp, ha1, hb1, hs1⟩ := copied rb ro n cap z w hr hrb
  obtain ⟨k, hkI, hk1, hk2⟩ : ∃ k : Nat, 1 + kk % ((n : Int) + 1) = (k : Int) ∧ 1 ≤ k ∧ k ≤ n + 1 := by
    have h0 := Int.emod_nonneg kk (show (n : Int) + 1 ≠ 0 by omega)
    have h1 := Int.emod_lt_of_pos kk (show 0 < (n : Int) + 1 by omega)
    exact ⟨(1 + kk % ((n : Int) + 1)).toNat, by omega, by omega, by omega⟩
  have HA : Hid (F.answers w.tape ∧ (∀ i, i < n → w.cell? ⟨rb, ro + i, none⟩ = some (.int .i64 (z i))) ∧ (∀ i, i < p → okAt z i) ∧ ¬ okAt z p ∧ (∀ i, i < n → -9223372036854775808 ≤ z i ∧ z i ≤ 9223372036854775807)) := ⟨hF, hr, hz, hbad, hzb⟩
  have H1 : Hid (Arr w1 w.heap.size 2 n n (fun i => .int .i64 (z i)) ∧ Below w.heap.size w w1) := ⟨ha1, hb1⟩
  have hs1' : w.heap.size < w1.heap.size := by omega
  have hq30 := eql_nil30
  clear hF hr hz hbad hzb ha1 hb1 hs1
  go_enter Ybaf.func4, Ybaf.ntmps4
  go_wp2
  go_loop [8, 9, 37] (fun bd s i => ∃ m : Nat, m ≤ p ∧ i = .int .i64 m ∧ s = .int .i64 (pref z m) ∧ bd = .bool false) (fun _ _ i => n - (intOf i).toNat)
  case atStart => exact ⟨0, Nat.zero_le _, rfl, rfl, rfl⟩
  case round =>
    obtain ⟨m, hm, rfl, rfl, rfl⟩ := hrel
    obtain ⟨P, hP⟩ : ∃ P, P = pref z m := ⟨_, rfl⟩
    have hpb := pref_bd z m (fun j hj => HA.out.2.2.1 j (by omega))
    rw [← hP] at hpb ⊢
    obtain ⟨p1, p2⟩ := hpb
    have HP : Hid (P = pref z m) := hP
    obtain ⟨x, hx⟩ : ∃ x, x = z m := ⟨_, rfl⟩
    have hcx : w1.cell? ⟨rb, ro + m, none⟩ = some (.int .i64 x) := by rw [hx, H1.out.2.cell (p := ⟨rb, ro + m, none⟩) hrb]; exact HA.out.2.1 m (by omega)
    have hmn : m < n := by omega
    have hxb := HA.out.2.2.2.2 m hmn
    rw [← hx] at hxb
    obtain ⟨x1, x2⟩ := hxb
    by_cases hlt : m < p
    · have hok := HA.out.2.2.1 m hlt
      unfold okAt at hok
      rw [← hP, ← hx] at hok
      obtain ⟨y1, y2⟩ := hok
      have HX : Hid (x = z m) := hx
      clear hP hx
      go_wp2
      go_round
      case rel => exact ⟨m + 1, by omega, by go_num, int_eq (by rw [pref, ← HP.out, ← HX.out]), rfl⟩
      case measure => simp [intOf]; omega
    · obtain rfl : p = m := by omega
      have hno := HA.out.2.2.2.1
      unfold okAt at hno
      rw [← hP, ← hx] at hno
      have HPl : Hid (Calls Ybaf.prog 8 #[.agg #[.string ⟨#[107]⟩, .int .i64 n, .int .u8 1, .int .i64 0, .bool false, .slice none 0 0], .agg #[.string ⟨#[107]⟩, .int .i64 k, .bool false], .slice (some ⟨w.heap.size, 0, none⟩) n n]
          ((w1.alloc (.cells #[.string ⟨#[107]⟩, .int .i64 n, .int .u8 1, .int .i64 0, .bool false, .slice none 0 0] 27)).alloc (.cells #[.string ⟨#[107]⟩, .int .i64 k, .bool false] 29)) fun e w' =>
          ∃ a, e = .returned (.tuple #[.slice none 0 0, .iface 74 (.pointer (some a))]) ∧ Below ((w1.alloc (.cells #[.string ⟨#[107]⟩, .int .i64 n, .int .u8 1, .int .i64 0, .bool false, .slice none 0 0] 27)).alloc (.cells #[.string ⟨#[107]⟩, .int .i64 k, .bool false] 29)).heap.size ((w1.alloc (.cells #[.string ⟨#[107]⟩, .int .i64 n, .int .u8 1, .int .i64 0, .bool false, .slice none 0 0] 27)).alloc (.cells #[.string ⟨#[107]⟩, .int .i64 k, .bool false] 29)) w') :=
        Place_bad F w.heap.size n k p z _ (by show F.answers w1.tape; rw [H1.out.2.tape]; exact HA.out.1) hk1 (by omega) hn1 (by omega) ((H1.out.1.alloc _).alloc _) hp HA.out.2.2.1 HA.out.2.2.2.1 (HA.out.2.2.2.2 p hp).1 (HA.out.2.2.2.2 p hp).2
      by_cases hneg : x < 0
      case' neg => have hbig : 9223372036854775807 - P < x := by omega
      all_goals clear hP hx hno
      all_goals go_wp2_with fail
      all_goals
        refine HPl.out.mono ?_
        rintro e w3 ⟨a, rfl, hb3⟩
        have hb1s : Below w1.heap.size w1 w3 := (((Below.refl _ _).alloc (Nat.le_refl _) _).alloc (by simp) _).trans (hb3.mono (by simp; omega))
        have H3 : Hid (Below w1.heap.size w1 w3) := hb1s
        clear hb3 hb1s
        go_wp2
        go_loopw [66] (fun i wr => ∃ m q : Nat, m ≤ n ∧ i = .int .i64 m ∧ wr = w3.drewN q) (fun i _ => n - (intOf i).toNat)
        case atStart => exact ⟨0, 0, Nat.zero_le _, rfl, rfl⟩
        case round =>
          obtain ⟨m, q, hm2, rfl, rfl⟩ := hrel
          by_cases hlt2 : m < n
          · obtain ⟨y, hy⟩ : ∃ y, y = z m := ⟨_, rfl⟩
            have c1 : w3.cell? ⟨w.heap.size, m, none⟩ = some (.int .i64 y) := by rw [hy]; exact (H1.out.1.below H3.out hs1').cell hlt2
            have c2 : w3.cell? ⟨rb, ro + m, none⟩ = some (.int .i64 y) := by
              rw [hy, H3.out.cell (p := ⟨rb, ro + m, none⟩) (by show rb < _; omega), H1.out.2.cell (p := ⟨rb, ro + m, none⟩) hrb]; exact HA.out.2.1 m hlt2
            have hI : (m : Int) < (n : Int) := by omega
            clear hy
            go_wp2
            go_quiet (fail)
            go_wp2
            go_roundw
            case rel => exact ⟨m + 1, _, by omega, by go_num, rfl⟩
            case measure => simp [intOf]; omega
          · have hn0 : ((n : Int) == 0) = false := by simp; omega
            have HBF : Hid (Below w.heap.size w w3) := H1.out.2.trans (H3.out.mono (by omega))
            go_wp2
            go_ret
            exact ⟨rfl, below_drewN HBF.out _⟩

def natsOf (z : Nat → Int) (n : Nat) : List Nat := (List.range n).map (fun i => (z i).toNat)

theorem natsOf_length (z : Nat → Int) (n : Nat) : (natsOf z n).length = n := by simp [natsOf]

theorem natsOf_nth {z : Nat → Int} {n i : Nat} (hi : i < n) (h : 0 ≤ z i) : ((nth (natsOf z n) i : Nat) : Int) = z i := by
  have : nth (natsOf z n) i = (z i).toNat := by simp [nth, natsOf, List.getD, hi]
  rw [this]; omega

theorem pref_congr {z z' : Nat → Int} : ∀ {m : Nat}, (∀ i, i < m → z i = z' i) → pref z m = pref z' m
  | 0, _ => rfl
  | m + 1, h => by
    simp only [pref]
    rw [pref_congr (m := m) (fun i hi => h i (by omega)), h m (by omega)]

theorem natsOf_total {z : Nat → Int} {n : Nat} (h : ∀ i, i < n → okAt z i) : ((total (natsOf z n) : Nat) : Int) = pref z n ∧ total (natsOf z n) ≤ 9223372036854775807 := by
  have h1 := pref_nat (natsOf z n) n (by rw [natsOf_length]; exact Nat.le_refl _)
  have h2 : (natsOf z n).take n = natsOf z n := List.take_of_length_le (by rw [natsOf_length]; exact Nat.le_refl _)
  rw [h2] at h1
  have h3 : pref (fun j => ((nth (natsOf z n) j : Nat) : Int)) n = pref z n := pref_congr (fun i hi => natsOf_nth hi (h i hi).1)
  have h4 := pref_bd z n h
  refine ⟨by omega, by omega⟩

theorem PlaceRes.drewN {w w' : World} {n k : Nat} {bs : List Nat} {e : Ending} (h : PlaceRes w n k bs e w') (q : Nat) : PlaceRes w n k bs e (w'.drewN q) := by
  obtain ⟨c, h1, h2, h3⟩ := h
  refine ⟨c, h1, below_drewN h2 q, ?_⟩
  rcases h3 with h3 | ⟨a1, R, Pb, V, a2, a3, a4, a5⟩
  · exact Or.inl h3
  · exact Or.inr ⟨a1, R, Pb, V, a2, a3, a4, ⟨a5.cnum, a5.crow, a5.cnode⟩⟩

/-- The check behind Place, whatever Place has handed back. -/
theorem check_res {w w2 : World} {n k bb : Nat} {bs : List Nat} {v : Value} (h : PlaceRes w n k bs (.returned v) w2) (hl : bs.length = n) (hn : n ≤ 2000) (hk1 : 1 ≤ k) (hk : k ≤ 4000) (hS : total bs ≤ 9223372036854775807) (hb : Arr w2 bb 2 n n (fun i => num (nth bs i))) :
    Calls Ybaf.prog 9 #[v, .slice (some ⟨bb, 0, none⟩) n n, .int .i64 k] w2 fun e w' => ∃ c : Nat, IsCount bs k c ∧ e = .returned (.tuple #[.int .i64 c, .bool true]) ∧ Below w2.heap.size w2 w' := by
  obtain ⟨c, hc, _, ⟨hc0, he⟩ | ⟨hpos, R, Pb, V, he, hRl, hRows, hL⟩⟩ := h
  · have hv : v = .slice none 0 0 := by injection he
    subst hv
    refine (check_nil bb n k w2 hn).mono ?_
    rintro e w' ⟨rfl, hb'⟩
    exact ⟨c, hc, by rw [hc0]; rfl, hb'⟩
  · have hv : v = .slice (some ⟨Pb, 0, none⟩) R.length R.length := by injection he
    subst hv
    have hF : Filled c k n (fillE bs c (k * c)) (fun i => nth bs i) := by have := filled hpos hc; rw [hl] at this; exact this
    have hkc := hc.le_total
    have hcb : c ≤ 9223372036854775807 := by
      have := Nat.le_mul_of_pos_left c (show 0 < k by omega)
      omega
    have hbb : ∀ i, i < n → nth bs i ≤ 9223372036854775807 := fun i hi => by
      have h1 := total_take_succ bs i (by omega)
      have h2 := total_take_le bs (i + 1)
      unfold nth; omega
    refine (check_some Pb bb n k c V (fillE bs c (k * c)) (fun i => nth bs i) R w2 hn hk hcb hRl hF hRows hL hb hbb).mono ?_
    rintro e w' ⟨rfl, hb'⟩
    exact ⟨c, hc, rfl, hb'⟩

set_option maxRecDepth 100000 in
set_option maxHeartbeats 1000000 in
theorem vec_ok (rb ro n cap : Nat) (z : Nat → Int) (kk : Int) (w : World) (k0 : 0 ≤ kk) (k1 : kk ≤ 255) (hn1 : 1 ≤ n) (hn : n ≤ 1024) (hrb : rb < w.heap.size)
    (hr : ∀ i, i < n → w.cell? ⟨rb, ro + i, none⟩ = some (.int .i64 (z i))) (hz : ∀ i, i < n → okAt z i) :
    Calls Ybaf.prog 4 #[.slice (some ⟨rb, ro, none⟩) n cap, .int .u8 kk] w fun e w' => e = .returned (.bool true) ∧ Below w.heap.size w w' := by
  have hmk := run_make_row' (P := Ybaf.prog) 23 2 (.int .i64 0) 8 Ybaf.underlying23 info2 rfl .i64 .i64 n (by omega) (by omega)
  obtain ⟨w1, hcp, ha1, hb1, hs1⟩ := copied rb ro n cap z w hr hrb
  obtain ⟨k, hkI, hk1, hk2⟩ : ∃ k : Nat, 1 + kk % ((n : Int) + 1) = (k : Int) ∧ 1 ≤ k ∧ k ≤ n + 1 := by
    have h0 := Int.emod_nonneg kk (show (n : Int) + 1 ≠ 0 by omega)
    have h1 := Int.emod_lt_of_pos kk (show 0 < (n : Int) + 1 by omega)
    exact ⟨(1 + kk % ((n : Int) + 1)).toNat, by omega, by omega, by omega⟩
  have HA : Hid ((∀ i, i < n → w.cell? ⟨rb, ro + i, none⟩ = some (.int .i64 (z i))) ∧ (∀ i, i < n → okAt z i)) := ⟨hr, hz⟩
  have H1 : Hid (Arr w1 w.heap.size 2 n n (fun i => .int .i64 (z i)) ∧ Below w.heap.size w w1) := ⟨ha1, hb1⟩
  have hs1' : w.heap.size < w1.heap.size := by omega
  have hdn : decide ((1024 : Int) < (n : Int)) = false := decide_eq_false (by omega)
  clear hr hz ha1 hb1 hs1
  go_enter Ybaf.func4, Ybaf.ntmps4
  go_wp2
  go_loop [8, 9, 37] (fun bd s i => ∃ m : Nat, m ≤ n ∧ i = .int .i64 m ∧ s = .int .i64 (pref z m) ∧ bd = .bool false) (fun _ _ i => n - (intOf i).toNat)
  case atStart => exact ⟨0, Nat.zero_le _, rfl, rfl, rfl⟩
  case round =>
    obtain ⟨m, hm, rfl, rfl, rfl⟩ := hrel
    obtain ⟨P, hP⟩ : ∃ P, P = pref z m := ⟨_, rfl⟩
    have hpb := pref_bd z m (fun j hj => HA.out.2 j (by omega))
    rw [← hP] at hpb ⊢
    obtain ⟨p1, p2⟩ := hpb
    have HP : Hid (P = pref z m) := hP
    by_cases hlt : m < n
    · obtain ⟨x, hx⟩ : ∃ x, x = z m := ⟨_, rfl⟩
      have hcx : w1.cell? ⟨rb, ro + m, none⟩ = some (.int .i64 x) := by rw [hx, H1.out.2.cell (p := ⟨rb, ro + m, none⟩) hrb]; exact HA.out.1 m (by omega)
      have hok := HA.out.2 m hlt
      unfold okAt at hok
      rw [← hP, ← hx] at hok
      obtain ⟨y1, y2⟩ := hok
      have HX : Hid (x = z m) := hx
      clear hP hx
      go_wp2
      go_round
      case rel => exact ⟨m + 1, by omega, by go_num, int_eq (by rw [pref, ← HP.out, ← HX.out]), rfl⟩
      case measure => simp [intOf]; omega
    · obtain rfl : n = m := by omega
      have HT := natsOf_total HA.out.2
      have hArr : Arr w1 w.heap.size 2 n n (fun i => num (nth (natsOf z n) i)) := H1.out.1.congr (fun i hi => by unfold num; rw [natsOf_nth hi (HA.out.2 i hi).1])
      have HPl : Hid (Calls Ybaf.prog 8 #[.agg #[.string ⟨#[107]⟩, .int .i64 n, .int .u8 1, .int .i64 0, .bool false, .slice none 0 0], .agg #[.string ⟨#[107]⟩, .int .i64 k, .bool false], .slice (some ⟨w.heap.size, 0, none⟩) n n]
          ((w1.alloc (.cells #[.string ⟨#[107]⟩, .int .i64 n, .int .u8 1, .int .i64 0, .bool false, .slice none 0 0] 27)).alloc (.cells #[.string ⟨#[107]⟩, .int .i64 k, .bool false] 29)) fun e w' =>
          ∃ v, e = .returned (.tuple #[v, .nilIface]) ∧ PlaceRes ((w1.alloc (.cells #[.string ⟨#[107]⟩, .int .i64 n, .int .u8 1, .int .i64 0, .bool false, .slice none 0 0] 27)).alloc (.cells #[.string ⟨#[107]⟩, .int .i64 k, .bool false] 29)) n k (natsOf z n) (.returned v) w') :=
        Place_ok w.heap.size n k (natsOf z n) _ (natsOf_length z n) hk1 (by omega) hn1 (by omega) HT.2 ((hArr.alloc _).alloc _)
      have HTT : Hid (total (natsOf z n) ≤ 9223372036854775807 ∧ Arr w1 w.heap.size 2 n n (fun i => num (nth (natsOf z n) i))) := ⟨HT.2, hArr⟩
      clear hP HT hArr
      go_wp2_with fail
      refine HPl.out.mono ?_
      rintro e w3 ⟨v, rfl, hres⟩
      obtain ⟨a, l, cc, hv⟩ := hres.val
      have hv' : v = .slice a l cc := by injection hv
      subst hv'
      have hb3 : Below ((w1.alloc (.cells #[.string ⟨#[107]⟩, .int .i64 n, .int .u8 1, .int .i64 0, .bool false, .slice none 0 0] 27)).alloc (.cells #[.string ⟨#[107]⟩, .int .i64 k, .bool false] 29)).heap.size ((w1.alloc (.cells #[.string ⟨#[107]⟩, .int .i64 n, .int .u8 1, .int .i64 0, .bool false, .slice none 0 0] 27)).alloc (.cells #[.string ⟨#[107]⟩, .int .i64 k, .bool false] 29)) w3 := by
        obtain ⟨_, _, h, _⟩ := hres; exact h
      have hb1s : Below w1.heap.size w1 w3 := (((Below.refl _ _).alloc (Nat.le_refl _) _).alloc (by simp) _).trans (hb3.mono (by simp; omega))
      have H3 : Hid (Below w1.heap.size w1 w3 ∧ PlaceRes w1 n k (natsOf z n) (.returned (.slice a l cc)) w3) := ⟨hb1s, hres.back (((Below.refl _ _).alloc (Nat.le_refl _) _).alloc (by simp) _)⟩
      clear hb3 hb1s hres hv HPl
      go_wp2
      go_loopw [66] (fun i wr => ∃ m q : Nat, m ≤ n ∧ i = .int .i64 m ∧ wr = w3.drewN q) (fun i _ => n - (intOf i).toNat)
      case atStart => exact ⟨0, 0, Nat.zero_le _, rfl, rfl⟩
      case round =>
        obtain ⟨m, q, hm2, rfl, rfl⟩ := hrel
        by_cases hlt2 : m < n
        · obtain ⟨y, hy⟩ : ∃ y, y = z m := ⟨_, rfl⟩
          have c1 : w3.cell? ⟨w.heap.size, m, none⟩ = some (.int .i64 y) := by rw [hy]; exact (H1.out.1.below H3.out.1 hs1').cell hlt2
          have c2 : w3.cell? ⟨rb, ro + m, none⟩ = some (.int .i64 y) := by
            rw [hy, H3.out.1.cell (p := ⟨rb, ro + m, none⟩) (by show rb < _; omega), H1.out.2.cell (p := ⟨rb, ro + m, none⟩) hrb]; exact HA.out.1 m hlt2
          have hI : (m : Int) < (n : Int) := by omega
          clear hy
          go_wp2
          go_quiet (fail)
          go_wp2
          go_roundw
          case rel => exact ⟨m + 1, _, by omega, by go_num, rfl⟩
          case measure => simp [intOf]; omega
        · have hn0 : ((n : Int) == 0) = false := by simp; omega
          have HBF : Hid (Below w.heap.size w w3) := H1.out.2.trans (H3.out.1.mono (by omega))
          have HCk : Hid (Calls Ybaf.prog 9 #[.slice a l cc, .slice (some ⟨w.heap.size, 0, none⟩) n n, .int .i64 k] (w3.drewN q) fun e w' => ∃ c : Nat, IsCount (natsOf z n) k c ∧ e = .returned (.tuple #[.int .i64 c, .bool true]) ∧ Below (w3.drewN q).heap.size (w3.drewN q) w') :=
            check_res (w := w1) (w2 := w3.drewN q) (H3.out.2.drewN q) (natsOf_length z n) (by omega) hk1 (by omega) HTT.out.1 (HTT.out.2.below (below_drewN H3.out.1 q) hs1')
          go_wp2_with fail
          refine HCk.out.mono ?_
          rintro e w5 ⟨c, _, rfl, hb5⟩
          have HB5 : Hid (Below w.heap.size w w5) := (below_drewN HBF.out q).trans (hb5.mono (below_drewN HBF.out q).size)
          clear hb5
          go_wp2
          go_ret
          exact ⟨rfl, HB5.out⟩
end Go.Proofs.YbulkapjgFmt
