/- 'method', 'placer', 'checkVector', 'Place' by their contracts. -/
import Derived.Test.YbulkapjgFmtCheckFn
import Derived.Test.YbulkapjgFmtErr
namespace Go.Proofs.YbulkapjgFmt
open Go.RowKit Plain

set_option maxRecDepth 100000 in
set_option maxHeartbeats 400000 in
theorem method_one (n : Nat) (w : World) (hn : 1 ≤ n) (hn2 : n ≤ 2000) :
    Calls Ybaf.prog 28 #[.agg #[.string ⟨#[107]⟩, .int .i64 n, .int .u8 1, .int .i64 0, .bool false, .slice none 0 0], .agg #[.string ⟨#[107]⟩, .int .i64 (1 : Nat), .bool false]] w fun e w' => ∃ v, e = .returned (.tuple #[v, .nilIface]) ∧ Below w.heap.size w w' := by
  go_enter Ybaf.func28, Ybaf.ntmps28
  go_wp2
  go_ret2
  exact ⟨.func (.func 36) #[] #[], rfl, ((Below.refl _ _).alloc (Nat.le_refl _) _).alloc (by simp) _⟩

set_option maxRecDepth 100000 in
set_option maxHeartbeats 400000 in
theorem method_more (n k : Nat) (w : World) (hn : 1 ≤ n) (hn2 : n ≤ 2000) (hk : 2 ≤ k) (hk2 : k ≤ 4000) :
    Calls Ybaf.prog 28 #[.agg #[.string ⟨#[107]⟩, .int .i64 n, .int .u8 1, .int .i64 0, .bool false, .slice none 0 0], .agg #[.string ⟨#[107]⟩, .int .i64 k, .bool false]] w fun e w' => ∃ v, e = .returned (.tuple #[v, .nilIface]) ∧ Below w.heap.size w w' := by
  go_enter Ybaf.func28, Ybaf.ntmps28
  go_wp2
  go_ret2
  exact ⟨.func (.func 37) #[] #[], rfl, ((Below.refl _ _).alloc (Nat.le_refl _) _).alloc (by simp) _⟩

set_option maxRecDepth 100000 in
set_option maxHeartbeats 400000 in
theorem method_none (k : Nat) (w : World) :
    Calls Ybaf.prog 28 #[.agg #[.string ⟨#[107]⟩, .int .i64 (0 : Nat), .int .u8 1, .int .i64 0, .bool false, .slice none 0 0], .agg #[.string ⟨#[107]⟩, .int .i64 k, .bool false]] w fun e w' => ∃ a, e = .returned (.tuple #[.nilFunc, .iface 74 (.pointer (some a))]) ∧ Below w.heap.size w w' := by
  go_enter Ybaf.func28, Ybaf.ntmps28
  go_wp2
  go_ret2
  exact ⟨⟨w.heap.size + 1 + 1, 0, none⟩, rfl, (((Below.refl _ _).alloc (Nat.le_refl _) _).alloc (by simp) _).alloc (by simp; omega) _⟩

theorem method_any (n k : Nat) (w : World) (hn : 1 ≤ n) (hn2 : n ≤ 2000) (hk : 1 ≤ k) (hk2 : k ≤ 4000) :
    Calls Ybaf.prog 28 #[.agg #[.string ⟨#[107]⟩, .int .i64 n, .int .u8 1, .int .i64 0, .bool false, .slice none 0 0], .agg #[.string ⟨#[107]⟩, .int .i64 k, .bool false]] w fun e w' => ∃ v, e = .returned (.tuple #[v, .nilIface]) ∧ Below w.heap.size w w' := by
  by_cases e : k = 1
  · subst e; exact method_one n w hn hn2
  · exact method_more n k w hn hn2 (by omega) hk2

set_option maxRecDepth 100000 in
set_option maxHeartbeats 400000 in
theorem placer_any (n k : Nat) (w : World) (hn : 1 ≤ n) (hn2 : n ≤ 2000) (hk : 1 ≤ k) (hk2 : k ≤ 4000) :
    Calls Ybaf.prog 16 #[.agg #[.string ⟨#[107]⟩, .int .i64 n, .int .u8 1, .int .i64 0, .bool false, .slice none 0 0], .agg #[.string ⟨#[107]⟩, .int .i64 k, .bool false]] w fun e w' => e = .returned (.tuple #[.func (.func 29) #[] #[], .nilIface]) ∧ Below w.heap.size w w' := by
  go_enter Ybaf.func16, Ybaf.ntmps16
  go_wp2_with fail
  refine (method_any n k _ hn hn2 hk hk2).mono ?_
  rintro e w1 ⟨v, rfl, hb⟩
  have hb1 : Below w.heap.size w w1 := (((Below.refl _ _).alloc (Nat.le_refl _) _).alloc (by simp) _).trans (hb.mono (by simp; omega))
  have hc2 : w1.cell? ⟨w.heap.size, 2, none⟩ = some (.int .u8 1) := by rw [hb.cell (p := ⟨w.heap.size, 2, none⟩) (by simp; omega)]; simp
  clear hb
  go_wp2
  go_ret2
  exact ⟨rfl, hb1⟩

set_option maxRecDepth 100000 in
set_option maxHeartbeats 400000 in
theorem placer_none (k : Nat) (w : World) :
    Calls Ybaf.prog 16 #[.agg #[.string ⟨#[107]⟩, .int .i64 (0 : Nat), .int .u8 1, .int .i64 0, .bool false, .slice none 0 0], .agg #[.string ⟨#[107]⟩, .int .i64 k, .bool false]] w fun e w' => ∃ a, e = .returned (.tuple #[.nilFunc, .iface 74 (.pointer (some a))]) ∧ Below w.heap.size w w' := by
  go_enter Ybaf.func16, Ybaf.ntmps16
  go_wp2_with fail
  refine (method_none k _).mono ?_
  rintro e w1 ⟨a, rfl, hb⟩
  have hb1 : Below w.heap.size w w1 := (((Below.refl _ _).alloc (Nat.le_refl _) _).alloc (by simp) _).trans (hb.mono (by simp; omega))
  clear hb
  go_wp2
  go_ret2
  exact ⟨a, rfl, hb1⟩

/-- The sum of the first i numbers. -/
def pref (z : Nat → Int) : Nat → Int
  | 0 => 0
  | i + 1 => pref z i + z i

/-- Entry i is one that checkVector takes. -/
def okAt (z : Nat → Int) (i : Nat) : Prop := 0 ≤ z i ∧ z i ≤ 9223372036854775807 - pref z i

theorem pref_bd (z : Nat → Int) : ∀ i, (∀ j, j < i → okAt z j) → 0 ≤ pref z i ∧ pref z i ≤ 9223372036854775807
  | 0, _ => by simp [pref]
  | i + 1, h => by
    have ih := pref_bd z i (fun j hj => h j (by omega))
    have := h i (by omega)
    unfold okAt at this
    simp only [pref]
    omega

set_option maxRecDepth 100000 in
set_option maxHeartbeats 400000 in
theorem vector_ok (bb n : Nat) (z : Nat → Int) (w : World) (hn : n ≤ 2000) (hb : Arr w bb 2 n n (fun i => .int .i64 (z i))) (hz : ∀ i, i < n → okAt z i) :
    Calls Ybaf.prog 17 #[.agg #[.string ⟨#[107]⟩, .int .i64 n, .int .u8 1, .int .i64 0, .bool false, .slice none 0 0], .slice (some ⟨bb, 0, none⟩) n n] w fun e w' => e = .returned (.tuple #[.int .i64 (pref z n), .nilIface]) ∧ Below w.heap.size w w' := by
  have HB : Hid (Arr w bb 2 n n (fun i => .int .i64 (z i)) ∧ ∀ i, i < n → okAt z i) := ⟨hb, hz⟩
  have hbl := hb.lt
  clear hb hz
  go_enter Ybaf.func17, Ybaf.ntmps17
  go_wp2
  go_loop [6, 26] (fun s i => ∃ m : Nat, m ≤ n ∧ i = .int .i64 m ∧ s = .int .i64 (pref z m)) (fun _ i => n - (intOf i).toNat)
  case atStart => exact ⟨0, Nat.zero_le _, rfl, rfl⟩
  case round =>
    obtain ⟨m, hm, rfl, rfl⟩ := hrel
    obtain ⟨P, hP⟩ : ∃ P, P = pref z m := ⟨_, rfl⟩
    have hpb := pref_bd z m (fun j hj => HB.out.2 j (by omega))
    rw [← hP] at hpb ⊢
    obtain ⟨p1, p2⟩ := hpb
    have HP : Hid (P = pref z m) := hP
    by_cases hlt : m < n
    · obtain ⟨x, hx⟩ : ∃ x, x = z m := ⟨_, rfl⟩
      have hcx : ∀ o, (w.alloc o).cell? ⟨bb, m, none⟩ = some (.int .i64 x) := fun o => by rw [hx]; exact (HB.out.1.alloc o).cell hlt
      have hok := HB.out.2 m hlt
      unfold okAt at hok
      rw [← hP, ← hx] at hok
      obtain ⟨x1, x2⟩ := hok
      have HX : Hid (x = z m) := hx
      clear hP hx
      go_wp2
      go_round
      case rel => exact ⟨m + 1, by omega, by go_num, int_eq (by rw [pref, ← HP.out, ← HX.out])⟩
      case measure => simp [intOf]; omega
    · obtain rfl : n = m := by omega
      clear hP
      go_wp2
      go_ret2
      exact ⟨by rw [← HP.out]; rfl, (Below.refl _ _).alloc (Nat.le_refl _) _⟩

set_option maxRecDepth 100000 in
set_option maxHeartbeats 400000 in
theorem vector_bad (F : Stop.Interp) (bb n p : Nat) (z : Nat → Int) (w : World) (hF : F.answers w.tape) (hn : n ≤ 2000) (hb : Arr w bb 2 n n (fun i => .int .i64 (z i))) (hp : p < n) (hz : ∀ i, i < p → okAt z i) (hbad : ¬ okAt z p) (hlo : -9223372036854775808 ≤ z p) (hhi : z p ≤ 9223372036854775807) :
    Calls Ybaf.prog 17 #[.agg #[.string ⟨#[107]⟩, .int .i64 n, .int .u8 1, .int .i64 0, .bool false, .slice none 0 0], .slice (some ⟨bb, 0, none⟩) n n] w fun e w' => ∃ a, e = .returned (.tuple #[.int .i64 0, .iface 74 (.pointer (some a))]) ∧ Below w.heap.size w w' := by
  have HB : Hid (Arr w bb 2 n n (fun i => .int .i64 (z i)) ∧ (∀ i, i < p → okAt z i) ∧ ¬ okAt z p) := ⟨hb, hz, hbad⟩
  have hbl := hb.lt
  clear hb hz hbad
  go_enter Ybaf.func17, Ybaf.ntmps17
  go_wp2
  go_loop [6, 26] (fun s i => ∃ m : Nat, m ≤ p ∧ i = .int .i64 m ∧ s = .int .i64 (pref z m)) (fun _ i => n - (intOf i).toNat)
  case atStart => exact ⟨0, Nat.zero_le _, rfl, rfl⟩
  case round =>
    obtain ⟨m, hm, rfl, rfl⟩ := hrel
    obtain ⟨P, hP⟩ : ∃ P, P = pref z m := ⟨_, rfl⟩
    have hpb := pref_bd z m (fun j hj => HB.out.2.1 j (by omega))
    rw [← hP] at hpb ⊢
    obtain ⟨p1, p2⟩ := hpb
    have HP : Hid (P = pref z m) := hP
    obtain ⟨x, hx⟩ : ∃ x, x = z m := ⟨_, rfl⟩
    have hcx : ∀ o, (w.alloc o).cell? ⟨bb, m, none⟩ = some (.int .i64 x) := fun o => by rw [hx]; exact (HB.out.1.alloc o).cell (by omega)
    have hmn : m < n := by omega
    by_cases hlt : m < p
    · have hok := HB.out.2.1 m hlt
      unfold okAt at hok
      rw [← hP, ← hx] at hok
      obtain ⟨x1, x2⟩ := hok
      have HX : Hid (x = z m) := hx
      clear hP hx
      go_wp2
      go_round
      case rel => exact ⟨m + 1, by omega, by go_num, int_eq (by rw [pref, ← HP.out, ← HX.out])⟩
      case measure => simp [intOf]; omega
    · obtain rfl : p = m := by omega
      have hno := HB.out.2.2
      unfold okAt at hno
      rw [← hP, ← hx] at hno
      rw [← hx] at hlo hhi
      have HF : Hid (F.answers w.tape) := hF
      clear hP hx hF
      by_cases hneg : x < 0
      · clear hno
        go_wp2_with fail
        refine (errorf_neg F ((p : Int) + 1) _ _ (by exact HF.out) (by simp)).mono ?_
        rintro e w1 ⟨a, rfl, hb1⟩
        have hbw : Below w.heap.size w w1 := (((Below.refl _ _).alloc (Nat.le_refl _) _).alloc (by simp) _).trans (hb1.mono (by simp; omega))
        clear hb1
        go_wp2
        go_ret2
        exact ⟨a, rfl, hbw⟩
      · have hbig : 9223372036854775807 - P < x := by omega
        have hx0 : 0 ≤ x := by omega
        clear hno hneg
        go_wp2_with fail
        refine (errorf_over F 9223372036854775807 _ _ (by exact HF.out) (by simp)).mono ?_
        rintro e w1 ⟨a, rfl, hb1⟩
        have hbw : Below w.heap.size w w1 := (((Below.refl _ _).alloc (Nat.le_refl _) _).alloc (by simp) _).trans (hb1.mono (by simp; omega))
        clear hb1
        go_wp2
        go_ret2
        exact ⟨a, rfl, hbw⟩

theorem pref_nat (bs : List Nat) : ∀ i, i ≤ bs.length → pref (fun j => (nth bs j : Int)) i = ((total (bs.take i) : Nat) : Int)
  | 0, _ => rfl
  | i + 1, h => by
    have h1 := total_take_succ bs i (by omega)
    have h2 := pref_nat bs i (by omega)
    simp only [pref]
    rw [h2, h1]
    unfold nth
    omega

theorem okAt_nat {bs : List Nat} (hS : total bs ≤ 9223372036854775807) {i : Nat} (hi : i < bs.length) : okAt (fun j => (nth bs j : Int)) i := by
  have h1 := total_take_succ bs i hi
  have h2 := total_take_le bs (i + 1)
  unfold okAt
  rw [pref_nat bs i (by omega)]
  simp only
  unfold nth
  omega

theorem PlaceRes.back {w w1 w' : World} {n k : Nat} {bs : List Nat} {e : Ending} (h : PlaceRes w1 n k bs e w') (hb : Below w.heap.size w w1) : PlaceRes w n k bs e w' := by
  obtain ⟨c, h1, h2, h3⟩ := h
  exact ⟨c, h1, hb.trans (h2.mono hb.size), h3⟩

theorem PlaceRes.val {w w' : World} {n k : Nat} {bs : List Nat} {e : Ending} (h : PlaceRes w n k bs e w') : ∃ a l c, e = .returned (.slice a l c) := by
  obtain ⟨c, _, _, ⟨_, h⟩ | ⟨_, R, Pb, V, h, _⟩⟩ := h
  · exact ⟨_, _, _, h⟩
  · exact ⟨_, _, _, h⟩

theorem cells_topo {w w1 : World} {n k : Nat} {o : Obj} (hb : Below ((w.alloc (.cells #[.string ⟨#[107]⟩, .int .i64 n, .int .u8 1, .int .i64 0, .bool false, .slice none 0 0] 27)).alloc o).heap.size ((w.alloc (.cells #[.string ⟨#[107]⟩, .int .i64 n, .int .u8 1, .int .i64 0, .bool false, .slice none 0 0] 27)).alloc o) w1)
    (i : Nat) (_ : k = k) : w1.cell? ⟨w.heap.size, i, none⟩ = (#[Value.string ⟨#[107]⟩, .int .i64 n, .int .u8 1, .int .i64 0, .bool false, .slice none 0 0] : Array Value)[i]? := by
  rw [hb.cell (p := ⟨w.heap.size, i, none⟩) (by simp; omega)]
  rw [World.cell?_alloc_past _ _ _ (by simp)]
  exact World.cell?_alloc_at _ _ _ _ rfl

theorem cells_shape {w w1 : World} {k : Nat} {o : Obj} (hb : Below ((w.alloc o).alloc (.cells #[.string ⟨#[107]⟩, .int .i64 k, .bool false] 29)).heap.size ((w.alloc o).alloc (.cells #[.string ⟨#[107]⟩, .int .i64 k, .bool false] 29)) w1)
    (i : Nat) : w1.cell? ⟨w.heap.size + 1, i, none⟩ = (#[Value.string ⟨#[107]⟩, .int .i64 k, .bool false] : Array Value)[i]? := by
  rw [hb.cell (p := ⟨w.heap.size + 1, i, none⟩) (by simp)]
  exact World.cell?_alloc_at _ _ _ _ (by simp)

set_option maxRecDepth 100000 in
set_option maxHeartbeats 400000 in
theorem Place_none (k : Nat) (a : Option Addr) (w : World) :
    Calls Ybaf.prog 8 #[.agg #[.string ⟨#[107]⟩, .int .i64 (0 : Nat), .int .u8 1, .int .i64 0, .bool false, .slice none 0 0], .agg #[.string ⟨#[107]⟩, .int .i64 k, .bool false], .slice a 0 0] w fun e w' => ∃ a, e = .returned (.tuple #[.slice none 0 0, .iface 74 (.pointer (some a))]) ∧ Below w.heap.size w w' := by
  go_enter Ybaf.func8, Ybaf.ntmps8
  go_wp2_with fail
  refine (placer_none k _).mono ?_
  rintro e w1 ⟨a, rfl, hb⟩
  have hb1 : Below w.heap.size w w1 := (((Below.refl _ _).alloc (Nat.le_refl _) _).alloc (by simp) _).trans (hb.mono (by simp; omega))
  clear hb
  go_wp2
  go_ret2
  exact ⟨a, rfl, hb1⟩

set_option maxRecDepth 100000 in
set_option maxHeartbeats 400000 in
theorem Place_ok (bb n k : Nat) (bs : List Nat) (w : World) (hl : bs.length = n) (hk1 : 1 ≤ k) (hk2 : k ≤ 4000) (hn1 : 1 ≤ n) (hn : n ≤ 2000) (hS : total bs ≤ 9223372036854775807) (hb : Arr w bb 2 n n (fun i => num (nth bs i))) :
    Calls Ybaf.prog 8 #[.agg #[.string ⟨#[107]⟩, .int .i64 n, .int .u8 1, .int .i64 0, .bool false, .slice none 0 0], .agg #[.string ⟨#[107]⟩, .int .i64 k, .bool false], .slice (some ⟨bb, 0, none⟩) n n] w fun e w' =>
      ∃ v, e = .returned (.tuple #[v, .nilIface]) ∧ PlaceRes w n k bs (.returned v) w' := by
  have HB : Hid (Arr w bb 2 n n (fun i => num (nth bs i)) ∧ bs.length = n) := ⟨hb, hl⟩
  have hbl := hb.lt
  clear hb hl
  go_enter Ybaf.func8, Ybaf.ntmps8
  go_wp2_with fail
  refine (placer_any n k _ hn1 hn hk1 hk2).mono ?_
  rintro e w1 ⟨rfl, hb⟩
  have hb1 : Below w.heap.size w w1 := (((Below.refl _ _).alloc (Nat.le_refl _) _).alloc (by simp) _).trans (hb.mono (by simp; omega))
  have ht := fun i => cells_topo hb i (rfl : k = k)
  have t0 := ht 0
  have t1 := ht 1
  have t2 := ht 2
  have t3 := ht 3
  have t4 := ht 4
  have t5 := ht 5
  have hs := cells_shape hb
  have s0 := hs 0
  have s1 := hs 1
  have s2 := hs 2
  simp at t0 t1 t2 t3 t4 t5 s0 s1 s2
  have ha1 := HB.out.1.below hb1 hbl
  have hz1 : w.heap.size + 1 < w1.heap.size := by have := hb.size; simp at this; omega
  have hv := vector_ok bb n (fun j => (nth bs j : Int)) w1 hn ha1 (fun i hi => okAt_nat hS (by rw [HB.out.2]; exact hi))
  rw [pref_nat bs n (by rw [HB.out.2]; exact Nat.le_refl _), ← HB.out.2, List.take_length, HB.out.2] at hv
  have HV : Hid (Calls Ybaf.prog 17 #[.agg #[.string ⟨#[107]⟩, .int .i64 n, .int .u8 1, .int .i64 0, .bool false, .slice none 0 0], .slice (some ⟨bb, 0, none⟩) n n] w1 fun e w' => e = .returned (.tuple #[.int .i64 (total bs : Nat), .nilIface]) ∧ Below w1.heap.size w1 w') := hv
  have HA1 : Hid (Arr w1 bb 2 n n (fun i => num (nth bs i)) ∧ Below w.heap.size w w1) := ⟨ha1, hb1⟩
  clear hb hb1 ht hs hv ha1
  go_wp2_with fail
  refine HV.out.mono ?_
  rintro e w2 ⟨rfl, hb2⟩
  have q0 := (hb2.cell (p := ⟨w.heap.size, 0, none⟩) (by show w.heap.size < _; omega)).trans t0
  have q1 := (hb2.cell (p := ⟨w.heap.size, 1, none⟩) (by show w.heap.size < _; omega)).trans t1
  have q2 := (hb2.cell (p := ⟨w.heap.size, 2, none⟩) (by show w.heap.size < _; omega)).trans t2
  have q3 := (hb2.cell (p := ⟨w.heap.size, 3, none⟩) (by show w.heap.size < _; omega)).trans t3
  have q4 := (hb2.cell (p := ⟨w.heap.size, 4, none⟩) (by show w.heap.size < _; omega)).trans t4
  have q5 := (hb2.cell (p := ⟨w.heap.size, 5, none⟩) (by show w.heap.size < _; omega)).trans t5
  have r0 := (hb2.cell (p := ⟨w.heap.size + 1, 0, none⟩) (by exact hz1)).trans s0
  have r1 := (hb2.cell (p := ⟨w.heap.size + 1, 1, none⟩) (by exact hz1)).trans s1
  have r2 := (hb2.cell (p := ⟨w.heap.size + 1, 2, none⟩) (by exact hz1)).trans s2
  have ha2 := HA1.out.1.below hb2 HA1.out.1.lt
  have HP : Hid (Arr w2 bb 2 n n (fun i => num (nth bs i)) ∧ Below w.heap.size w w2) := ⟨ha2, HA1.out.2.trans (hb2.mono HA1.out.2.size)⟩
  clear hb2 ha2 t0 t1 t2 t3 t4 t5 s0 s1 s2 HV HA1
  go_wp2_with fail
  refine (place_any bb n k bs w2 HB.out.2 hk1 hk2 hn1 hn hS HP.out.1).mono ?_
  intro e w3 hres
  obtain ⟨a, l, c, rfl⟩ := hres.val
  have HR : Hid (PlaceRes w n k bs (.returned (.slice a l c)) w3) := hres.back HP.out.2
  clear hres q0 q1 q2 q3 q4 q5 r0 r1 r2 HP HB
  go_wp2
  go_ret2
  exact ⟨.slice a l c, rfl, HR.out⟩

set_option maxRecDepth 100000 in
set_option maxHeartbeats 400000 in
theorem Place_bad (F : Stop.Interp) (bb n k p : Nat) (z : Nat → Int) (w : World) (hF : F.answers w.tape) (hk1 : 1 ≤ k) (hk2 : k ≤ 4000) (hn1 : 1 ≤ n) (hn : n ≤ 2000) (hb : Arr w bb 2 n n (fun i => .int .i64 (z i))) (hp : p < n) (hz : ∀ i, i < p → okAt z i) (hbad : ¬ okAt z p) (hlo : -9223372036854775808 ≤ z p) (hhi : z p ≤ 9223372036854775807) :
    Calls Ybaf.prog 8 #[.agg #[.string ⟨#[107]⟩, .int .i64 n, .int .u8 1, .int .i64 0, .bool false, .slice none 0 0], .agg #[.string ⟨#[107]⟩, .int .i64 k, .bool false], .slice (some ⟨bb, 0, none⟩) n n] w fun e w' =>
      ∃ a, e = .returned (.tuple #[.slice none 0 0, .iface 74 (.pointer (some a))]) ∧ Below w.heap.size w w' := by
  have HB : Hid (Arr w bb 2 n n (fun i => .int .i64 (z i)) ∧ F.answers w.tape) := ⟨hb, hF⟩
  have hbl := hb.lt
  clear hb hF
  go_enter Ybaf.func8, Ybaf.ntmps8
  go_wp2_with fail
  refine (placer_any n k _ hn1 hn hk1 hk2).mono ?_
  rintro e w1 ⟨rfl, hb⟩
  have hb1 : Below w.heap.size w w1 := (((Below.refl _ _).alloc (Nat.le_refl _) _).alloc (by simp) _).trans (hb.mono (by simp; omega))
  have ht := fun i => cells_topo hb i (rfl : k = k)
  have t0 := ht 0
  have t1 := ht 1
  have t2 := ht 2
  have t3 := ht 3
  have t4 := ht 4
  have t5 := ht 5
  simp at t0 t1 t2 t3 t4 t5
  have ha1 := HB.out.1.below hb1 hbl
  have hv := vector_bad F bb n p z w1 (by rw [hb1.tape]; exact HB.out.2) hn ha1 hp hz hbad hlo hhi
  have HV : Hid (Calls Ybaf.prog 17 #[.agg #[.string ⟨#[107]⟩, .int .i64 n, .int .u8 1, .int .i64 0, .bool false, .slice none 0 0], .slice (some ⟨bb, 0, none⟩) n n] w1 fun e w' => ∃ a, e = .returned (.tuple #[.int .i64 0, .iface 74 (.pointer (some a))]) ∧ Below w1.heap.size w1 w') := hv
  have HA1 : Hid (Below w.heap.size w w1) := hb1
  clear hb hb1 ht hv ha1 hz hbad
  go_wp2_with fail
  refine HV.out.mono ?_
  rintro e w2 ⟨a, rfl, hb2⟩
  have HP : Hid (Below w.heap.size w w2) := HA1.out.trans (hb2.mono HA1.out.size)
  clear hb2 HV HA1
  go_wp2
  go_ret2
  exact ⟨a, rfl, HP.out⟩
end Go.Proofs.YbulkapjgFmt
