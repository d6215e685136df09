/- 'capmax.placeOnComplete' by its contract. -/
import Derived.Test.YbulkapjgFmtCount
import Derived.Test.YbulkapjgFmtDedup
namespace Go.Proofs.YbulkapjgFmt
open Go.RowKit Plain

/-- The first j placements as they lie in memory. -/
structure Laid (w : World) (Pb : Nat) (V : Nat → Nat) (c k n : Nat) (E : Nat → Nat) (R : List Nat) (j : Nat) : Prop where
  cnum : ∀ i, i < j → w.cell? ⟨Pb, i * 2, none⟩ = some (num (copies c R i))
  crow : ∀ i, i < j → w.cell? ⟨Pb, i * 2 + 1, none⟩ = some (.slice (some ⟨V i, 0, none⟩) k k)
  cnode : ∀ i, i < j → ∀ col, col < k → w.cell? ⟨V i, col, none⟩ = some (num (node c n E R i col + 1))

/-- What placeOnComplete hands back. -/
def PlaceRes (w : World) (n k : Nat) (bs : List Nat) (e : Ending) (w' : World) : Prop :=
  ∃ c, IsCount bs k c ∧ Below w.heap.size w w' ∧ ((c = 0 ∧ e = .returned (.slice none 0 0)) ∨
    (0 < c ∧ ∃ (R : List Nat) (Pb : Nat) (V : Nat → Nat), e = .returned (.slice (some ⟨Pb, 0, none⟩) R.length R.length) ∧ R.length ≤ n + 1 ∧ Plain.Rows c n (fillE bs c (k * c)) R ∧ Laid w' Pb V c k n (fillE bs c (k * c)) R R.length))

theorem info69 : (Ybaf.prog.info? 69).map (fun i => (i.zero, i.size, i.bytes)) = some (some (.agg #[.int .i64 0, .slice none 0 0]), 2, 32) := by kernel_rfl
theorem info3 : (Ybaf.prog.info? 3).map (fun i => (i.zero, i.size, i.bytes)) = some (some (.int .i64 0), 1, 8) := by kernel_rfl

theorem kept_cell {w w' : World} {row : Option Nat} (h : w.grownBy w' row) {b o : Nat} {v : Value} (hc : w.cell? ⟨b, o, none⟩ = some v) (hne : row ≠ some b) : w'.cell? ⟨b, o, none⟩ = some v := by
  rw [World.cell?_of_block (a := ⟨b, o, none⟩) (h.block b (block_lt_of_cell hc) (fun e => hne e.symm))]; exact hc

theorem kept_free {w w' : World} {row : Option Nat} (h : w.grownBy w' row) {b o : Nat} (hb : b < w.heap.size) (hc : w.frozen? ⟨b, o, none⟩ = false) (hne : row ≠ some b) : w'.frozen? ⟨b, o, none⟩ = false := by
  rw [World.frozen?_of_block (a := ⟨b, o, none⟩) (h.block b hb (fun e => hne e.symm))]; exact hc

theorem free_on {w : World} {b o : Nat} (hb : b < w.heap.size) (h : w.frozen? ⟨b, o, none⟩ = false) (x : Obj) : (w.alloc x).frozen? ⟨b, o, none⟩ = false := by
  rw [World.frozen?_alloc_past _ _ _ hb]; exact h

theorem cell_on {w : World} {b o : Nat} {v : Value} (h : w.cell? ⟨b, o, none⟩ = some v) (x : Obj) : (w.alloc x).cell? ⟨b, o, none⟩ = some v := by
  rw [World.cell?_alloc_past _ _ _ (by exact block_lt_of_cell h)]; exact h

theorem slice_form {w : World} {base : Nat} {t : TypeId} {v : Value} {n : Nat} {xs : List Value} (h : w.ownsRow base t 1 v n xs) (hn : 0 < n) : ∃ g cap, v = .slice (some ⟨g, 0, none⟩) n cap := by
  rcases h.2 with ⟨_, h0⟩ | ⟨g, cap, _, h', _⟩
  · omega
  · exact ⟨g, cap, h'⟩

theorem one_cell (w : World) (v : Value) (t : TypeId) (j : Nat) (u : Value) (h : [v][j]? = some u) : (w.alloc (.cells #[v] t)).cell? ((⟨w.heap.size, 0, none⟩ : Addr).add j) = some u := by
  match j, h with
  | 0, h => simp at h; subst h; simp [Addr.add]

theorem emod_nat {x c : Nat} : ((x : Int) % (c : Int)) = ((x % c : Nat) : Int) := (Int.natCast_emod _ _).symm

theorem starts_step {w2 wA w' : World} {i St cap g' cap' c x : Nat} {E : Nat → Nat} {v0 : Value} (hbA : Below w2.heap.size w2 wA) (hSbA : Arr wA (w2.heap.size + 1) 23 1 1 (fun _ => v0)) (hSt : w2.heap.size ≤ St) (hneS : w2.heap.size + 1 ≠ St)
    (hown' : w'.ownsRow w2.heap.size 2 1 (.slice (some ⟨g', 0, none⟩) (i + 1 + 1) cap') (i + 1 + 1) ((startsL c E i).map num ++ [.int .i64 ((x : Int) % (c : Int))]))
    (hgrow' : wA.grownBy w' (Value.slice (some ⟨St, 0, none⟩) (i + 1) cap).ownBlock) (hx : x = E (i + 1)) :
    Below w2.heap.size w2 (w'.setCell ⟨w2.heap.size + 1, 0, none⟩ (.slice (some ⟨g', 0, none⟩) (i + 1 + 1) cap')) ∧
    Arr (w'.setCell ⟨w2.heap.size + 1, 0, none⟩ (.slice (some ⟨g', 0, none⟩) (i + 1 + 1) cap')) (w2.heap.size + 1) 23 1 1 (fun _ => .slice (some ⟨g', 0, none⟩) (i + 1 + 1) cap') ∧
    (w'.setCell ⟨w2.heap.size + 1, 0, none⟩ (.slice (some ⟨g', 0, none⟩) (i + 1 + 1) cap')).ownsRow w2.heap.size 2 1 (.slice (some ⟨g', 0, none⟩) (i + 1 + 1) cap') (i + 1 + 1) ((startsL c E (i + 1)).map num) := by
  have hk : Arr w' (w2.heap.size + 1) 23 1 1 (fun _ => v0) := hSbA.kept hgrow' (by simp only [Value.ownBlock]; intro e; exact hneS (Option.some.inj e).symm)
  have hne : w2.heap.size + 1 ≠ g' := hk.ne (Arr.of_owns hown' (.int .i64 0)).1 (by decide)
  refine ⟨(hbA.grown hgrow' hbA.size (fun k hk => ?_)).setCell (by show w2.heap.size ≤ w2.heap.size + 1; omega) _, ?_, ?_⟩
  · simp only [Value.ownBlock, Option.some.injEq] at hk; omega
  · exact (hk.set 0 _).congr (fun j hj => by obtain rfl : j = 0 := by omega
                                             rfl)
  · have e : (startsL c E (i + 1)).map num = (startsL c E i).map num ++ [.int .i64 ((x : Int) % (c : Int))] := by
      rw [startsL_succ, List.map_append, emod_nat, hx]; rfl
    rw [e]
    exact ownsRow_setCell_other hown' (by simp only [Value.ownBlock]; intro e; exact hne (Option.some.inj e).symm) _

theorem arr_of_starts {w : World} {base g cap n c : Nat} {E : Nat → Nat} (h : w.ownsRow base 2 1 (.slice (some ⟨g, 0, none⟩) (n + 1) cap) (n + 1) ((startsL c E n).map num)) :
    Arr w g 2 cap (startsL c E n).length (fun i => num (nth (startsL c E n) i)) ∧ base ≤ g ∧ cap ≤ maxLen := by
  obtain ⟨h1, h2, h3⟩ := Arr.of_owns h (.int .i64 0)
  refine ⟨?_, h2, h3⟩
  rw [startsL_length]
  refine h1.congr (fun i hi => ?_)
  have hi' : i < (startsL c E n).length := by rw [startsL_length]; exact hi
  simp [List.getD, hi', nth]

theorem dd_last {R ts : List Nat} {i n r y : Nat} (hl : ts.length = n + 1) (hi : i < n) (hR : R.length = r + 1) (h : Dd R (ts.take (i + 1))) (hy : y = nth R r) :
    y = nth (ts.take (i + 1)) ((ts.take (i + 1)).length - 1) ∧ y = nth ts i := by
  have h1 := h.last
  rw [hR, Nat.add_sub_cancel, ← hy] at h1
  have hlen : (ts.take (i + 1)).length = i + 1 := by simp; omega
  refine ⟨h1, ?_⟩
  rw [h1, hlen, Nat.add_sub_cancel, nth_take (by omega)]

theorem dd_same {R ts : List Nat} {i n r x y : Nat} (hl : ts.length = n + 1) (hi : i < n) (hR : R.length = r + 1) (h : Dd R (ts.take (i + 1))) (hx : x = nth ts (i + 1)) (hy : y = nth R r) (e : x = y) : Dd R (ts.take (i + 1 + 1)) := by
  rw [take_snoc' ts (i + 1) (by omega), ← hx]
  exact h.same (by rw [e]; exact (dd_last hl hi hR h hy).1)

theorem dd_more {R ts : List Nat} {i n r x y : Nat} (hl : ts.length = n + 1) (hs : ts.Pairwise (· ≤ ·)) (hi : i < n) (hR : R.length = r + 1) (h : Dd R (ts.take (i + 1))) (hx : x = nth ts (i + 1)) (hy : y = nth R r) (e : ¬ x = y) : Dd (R ++ [x]) (ts.take (i + 1 + 1)) := by
  rw [take_snoc' ts (i + 1) (by omega), ← hx]
  have hd := dd_last hl hi hR h hy
  have hle := sorted_le hs (i := i) (j := i + 1) (by omega) (by omega)
  exact h.more (by rw [← hd.1]; have := hd.2; omega)

theorem grown_set {w4 wr : World} {g p : Nat} (h : w4.grownBy wr (some g)) (o : Obj) (v : Value) : w4.grownBy ((wr.alloc o).setCell ⟨g, p, none⟩ v) (some g) := by
  refine ⟨h.os, h.tape, h.output, by simp; have := h.size; omega, fun k hk hne => ?_⟩
  rw [Below.heap_setCell _ _ _ _ (by intro e; exact hne (by rw [e])), Below.heap_alloc _ _ _ (by have := h.size; omega)]
  exact h.block k hk hne

theorem setCells_one (w : World) (g p : Nat) (v : Value) : w.setCells g (0 + p * 1) [v] = w.setCell ⟨g, p, none⟩ v := by
  simp [World.setCells]

theorem rows_more {wr : World} {g cap n i r : Nat} {R ts : List Nat} {A : Nat → Value} {x : Nat} (o : Obj) (hR : R.length = r + 1) (hri : r ≤ i) (hA : Arr wr g 2 cap (n + 1) A) (h1 : ∀ p, p < r + 1 → A p = num (nth R p)) (h2 : ∀ p, i + 1 ≤ p → p < n + 1 → A p = num (nth ts p)) :
    Arr ((wr.alloc o).setCell ⟨g, r + 1, none⟩ (.int .i64 x)) g 2 cap (n + 1) (fun p => if p = r + 1 then .int .i64 x else A p) ∧
    (∀ p, p < r + 1 + 1 → (fun p => if p = r + 1 then Value.int .i64 x else A p) p = num (nth (R ++ [x]) p)) ∧ (∀ p, i + 1 + 1 ≤ p → p < n + 1 → (fun p => if p = r + 1 then Value.int .i64 x else A p) p = num (nth ts p)) := by
  refine ⟨(hA.alloc o).set (r + 1) _, ?_, ?_⟩
  · intro p hp
    by_cases e : p = r + 1
    · subst e
      simp only [if_true]
      rw [← hR, nth_append_right]; rfl
    · simp only [e, if_false]
      rw [h1 p (by omega), nth_append_left (by omega)]
  · intro p hp1 hp2
    simp only [show ¬ p = r + 1 by omega, if_false]
    exact h2 p (by omega) hp2

theorem arr_of_owns2 {w : World} {base g n : Nat} {t : TypeId} {xs : List Value} (h : w.ownsRow base t 2 (.slice (some ⟨g, 0, none⟩) n n) n xs) : ∃ P, Arr w g t (n * 2) (n * 2) P := by
  rcases h.2 with ⟨h', _⟩ | ⟨g', cap', cur, h', hg, hb, hn, hm, hs, htake⟩
  · simp at h'
  · simp only [Value.slice.injEq, Option.some.injEq, Addr.mk.injEq, and_true, true_and] at h'
    obtain ⟨rfl, rfl⟩ := h'
    exact ⟨fun i => cur.getD i undef, cur, hb, hs, Nat.le_refl _, fun i hi => by simp [show i < cur.size by omega]⟩

theorem arr_node {wr : World} {g m k : Nat} {F : Nat → Nat} (h : Arr wr g 3 k k (fun j => if j < m then num (F j + 1) else num 0)) {v : Value} (hv : v = num (F m + 1)) :
    Arr (wr.setCell ⟨g, m, none⟩ v) g 3 k k (fun j => if j < m + 1 then num (F j + 1) else num 0) := by
  refine (h.set m _).congr (fun i _ => ?_)
  by_cases e : i = m
  · subst e; simp only [if_true, Nat.lt_succ_self]; exact hv
  · by_cases e2 : i < m
    · simp only [e, e2, if_false, if_true, show i < m + 1 by omega]
    · simp only [e, e2, if_false, show ¬ i < m + 1 by omega]

theorem place_step {w6 w7 wr : World} {Pb r j k c n : Nat} {V : Nat → Nat} {P : Nat → Value} {E : Nat → Nat} {R : List Nat} {v : Value} (hg : w6.grownBy w7 (some Pb)) (hAP : Arr wr Pb 69 ((r + 1) * 2) ((r + 1) * 2) P) (hL : Laid w7 Pb V c k n E R j)
    (hV : ∀ i, i < j → w6.heap.size ≤ V i ∧ V i < w7.heap.size) (hb : Below w7.heap.size w7 wr) (hs : w7.heap.size < wr.heap.size) (hN : Arr wr w7.heap.size 3 k k (fun p => if p < k then num (node c n E R j p + 1) else num 0)) (hPl : Pb < w6.heap.size) (hv : v = num (copies c R j)) (hj : j < r + 1) :
    w6.grownBy ((wr.setCell ⟨Pb, j * 2, none⟩ v).setCell ⟨Pb, j * 2 + 1, none⟩ (.slice (some ⟨w7.heap.size, 0, none⟩) k k)) (some Pb) ∧
    (∃ P', Arr ((wr.setCell ⟨Pb, j * 2, none⟩ v).setCell ⟨Pb, j * 2 + 1, none⟩ (.slice (some ⟨w7.heap.size, 0, none⟩) k k)) Pb 69 ((r + 1) * 2) ((r + 1) * 2) P') ∧
    Laid ((wr.setCell ⟨Pb, j * 2, none⟩ v).setCell ⟨Pb, j * 2 + 1, none⟩ (.slice (some ⟨w7.heap.size, 0, none⟩) k k)) Pb (fun i => if i = j then w7.heap.size else V i) c k n E R (j + 1) ∧
    (∀ i, i < j + 1 → w6.heap.size ≤ (fun i => if i = j then w7.heap.size else V i) i ∧ (fun i => if i = j then w7.heap.size else V i) i < ((wr.setCell ⟨Pb, j * 2, none⟩ v).setCell ⟨Pb, j * 2 + 1, none⟩ (.slice (some ⟨w7.heap.size, 0, none⟩) k k)).heap.size) := by
  have hgs := hg.size
  have hbs := hb.size
  have hP' := (hAP.set (j * 2) v).set (j * 2 + 1) (.slice (some ⟨w7.heap.size, 0, none⟩) k k)
  have hother : ∀ b o, b ≠ Pb → ((wr.setCell ⟨Pb, j * 2, none⟩ v).setCell ⟨Pb, j * 2 + 1, none⟩ (.slice (some ⟨w7.heap.size, 0, none⟩) k k)).cell? ⟨b, o, none⟩ = wr.cell? ⟨b, o, none⟩ := by
    intro b o hne
    rw [World.cell?_setCell_other _ _ _ _ (by intro e; cases e; exact hne rfl), World.cell?_setCell_other _ _ _ _ (by intro e; cases e; exact hne rfl)]
  have hold : ∀ i, i < j → ∀ o, o = i * 2 ∨ o = i * 2 + 1 → ((wr.setCell ⟨Pb, j * 2, none⟩ v).setCell ⟨Pb, j * 2 + 1, none⟩ (.slice (some ⟨w7.heap.size, 0, none⟩) k k)).cell? ⟨Pb, o, none⟩ = w7.cell? ⟨Pb, o, none⟩ := by
    intro i hi o ho
    rw [World.cell?_setCell_other _ _ _ _ (by intro e; cases e; omega), World.cell?_setCell_other _ _ _ _ (by intro e; cases e; omega)]
    exact hb.cell (p := ⟨Pb, o, none⟩) (by show Pb < _; omega)
  refine ⟨⟨hb.os.trans hg.os, hb.tape.trans hg.tape, hb.output.trans hg.output, by simp; omega, fun m hm hne => ?_⟩, ⟨_, hP'⟩, ?_, ?_⟩
  · have hne' : m ≠ Pb := fun e => hne (by rw [e])
    rw [Below.heap_setCell _ _ _ _ hne', Below.heap_setCell _ _ _ _ hne', hb.block m (by omega)]
    exact hg.block m hm hne
  · constructor
    · intro i hi
      by_cases e : i = j
      · subst e
        rw [hP'.cell (by omega)]
        simp only [show ¬ i * 2 = i * 2 + 1 by omega, if_false, if_true, hv]
      · rw [hold i (by omega) _ (Or.inl rfl)]; exact hL.cnum i (by omega)
    · intro i hi
      by_cases e : i = j
      · subst e
        rw [hP'.cell (by omega)]
        simp only [if_true]
      · rw [hold i (by omega) _ (Or.inr rfl)]
        simp only [e, if_false]; exact hL.crow i (by omega)
    · intro i hi col hcol
      by_cases e : i = j
      · subst e
        simp only [if_true]
        rw [hother _ _ (by omega), hN.cell hcol]
        simp only [hcol, if_true]
      · simp only [e, if_false]
        have h1 := hV i (by omega)
        rw [hother _ _ (by omega), hb.cell (p := ⟨V i, col, none⟩) (by exact h1.2)]
        exact hL.cnode i (by omega) col hcol
  · intro i hi
    by_cases e : i = j
    · subst e; simp only [if_true, World.size_setCell]; omega
    · simp only [e, if_false, World.size_setCell]
      have h1 := hV i (by omega)
      omega

theorem copy_val {c n j x y : Nat} {E : Nat → Nat} {R : List Nat} (hR : Plain.Rows c n E R) (hj : j < R.length) (hx : x = nth R j) (hy : y = next c R j) (hc : c ≤ 9223372036854775807) :
    Value.int .i64 ((y : Int) - (x : Int)) = num (copies c R j) ∧ Value.int .i64 (wrap64 ((y : Int) - (x : Int))) = num (copies c R j) := by
  have h := hR.next_gt hj
  have e : (y : Int) - (x : Int) = ((copies c R j : Nat) : Int) := by
    have hx' : x = row R j := hx
    unfold copies
    rw [← hy] at h ⊢
    rw [← hx'] at h ⊢
    omega
  have h2 : copies c R j ≤ 9223372036854775807 := by unfold copies; omega
  rw [e]
  refine ⟨rfl, ?_⟩
  have e2 : wrap64 ((copies c R j : Nat) : Int) = ((copies c R j : Nat) : Int) := by unfold wrap64; omega
  rw [e2]; rfl

theorem fill_cast {bs : List Nat} {c K m F x : Nat} (hF : F = fillE bs c K m) (hx : x = nth bs m) (hm : m < bs.length) (hK : F ≤ K) :
    ((F : Int) + if (K : Int) - (F : Int) < if c < x then (c : Int) else (x : Int) then (K : Int) - (F : Int) else if c < x then (c : Int) else (x : Int)) = ((fillE bs c K (m + 1) : Nat) : Int) := by
  have h := fillE_succ bs c K m hm
  rw [← hF] at h
  have hx' : bs.getD m 0 = x := hx.symm
  rw [hx'] at h
  rw [h]
  split <;> split <;> omega

theorem arr_fill {wr : World} {g m n : Nat} {bs : List Nat} {c K : Nat} (h : Arr wr g 2 n n (fun j => if j < m then num (fillE bs c K (j + 1)) else num 0)) :
    Arr (wr.setCell ⟨g, m, none⟩ (.int .i64 (fillE bs c K (m + 1) : Nat))) g 2 n n (fun j => if j < m + 1 then num (fillE bs c K (j + 1)) else num 0) := by
  refine (h.set m _).congr (fun i _ => ?_)
  by_cases e : i = m
  · subst e; simp only [if_true, Nat.lt_succ_self]; rfl
  · by_cases e2 : i < m
    · simp only [e, e2, if_false, if_true, show i < m + 1 by omega]
    · simp only [e, e2, if_false, show ¬ i < m + 1 by omega]

set_option maxRecDepth 100000 in
set_option maxHeartbeats 1000000 in
theorem place_any (bb n k : Nat) (bs : List Nat) (w : World) (hl : bs.length = n) (hk1 : 1 ≤ k) (hk2 : k ≤ 4000) (hn1 : 1 ≤ n) (hn : n ≤ 2000) (hS : total bs ≤ 9223372036854775807) (hb : Arr w bb 2 n n (fun i => num (nth bs i))) :
    Calls Ybaf.prog 29 #[.agg #[.string ⟨#[107]⟩, .int .i64 n, .int .u8 1, .int .i64 0, .bool false, .slice none 0 0], .agg #[.string ⟨#[107]⟩, .int .i64 k, .bool false], .slice (some ⟨bb, 0, none⟩) n n, .int .i64 (total bs)] w fun e w' => PlaceRes w n k bs e w' := by
  have HL : Hid (bs.length = n) := hl
  have HB : Hid (Arr w bb 2 n n (fun i => num (nth bs i))) := hb
  have hbl := hb.lt
  have hmk := run_make_row' (P := Ybaf.prog) 23 2 (.int .i64 0) 8 Ybaf.underlying23 info2 rfl .i64 .i64 n (by omega) (by omega)
  clear hl hb
  go_enter Ybaf.func29, Ybaf.ntmps29
  go_wp2_with fail
  refine (count_any bb n k bs _ HL.out hk1 hn hS ((HB.out.alloc _).alloc _)).mono ?_
  rintro e w1 ⟨c, rfl, hcnt, hbel1⟩
  have hbw1 : Below w.heap.size w w1 := (((Below.refl _ _).alloc (Nat.le_refl _) _).alloc (by simp) _).trans (hbel1.mono (by simp; omega))
  have ha1 : Arr w1 bb 2 n n (fun i => num (nth bs i)) := ((HB.out.alloc _).alloc _).below hbel1 (by simp; omega)
  have hkc := hcnt.le_total
  have HCN : Hid (IsCount bs k c) := hcnt
  clear hbel1 hcnt HB
  by_cases hc0 : c = 0
  · subst hc0
    go_wp2
    go_ret
    exact ⟨0, HCN.out, hbw1, Or.inl ⟨rfl, rfl⟩⟩
  have hcpos : 0 < c := by omega
  have hc0' : ((c : Int) == 0) = false := by simpa using hc0
  have HF : Hid (Filled c k n (fillE bs c (k * c)) (fun i => nth bs i)) := by have := filled hcpos HCN.out; rw [HL.out] at this; exact this
  have hKb : k * c ≤ 9223372036854775807 := by omega
  obtain ⟨K, hK⟩ : ∃ K, K = k * c := ⟨_, rfl⟩
  have hKI : ((k : Int) * (c : Int)) = (K : Int) := by rw [hK]; simp
  have hbw1s := hbw1.size
  have HK : Hid (K = k * c) := hK
  have hKb' : K ≤ 9223372036854775807 := by omega
  have hKt : K ≤ total bs := by omega
  clear hK hkc hKb
  go_wp2
  go_loopw [13, 45] (fun f i wr => ∃ m : Nat, m ≤ n ∧ i = .int .i64 m ∧ f = .int .i64 (fillE bs c K m : Nat) ∧ Below w1.heap.size w1 wr ∧ wr.heap.size = w1.heap.size + 2 ∧ Arr wr w1.heap.size 2 n n (fun j => if j < m then num (fillE bs c K (j + 1)) else num 0) ∧
      Arr wr (w1.heap.size + 1) 23 1 1 (fun _ => .slice (some ⟨w1.heap.size, 0, none⟩) n n)) (fun _ i _ => n - (intOf i).toNat)
  case atStart =>
    refine ⟨0, Nat.zero_le _, rfl, by rw [fillE_zero]; rfl, ((Below.refl _ _).alloc (Nat.le_refl _) _).alloc (by simp) _, by simp, ?_, ?_⟩
    · exact ((Arr.made w1 (.int .i64 0) n 2).alloc _).congr (fun i _ => by simp only [Nat.not_lt_zero, if_false]; rfl)
    · have := Arr.box (w1.alloc (.cells (madeCells #[.int .i64 0] n) 2)) (.slice (some ⟨w1.heap.size, 0, none⟩) n n) 23
      rw [World.size_alloc] at this
      exact this
  case round =>
    obtain ⟨m, hm, rfl, rfl, hbx, hsz, hA, hE⟩ := hrel
    obtain ⟨F, hFe⟩ : ∃ F, F = fillE bs c K m := ⟨_, rfl⟩
    have hFK : F ≤ K := by rw [hFe]; exact fillE_le _ _ _ _
    rw [← hFe]
    have HFE : Hid (F = fillE bs c K m) := hFe
    have HX : Hid (Below w1.heap.size w1 wr) := hbx
    have HZ : Hid (wr.heap.size = w1.heap.size + 2) := hsz
    have HA : Hid (Arr wr w1.heap.size 2 n n (fun j => if j < m then num (fillE bs c K (j + 1)) else num 0)) := hA
    have HE : Hid (Arr wr (w1.heap.size + 1) 23 1 1 (fun _ => .slice (some ⟨w1.heap.size, 0, none⟩) n n)) := hE
    have hEc : wr.cell? ⟨w1.heap.size + 1, 0, none⟩ = some (.slice (some ⟨w1.heap.size, 0, none⟩) n n) := hE.cell (i := 0) (by omega)
    by_cases hlt : m < n
    · obtain ⟨x, hx⟩ : ∃ x, x = nth bs m := ⟨_, rfl⟩
      have hcx : wr.cell? ⟨bb, m, none⟩ = some (.int .i64 x) := by rw [hx]; exact (ha1.below hbx ha1.lt).cell hlt
      have hxb : x ≤ 9223372036854775807 := by
        rw [hx]; have h1 := total_take_succ bs m (by rw [HL.out]; exact hlt); have h2 := total_take_le bs (m + 1); unfold nth; omega
      have HX2 : Hid (x = nth bs m) := hx
      obtain ⟨v0, hv0⟩ := hA.some_cell (i := m) hlt
      have hfr := hA.free m
      clear hFe hbx hsz hA hE hx ha1
      go_wp2
      go_roundw
      case rel =>
        rw [fill_cast HFE.out HX2.out (by rw [HL.out]; exact hlt) hFK]
        exact ⟨m + 1, by omega, by go_num, rfl, HX.out.setCell (by exact Nat.le_refl _) _, by simpa using HZ.out, arr_fill HA.out, HE.out.set_other (by show w1.heap.size + 1 ≠ w1.heap.size; omega) _⟩
      case measure => simp [intOf]; omega
    · obtain rfl : n = m := by omega
      obtain ⟨w2, rfl⟩ : ∃ x, x = wr := ⟨_, rfl⟩
      have HEn : Hid (Arr w2 w1.heap.size 2 n n (fun j => num (fillE bs c K (j + 1)))) := hA.congr (fun i hi => by simp only [hi, if_true])
      clear hFe hbx hsz hA hE HA HFE
      have p2 : ∀ x y, ((w2.alloc x).alloc y).cell? ⟨w1.heap.size + 1, 0, none⟩ = some (.slice (some ⟨w1.heap.size, 0, none⟩) n n) := fun x y => cell_on (cell_on hEc x) y
      have hz2' := HZ.out
      have hlt1 : w1.heap.size + 1 < w2.heap.size := by omega
      clear hz2'
      go_wp2
      obtain ⟨i0, hi, hz0, hz1, hz2⟩ := info_parts info2
      go_loopw [66] (fun s wr => ∃ i St cap : Nat, i ≤ n ∧ s = .int .i64 i ∧ Below w2.heap.size w2 wr ∧ Arr wr (w2.heap.size + 1) 23 1 1 (fun _ => .slice (some ⟨St, 0, none⟩) (i + 1) cap) ∧
          wr.ownsRow w2.heap.size 2 1 (.slice (some ⟨St, 0, none⟩) (i + 1) cap) (i + 1) ((startsL c (fillE bs c K) i).map num)) (fun s _ => n - (intOf s).toNat)
      case atStart =>
        refine ⟨0, w2.heap.size, 1, Nat.zero_le _, rfl, ((Below.refl _ _).alloc (Nat.le_refl _) _).alloc (by simp) _, ?_, ?_⟩
        · have := Arr.box (w2.alloc (.cells #[.int .i64 0] 2)) (.slice (some ⟨w2.heap.size, 0, none⟩) 1 1) 23
          rw [World.size_alloc] at this
          exact this
        · exact ((Arr.box w2 (.int .i64 0) 2).alloc _).owns (Nat.le_refl _) (by decide)
      case round =>
        obtain ⟨i, St, cap, hin, rfl, hbx, hSb, hown⟩ := hrel
        have hsb : wr.cell? ⟨w2.heap.size + 1, 0, none⟩ = some (.slice (some ⟨St, 0, none⟩) (i + 1) cap) := hSb.cell (i := 0) (by omega)
        have hsf := hSb.free 0
        have hbxs := hbx.size
        have hsbl := hSb.lt
        by_cases hlt : i < n
        · obtain ⟨x, hx⟩ : ∃ x, x = fillE bs c K (i + 1) := ⟨_, rfl⟩
          have hcx : wr.cell? ⟨w1.heap.size, i, none⟩ = some (.int .i64 x) := by rw [hx]; exact (HEn.out.below hbx HEn.out.lt).cell hlt
          have hxb : x ≤ 9223372036854775807 := by rw [hx]; have := fillE_le bs c K (i + 1); omega
          have HX2 : Hid (x = fillE bs c K (i + 1)) := hx
          have HSb : Hid (Arr wr (w2.heap.size + 1) 23 1 1 (fun _ => .slice (some ⟨St, 0, none⟩) (i + 1) cap)) := hSb
          have HO : Hid (wr.ownsRow w2.heap.size 2 1 (.slice (some ⟨St, 0, none⟩) (i + 1) cap) (i + 1) ((startsL c (fillE bs c K) i).map num)) := hown
          have HBX : Hid (Below w2.heap.size w2 wr) := hbx
          have hcI : (0 : Int) < (c : Int) := by omega
          clear hx hSb hown hbx hsb
          have hsb : wr.cell? ⟨w2.heap.size + 1, 0, none⟩ = some (.slice (some ⟨St, 0, none⟩) (i + 1) cap) := HSb.out.cell (i := 0) (by omega)
          have hneS : w2.heap.size + 1 ≠ St := HSb.out.ne (Arr.of_owns HO.out (.int .i64 0)).1 (by decide)
          have hneS' : (Value.slice (some ⟨St, 0, none⟩) (i + 1) cap).ownBlock ≠ some (w2.heap.size + 1) := by simp only [Value.ownBlock]; intro e; exact hneS (Option.some.inj e).symm
          go_wp2
          go_region_law (refine step_append_own rfl (.tmp 70) (.tmp 74) 23 rfl w2.heap.size 2 i0 (.int .i64 0) 1 8 Ybaf.underlying23 hi hz0 hz1 hz2 rfl (by decide) _ _ _ rfl (by exact HO.out.alloc _) ⟨wr.heap.size, 0, none⟩ 1 1 [.int .i64 ((x : Int) % (c : Int))] rfl rfl (by exact one_cell _ _ _) (by intro u hu; simp at hu; subst hu; rfl) (by unfold maxLen; omega) (by omega) (by simp; omega) ?_; intro v' w' hown' hgrow'; obtain ⟨g', cap', hv'⟩ := slice_form hown' (by omega); subst hv'; have hsb' := kept_cell hgrow' (b := w2.heap.size + 1) (o := 0) (cell_on hsb _) hneS'; have hsf' := kept_free hgrow' (b := w2.heap.size + 1) (o := 0) (by simp; omega) (free_on hsbl hsf _) hneS')
          all_goals go_wp2
          all_goals
            have R := starts_step (by exact (HBX.out.alloc hbxs _).drew) (by exact HSb.out.alloc _) (Arr.of_owns HO.out (.int .i64 0)).2.1 hneS hown' hgrow' HX2.out
            go_roundw
            case rel => exact ⟨i + 1, g', cap', by omega, by go_num, R.1, R.2.1, R.2.2⟩
            case measure => simp [intOf]; omega
        · obtain rfl : n = i := by omega
          obtain ⟨w3, rfl⟩ : ∃ x, x = wr := ⟨_, rfl⟩
          obtain ⟨haS, hStb, hcapm⟩ := arr_of_starts hown
          have hSl := startsL_length c (fillE bs c K) n
          have hneS : w2.heap.size + 1 ≠ St := hSb.ne haS (by decide)
          have hS1 := sort_up St cap (w2.heap.size + 1) (startsL c (fillE bs c K) n) w3 (by rw [hSl]; omega) (by rw [hSl]; exact hsb) hneS haS
          rw [hSl] at hS1 haS
          have HS : Hid (Calls Ybaf.prog 44 #[.iface 23 (.slice (some ⟨St, 0, none⟩) (n + 1) cap), .func (.func 45) #[] #[.pointer (some ⟨w2.heap.size + 1, 0, none⟩)]] w3 fun e w' =>
              e = .returned (.tuple #[]) ∧ ∃ ts : List Nat, ts.Perm (startsL c (fillE bs c K) n) ∧ ts.Pairwise (· ≤ ·) ∧ w3.grownBy w' (some St) ∧ Arr w' St 2 cap ts.length (fun i => num (nth ts i))) := hS1
          have hcap1 : n + 1 ≤ cap := haS.le
          have HSb : Hid (Arr w3 (w2.heap.size + 1) 23 1 1 (fun _ => .slice (some ⟨St, 0, none⟩) (n + 1) cap)) := hSb
          have HBX : Hid (Below w2.heap.size w2 w3) := hbx
          clear hS1 haS hSl hown hSb hbx
          have hsb : w3.cell? ⟨w2.heap.size + 1, 0, none⟩ = some (.slice (some ⟨St, 0, none⟩) (n + 1) cap) := HSb.out.cell (i := 0) (by omega)
          go_wp2_with fail
          refine HS.out.mono ?_
          rintro e w4 ⟨rfl, ts, hperm, hasc, hg4, hT⟩
          have htl : ts.length = n + 1 := by rw [hperm.length_eq, startsL_length]
          rw [htl] at hT
          have hsb4 : w4.cell? ⟨w2.heap.size + 1, 0, none⟩ = some (.slice (some ⟨St, 0, none⟩) (n + 1) cap) := kept_cell hg4 hsb (by intro e; exact hneS (Option.some.inj e).symm)
          have HP : Hid (ts.Perm (startsL c (fillE bs c K) n) ∧ ts.Pairwise (· ≤ ·) ∧ w3.grownBy w4 (some St) ∧ ts.length = n + 1) := ⟨hperm, hasc, hg4, htl⟩
          have HT : Hid (Arr w4 St 2 cap (n + 1) (fun i => num (nth ts i))) := hT
          clear HS hperm hasc hg4 hT htl hsb
          have hcapI : (1 : Int) ≤ (cap : Int) := by omega
          unfold maxLen at hcapm
          go_wp2
          go_loopw [19, 86] (fun v s wr => ∃ (i r : Nat) (R : List Nat) (A : Nat → Value), i ≤ n ∧ r ≤ i ∧ s = .int .i64 i ∧ v = .slice (some ⟨St, 0, none⟩) (r + 1) cap ∧ R.length = r + 1 ∧ Dd R (ts.take (i + 1)) ∧ Arr wr St 2 cap (n + 1) A ∧
              (∀ p, p < r + 1 → A p = num (nth R p)) ∧ (∀ p, i + 1 ≤ p → p < n + 1 → A p = num (nth ts p)) ∧ w4.grownBy wr (some St)) (fun _ s _ => n - (intOf s).toNat)
          case atStart =>
            refine ⟨0, 0, [nth ts 0], _, Nat.zero_le _, Nat.le_refl _, rfl, rfl, rfl, ?_, HT.out, ?_, fun p _ _ => rfl, ⟨rfl, rfl, rfl, Nat.le_refl _, fun _ _ _ => rfl⟩⟩
            · rw [take_one (by rw [HP.out.2.2.2]; omega)]; exact Dd.start _
            · intro p hp
              obtain rfl : p = 0 := by omega
              rfl
          case round =>
            obtain ⟨i, r, R, A, hin, hri, rfl, rfl, hRl, hDd, hAr, hA1, hA2, hgr⟩ := hrel
            by_cases hlt : i < n
            · obtain ⟨x, hx⟩ : ∃ x, x = nth ts (i + 1) := ⟨_, rfl⟩
              obtain ⟨y, hy⟩ : ∃ y, y = nth R r := ⟨_, rfl⟩
              have hcx : wr.cell? ⟨St, 1 + i, none⟩ = some (.int .i64 x) := by rw [hx, Nat.add_comm 1 i, hAr.cell (by omega), hA2 (i + 1) (Nat.le_refl _) (by omega)]; rfl
              have hcy : wr.cell? ⟨St, r, none⟩ = some (.int .i64 y) := by rw [hy, hAr.cell (by omega), hA1 r (by omega)]; rfl
              have HI : Hid (R.length = r + 1 ∧ Dd R (ts.take (i + 1)) ∧ Arr wr St 2 cap (n + 1) A ∧ (∀ p, p < r + 1 → A p = num (nth R p)) ∧ (∀ p, i + 1 ≤ p → p < n + 1 → A p = num (nth ts p)) ∧ w4.grownBy wr (some St)) := ⟨hRl, hDd, hAr, hA1, hA2, hgr⟩
              have HXY : Hid (x = nth ts (i + 1) ∧ y = nth R r) := ⟨hx, hy⟩
              clear hRl hDd hAr hA1 hA2 hgr hx hy
              by_cases hxy : x = y
              · have hxyB : ((x : Int) != (y : Int)) = false := by rw [hxy]; simp
                have HE2 : Hid (x = y) := hxy
                clear hxy
                go_wp2
                go_roundw
                case rel =>
                  obtain ⟨hRl, hDd, hAr, hA1, hA2, hgr⟩ := HI.out
                  exact ⟨i + 1, r, R, A, by omega, by omega, by go_num, rfl, hRl, dd_same HP.out.2.2.2 hlt hRl hDd HXY.out.1 HXY.out.2 HE2.out, hAr, hA1, fun p h1 h2 => hA2 p (by omega) h2, hgr⟩
                case measure => simp [intOf]; omega
              · have hxyB : ((x : Int) != (y : Int)) = true := by simp only [bne_iff_ne, ne_eq]; omega
                have HE2 : Hid (¬ x = y) := hxy
                clear hxy
                have hspare : ∀ o : Obj, ∀ j, j < ([Value.int .i64 (x : Int)] : List Value).length → ((wr.alloc o).cell? ⟨St, 0 + (r + 1) * 1 + j, none⟩).isSome = true ∧ (wr.alloc o).frozen? ⟨St, 0 + (r + 1) * 1 + j, none⟩ = false := by
                  intro o j hj
                  obtain rfl : j = 0 := by simpa using hj
                  have ha := HI.out.2.2.1.alloc o
                  obtain ⟨v, hv⟩ := ha.some_cell (i := r + 1) (by omega)
                  refine ⟨?_, ha.free _⟩
                  rw [show 0 + (r + 1) * 1 + 0 = r + 1 by omega, hv]; rfl
                have HSP := hspare
                clear hspare
                go_wp2_with (at_builtin; refine wpList_append_room _ rfl (.tmp 98) (.tmp 100) 23 rfl 2 i0 1 Ybaf.underlying23 hi hz1 St 0 (r + 1) cap rfl ⟨wr.heap.size, 0, none⟩ 1 1 [.int .i64 x] rfl rfl (one_cell _ _ _) (by intro u hu; simp at hu; subst hu; rfl) (by omega) (HSP _) ?_; rw [setCells_one])
                go_roundw
                case rel =>
                  obtain ⟨hRl, hDd, hAr, hA1, hA2, hgr⟩ := HI.out
                  obtain ⟨m1, m2, m3⟩ := rows_more (x := x) (.cells #[.int .i64 x] 2) hRl hri hAr hA1 hA2
                  exact ⟨i + 1, r + 1, R ++ [x], _, by omega, by omega, by go_num, rfl, by rw [List.length_append, hRl]; rfl, dd_more HP.out.2.2.2 HP.out.2.1 hlt hRl hDd HXY.out.1 HXY.out.2 HE2.out, m1, m2, m3, grown_set hgr _ _⟩
                case measure => simp [intOf]; omega
            · obtain rfl : n = i := by omega
              obtain ⟨w5, rfl⟩ : ∃ x, x = wr := ⟨_, rfl⟩
              have hRows : Plain.Rows c n (fillE bs c (k * c)) R := by
                rw [← HP.out.2.2.2, List.take_length] at hDd
                have hp := HP.out.1
                rw [HK.out] at hp
                exact rows_of_dd HF.out hp HP.out.2.1 hDd
              have hb5 : Below w2.heap.size w2 w5 := (HBX.out.grown HP.out.2.2.1 HBX.out.size (fun j hj => by cases hj; exact hStb)).grown hgr (Nat.le_trans HBX.out.size HP.out.2.2.1.size) (fun j hj => by cases hj; exact hStb)
              have hEn5 : Arr w5 w1.heap.size 2 n n (fun j => num (fillE bs c K (j + 1))) := HEn.out.below hb5 HEn.out.lt
              have hEb5 : Arr w5 (w1.heap.size + 1) 23 1 1 (fun _ => .slice (some ⟨w1.heap.size, 0, none⟩) n n) := HE.out.below hb5 HE.out.lt
              have hbw5 : Below w.heap.size w w5 := hbw1.trans ((HX.out.mono hbw1s).trans (hb5.mono (by omega)))
              have hSt5 : Arr w5 St 2 cap (r + 1) (fun p => num (nth R p)) := (hAr.shorter (by omega)).congr hA1
              have HR : Hid (Plain.Rows c n (fillE bs c (k * c)) R ∧ R.length = r + 1 ∧ Below w.heap.size w w5) := ⟨hRows, hRl, hbw5⟩
              have HM : Hid (Arr w5 w1.heap.size 2 n n (fun j => num (fillE bs c K (j + 1))) ∧ Arr w5 (w1.heap.size + 1) 23 1 1 (fun _ => .slice (some ⟨w1.heap.size, 0, none⟩) n n) ∧ Arr w5 St 2 cap (r + 1) (fun p => num (nth R p))) := ⟨hEn5, hEb5, hSt5⟩
              clear hRows hb5 hEn5 hEb5 hbw5 hSt5 hRl hDd hAr hA1 hA2 hgr HP HT HEn HE HX HBX HSb hsb4 p2 hEc ha1 hbw1 hmk
              obtain ⟨i1, hi1, hz10, hz11, hz12⟩ := info_parts info69
              go_wp2_with (at_make; refine wpList_make_full _ rfl _ _ 30 rfl w5.heap.size 69 i1 (.agg #[.int .i64 0, .slice none 0 0]) 2 Ybaf.underlying30 hi1 hz10 hz11 _ _ _ _ (r + 1) rfl rfl (by omega) (by omega) ?b2 ?b3 (Nat.le_refl _) ?_)
              case b2 => rw [hz12]; omega
              case b3 => unfold maxLen; omega
              intro w6 hown6 hgrow6
              obtain ⟨P6, hP6⟩ := arr_of_owns2 hown6
              have HG6 : Hid (w5.grownBy w6 none) := hgrow6
              have HP6 : Hid (Arr w6 w5.heap.size 69 ((r + 1) * 2) ((r + 1) * 2) P6) := hP6
              have hPl := hP6.lt
              have hEn6 := HM.out.1.kept hgrow6 (by simp)
              have hEb6 := HM.out.2.1.kept hgrow6 (by simp)
              have hSt6 := HM.out.2.2.kept hgrow6 (by simp)
              have HM6 : Hid (Arr w6 w1.heap.size 2 n n (fun j => num (fillE bs c K (j + 1))) ∧ Arr w6 (w1.heap.size + 1) 23 1 1 (fun _ => .slice (some ⟨w1.heap.size, 0, none⟩) n n) ∧ Arr w6 St 2 cap (r + 1) (fun p => num (nth R p))) := ⟨hEn6, hEb6, hSt6⟩
              have hneP : w5.heap.size ≠ w1.heap.size ∧ w5.heap.size ≠ w1.heap.size + 1 ∧ w5.heap.size ≠ St := ⟨by have := HM.out.1.lt; omega, by have := HM.out.2.1.lt; omega, by have := HM.out.2.2.lt; omega⟩
              have HNE : Hid (w5.heap.size ≠ w1.heap.size ∧ w5.heap.size ≠ w1.heap.size + 1 ∧ w5.heap.size ≠ St) := hneP
              clear hown6 hgrow6 hP6 hEn6 hEb6 hSt6 HM hneP
              have hmk42 := run_make_row' (P := Ybaf.prog) 42 3 (.int .i64 0) 8 Ybaf.underlying42 info3 rfl .i64 .i64 k (by omega) (by omega)
              go_wp2
              go_loopw [108] (fun s wr => ∃ (j : Nat) (V : Nat → Nat) (P : Nat → Value), j ≤ r + 1 ∧ s = .int .i64 j ∧ w6.grownBy wr (some w5.heap.size) ∧ Arr wr w5.heap.size 69 ((r + 1) * 2) ((r + 1) * 2) P ∧
                  Laid wr w5.heap.size V c k n (fillE bs c K) R j ∧ (∀ i, i < j → w6.heap.size ≤ V i ∧ V i < wr.heap.size)) (fun s _ => r + 1 - (intOf s).toNat)
              case atStart => exact ⟨0, fun _ => 0, P6, Nat.zero_le _, rfl, ⟨rfl, rfl, rfl, Nat.le_refl _, fun _ _ _ => rfl⟩, HP6.out, ⟨fun i h => by omega, fun i h => by omega, fun i h => by omega⟩, fun i h => by omega⟩
              case round =>
                obtain ⟨j, V, P, hjr, rfl, hgr, hAP, hLd, hV⟩ := hrel
                have hgrs := hgr.size
                have hSt := HM6.out.2.2.kept hgr (by intro e; exact HNE.out.2.2 (Option.some.inj e))
                have hEn := HM6.out.1.kept hgr (by intro e; exact HNE.out.1 (Option.some.inj e))
                have hEb := HM6.out.2.1.kept hgr (by intro e; exact HNE.out.2.1 (Option.some.inj e))
                have HI : Hid (w6.grownBy wr (some w5.heap.size) ∧ Arr wr w5.heap.size 69 ((r + 1) * 2) ((r + 1) * 2) P ∧ Laid wr w5.heap.size V c k n (fillE bs c K) R j ∧ (∀ i, i < j → w6.heap.size ≤ V i ∧ V i < wr.heap.size)) := ⟨hgr, hAP, hLd, hV⟩
                by_cases hjlt : j < r + 1
                · obtain ⟨w7, rfl⟩ : ∃ x, x = wr := ⟨_, rfl⟩
                  obtain ⟨x, hx⟩ : ∃ x, x = nth R j := ⟨_, rfl⟩
                  have hcx : w7.cell? ⟨St, j, none⟩ = some (.int .i64 x) := by rw [hx]; exact hSt.cell hjlt
                  have hxc : x < c := by rw [hx]; exact HR.out.1.row_lt (by rw [HR.out.2.1]; exact hjlt)
                  have HXJ : Hid (x = nth R j) := hx
                  have HMr : Hid (Arr w7 w1.heap.size 2 n n (fun j => num (fillE bs c K (j + 1))) ∧ Arr w7 (w1.heap.size + 1) 23 1 1 (fun _ => .slice (some ⟨w1.heap.size, 0, none⟩) n n)) := ⟨hEn, hEb⟩
                  have hcb : c ≤ 9223372036854775807 := by
                    have h1 := Nat.le_mul_of_pos_left c (show 0 < k by omega)
                    have := HK.out; omega
                  obtain ⟨y, hy⟩ : ∃ y, y = nth R (j + 1) := ⟨_, rfl⟩
                  have hcy : j < r → w7.cell? ⟨St, j + 1, none⟩ = some (.int .i64 y) := fun h => by rw [hy]; exact hSt.cell (by omega)
                  have HY1 : Hid (j < r → y = next c R j) := fun h => by rw [hy]; unfold Plain.next nth; rw [if_pos (by rw [HR.out.2.1]; omega)]
                  have HY2 : Hid (¬ j < r → c = next c R j) := fun h => by unfold Plain.next; rw [if_neg (by rw [HR.out.2.1]; omega)]
                  clear hx hy hgr hAP hLd hV hSt hEn hEb
                  have hjI : (j : Int) < (r : Int) + 1 := by omega
                  obtain ⟨bv, hbv⟩ : ∃ bv, decide (j < r) = bv := ⟨_, rfl⟩
                  cases bv
                  case' true => have hjr : j < r := of_decide_eq_true hbv
                  case' false => have hjr : r ≤ j := Nat.le_of_not_lt (of_decide_eq_false hbv)
                  all_goals go_wp2
                  all_goals
                    go_loopw [128] (fun s wx => ∃ col : Nat, col ≤ k ∧ s = .int .i64 col ∧ Below w7.heap.size w7 wx ∧ w7.heap.size < wx.heap.size ∧ Arr wx w7.heap.size 3 k k (fun p => if p < col then num (node c n (fillE bs c K) R j p + 1) else num 0)) (fun s _ => k - (intOf s).toNat)
                    case atStart => exact ⟨0, Nat.zero_le _, rfl, (Below.refl _ _).alloc (Nat.le_refl _) _, by simp, (Arr.made w7 (.int .i64 0) k 3).congr (fun i _ => by simp only [Nat.not_lt_zero, if_false]; rfl)⟩
                    case round =>
                      obtain ⟨col, hck, rfl, hbx, hsx, hVx⟩ := hrel
                      have HBX : Hid (Below w7.heap.size w7 wr ∧ Arr wr w7.heap.size 3 k k (fun p => if p < col then num (node c n (fillE bs c K) R j p + 1) else num 0)) := ⟨hbx, hVx⟩
                      by_cases hcl : col < k
                      · obtain ⟨Y, hY⟩ : ∃ Y, Y = col * c := ⟨_, rfl⟩
                        have hYI : ((col : Int) * (c : Int)) = (Y : Int) := by rw [hY]; simp
                        have hYb : Y + x < K := by rw [hY, HK.out]; exact cell_lt hcl hxc
                        obtain ⟨q, hq⟩ : ∃ q, q = node c n (fillE bs c K) R j col := ⟨_, rfl⟩
                        have hFl : Filled c k n (fillE bs c K) (fun i => nth bs i) := by rw [HK.out]; exact HF.out
                        have hRw : Plain.Rows c n (fillE bs c K) R := by rw [HK.out]; exact HR.out.1
                        have hqn : q < n := by rw [hq]; exact node_lt hFl hRw (by rw [HR.out.2.1]; exact hjlt) hcl
                        have hSe := search_any w1.heap.size n (w1.heap.size + 1) wr.heap.size n (Y + x) (wr.alloc (.cells #[.int .i64 ((Y : Int) + (x : Int))] 2)) (fun t => fillE bs c K (t + 1)) (by omega)
                          (((HMr.out.2.below hbx HMr.out.2.lt).alloc _).cell (i := 0) (by omega)) (by simp) (fun t ht => ((HMr.out.1.below hbx HMr.out.1.lt).alloc _).cell ht) (fun a b hab hb => hFl.mono (by omega) (by omega))
                        have hqe : (List.range n).countP (fun i => !(decide (Y + x < fillE bs c K (i + 1)))) = q := by rw [hq, hY, HXJ.out]; rfl
                        rw [hqe] at hSe
                        have HSe : Hid (Calls Ybaf.prog 46 #[.int .i64 n, .func (.func 47) #[] #[.pointer (some ⟨w1.heap.size + 1, 0, none⟩), .pointer (some ⟨wr.heap.size, 0, none⟩)]] (wr.alloc (.cells #[.int .i64 ((Y : Int) + (x : Int))] 2)) fun e w' =>
                            e = .returned (.int .i64 q) ∧ (wr.alloc (.cells #[.int .i64 ((Y : Int) + (x : Int))] 2)).grownBy w' none) := hSe
                        have HQ : Hid (q = node c n (fillE bs c K) R j col) := hq
                        have hEbc : ∀ o, (wr.alloc o).cell? ⟨w1.heap.size + 1, 0, none⟩ = some (.slice (some ⟨w1.heap.size, 0, none⟩) n n) := fun o => ((HMr.out.2.below hbx HMr.out.2.lt).alloc o).cell (i := 0) (by omega)
                        clear hSe hqe hFl hRw hq hY hbx hVx
                        go_wp2_with fail
                        refine HSe.out.mono ?_
                        rintro e w8 ⟨rfl, hg8⟩
                        have hV8 : Arr w8 w7.heap.size 3 k k (fun p => if p < col then num (node c n (fillE bs c K) R j p + 1) else num 0) := (HBX.out.2.alloc _).kept hg8 (by simp)
                        obtain ⟨v0, hv0⟩ := hV8.some_cell hcl
                        have hf8 := hV8.free col
                        have HV8 : Hid (Arr w8 w7.heap.size 3 k k (fun p => if p < col then num (node c n (fillE bs c K) R j p + 1) else num 0)) := hV8
                        have HB8 : Hid (Below w7.heap.size w7 w8 ∧ w7.heap.size < w8.heap.size) := ⟨(HBX.out.1.alloc HBX.out.1.size _).grown hg8 (by simp; omega) (fun _ h => by cases h), by have := hg8.size; simp at this; omega⟩
                        clear hV8 hg8 HSe hEbc
                        go_wp2
                        go_roundw
                        case rel => exact ⟨col + 1, by omega, by go_num, HB8.out.1.setCell (Nat.le_refl _) _, by simpa using HB8.out.2, arr_node HV8.out (by rw [← HQ.out]; unfold num; congr 1; omega)⟩
                        case measure => simp [intOf]; omega
                      · obtain rfl : k = col := by omega
                        have hAPx : Arr wr w5.heap.size 69 ((r + 1) * 2) ((r + 1) * 2) P := HI.out.2.1.below hbx HI.out.2.1.lt
                        obtain ⟨v0, hv0⟩ := hAPx.some_cell (i := j * 2) (by omega)
                        obtain ⟨v1, hv1⟩ := hAPx.some_cell (i := j * 2 + 1) (by omega)
                        have hf0 := hAPx.free (j * 2)
                        have hf1 := hAPx.free (j * 2 + 1)
                        have HAP : Hid (Arr wr w5.heap.size 69 ((r + 1) * 2) ((r + 1) * 2) P) := hAPx
                        clear hAPx hbx hVx
                        have hRj : j < R.length := by rw [HR.out.2.1]; exact hjlt
                        have HCV : Hid (∀ y, y = next c R j → Value.int .i64 ((y : Int) - (x : Int)) = num (copies c R j) ∧ Value.int .i64 (wrap64 ((y : Int) - (x : Int))) = num (copies c R j)) := fun y hy => copy_val HR.out.1 hRj HXJ.out hy hcb
                        clear hRj
                        go_wp2
                        go_roundw
                        case rel =>
                          obtain ⟨hgr, hAP, hLd, hV⟩ := HI.out
                          first
                          | (obtain ⟨q1, ⟨P', q2⟩, q3, q4⟩ := place_step hgr HAP.out hLd hV HBX.out.1 hsx HBX.out.2 hPl (HCV.out y (HY1.out hjr)).2 hjlt
                             exact ⟨j + 1, _, P', by omega, by go_num, q1, q2, q3, q4⟩)
                          | (obtain ⟨q1, ⟨P', q2⟩, q3, q4⟩ := place_step hgr HAP.out hLd hV HBX.out.1 hsx HBX.out.2 hPl (HCV.out c (HY2.out (by omega))).1 hjlt
                             exact ⟨j + 1, _, P', by omega, by go_num, q1, q2, q3, q4⟩)
                        case measure => simp [intOf]; omega
                · obtain rfl : r + 1 = j := by omega
                  have hfin : PlaceRes w n k bs (.returned (.slice (some ⟨w5.heap.size, 0, none⟩) (r + 1) (r + 1))) wr := by
                    have hwb := HR.out.2.2
                    have h6 := HG6.out.size
                    refine ⟨c, HCN.out, (hwb.grown HG6.out hwb.size (fun _ h => by cases h)).grown hgr (Nat.le_trans hwb.size h6) (fun j hj => by cases hj; exact hwb.size), Or.inr ⟨hcpos, R, w5.heap.size, V, ?_, ?_, HR.out.1, ?_⟩⟩
                    · rw [HR.out.2.1]
                    · rw [HR.out.2.1]; omega
                    · rw [HR.out.2.1, ← HK.out]; exact hLd
                  have HFN : Hid (PlaceRes w n k bs (.returned (.slice (some ⟨w5.heap.size, 0, none⟩) (r + 1) (r + 1))) wr) := hfin
                  clear hfin hgr hAP hLd hV hSt hEn hEb HI
                  go_wp2
                  go_ret
                  exact HFN.out
end Go.Proofs.YbulkapjgFmt
