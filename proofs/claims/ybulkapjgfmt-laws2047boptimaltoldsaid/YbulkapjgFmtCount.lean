/- 'capmax.countComplete' by its contract. -/
import Derived.Test.YbulkapjgFmtSort
import Derived.Test.YbulkapjgFmtPlain
import Derived.WalkLawsBesides
import Derived.Outline
namespace Go.Proofs.YbulkapjgFmt
open Go.RowKit Plain

theorem info2 : (Ybaf.prog.info? 2).map (fun i => (i.zero, i.size, i.bytes)) = some (some (.int .i64 0), 1, 8) := by kernel_rfl

set_option maxHeartbeats 400000 in
theorem count_none (bb n : Nat) (S : Int) (k : Nat) (w : World) (hk : n < k) :
    Calls Ybaf.prog 43 #[.slice (some ⟨bb, 0, none⟩) n n, .int .i64 S, .int .i64 k] w fun e w' => e = .returned (.int .i64 0) ∧ w' = w := by
  go_enter Ybaf.func43, Ybaf.ntmps43
  go_wp2
  go_ret
  exact ⟨rfl, rfl⟩

theorem cells_of_arr {w : World} {g n : Nat} {f : Nat → Value} (h : Arr w g 2 n n f) (j : Nat) (u : Value) (hu : ((List.range n).map f)[j]? = some u) : w.cell? ((⟨g, 0, none⟩ : Addr).add j) = some u := by
  have hj : j < n := by
    have := (List.getElem?_eq_some_iff.1 hu).1
    simpa using this
  rw [Addr.add_lit, Nat.zero_add, h.cell hj]
  simpa [hj] using hu

theorem one_num (n : Nat) (f : Nat → Nat) : ∀ u ∈ (List.range n).map (fun i => num (f i)), u.oneCell' = true := by
  intro u hu
  obtain ⟨_, _, rfl⟩ := List.mem_map.1 hu
  rfl

theorem cnt_le (ts : List Nat) (k : Nat) : ∀ m, cnt ts k m ≤ total ts
  | 0 => Nat.div_le_self _ _
  | m + 1 => Nat.le_trans (Nat.min_le_left _ _) (cnt_le ts k m)

theorem div_cast {T k : Nat} (h : T ≤ 9223372036854775807) : wrap64 ((T : Int) / (k : Int)) = ((T / k : Nat) : Int) := by
  rw [Int.natCast_ediv]
  have h1 : T / k ≤ T := Nat.div_le_self _ _
  have h2 : (T : Int) / (k : Int) = ((T / k : Nat) : Int) := (Int.natCast_ediv _ _).symm
  rw [h2]
  generalize T / k = q at *
  unfold wrap64
  omega

theorem cnt_step {C R R' x m k : Nat} (hx : R = x + R') (hm : m + 1 < k) : (min (C : Int) (((R : Int) - (x : Int)) / ((k : Int) - ((m : Int) + 1)))) = ((min C (R' / (k - (m + 1))) : Nat) : Int) := by
  have e1 : (R : Int) - (x : Int) = (R' : Int) := by omega
  have e2 : (k : Int) - ((m : Int) + 1) = ((k - (m + 1) : Nat) : Int) := by omega
  rw [e1, e2, ← Int.natCast_ediv]
  generalize R' / (k - (m + 1)) = q
  omega

theorem int_eq {a b : Int} (h : a = b) : Value.int .i64 a = .int .i64 b := by rw [h]

set_option maxRecDepth 100000 in
set_option maxHeartbeats 1000000 in
theorem count_some (bb n : Nat) (k : Nat) (bs : List Nat) (w : World) (hl : bs.length = n) (hk1 : 1 ≤ k) (hk : k ≤ n) (hn : n ≤ 2000) (hS : total bs ≤ 9223372036854775807)
    (hb : Arr w bb 2 n n (fun i => num (nth bs i))) :
    Calls Ybaf.prog 43 #[.slice (some ⟨bb, 0, none⟩) n n, .int .i64 (total bs), .int .i64 k] w fun e w' => ∃ c : Nat, e = .returned (.int .i64 c) ∧ IsCount bs k c ∧ Below w.heap.size w w' := by
  obtain ⟨i0, hi, hz0, hz1, hz2⟩ := info_parts info2
  have HL : Hid (bs.length = n) := hl
  clear hl
  go_enter Ybaf.func43, Ybaf.ntmps43
  go_wp2_with (at_builtin; refine wpList_append_own _ rfl _ _ 23 rfl w.heap.size 2 i0 (.int .i64 0) 1 8 Ybaf.underlying23 hi hz0 hz1 hz2 rfl (by decide) _ _ _ rfl (World.ownsRow_nil _ _ _ _) ⟨bb, 0, none⟩ n n ((List.range n).map (fun i => num (nth bs i))) rfl ?c0 ?c1 ?c2 ?c3 ?c4 ?c5 ?_)
  case c0 => simp
  case c1 => exact cells_of_arr hb
  case c2 => exact one_num n _
  case c3 => unfold maxLen; omega
  case c4 => omega
  case c5 => exact Nat.le_refl _
  intro v' w1 hown hgrow _
  have hex : ∃ g cap, v' = .slice (some ⟨g, 0, none⟩) n cap := by
    rcases hown.2 with ⟨_, h0⟩ | ⟨g, cap, cur, h', _⟩
    · omega
    · exact ⟨g, cap, h'⟩
  obtain ⟨g, cap, hv⟩ := hex
  rw [hv] at hown
  rw [hv]
  obtain ⟨ha0, hg, hcap⟩ := Arr.of_owns hown (.int .i64 0)
  have ha : Arr w1 g 2 cap n (fun i => num (nth bs i)) := ha0.congr (fun i hi => by simp [hi])
  have hbel : Below w.heap.size w w1 := (Below.refl _ _).grown hgrow (Nat.le_refl _) (fun k h => by simp [Value.ownBlock] at h)
  have hgl := ha.lt
  have hS1 := fun (hs : (w1.alloc (.cells #[.slice (some ⟨g, 0, none⟩) n cap] 23)).cell? ⟨w1.heap.size, 0, none⟩ = some (.slice (some ⟨g, 0, none⟩) bs.length cap)) =>
    sort_down g cap w1.heap.size bs (w1.alloc (.cells #[.slice (some ⟨g, 0, none⟩) n cap] 23)) (by rw [HL.out]; omega) hs (by omega) (by rw [HL.out]; exact ha.alloc _)
  rw [HL.out] at hS1
  have hS2 := hS1 (by simp)
  have HS : Hid (Calls Ybaf.prog 44 #[.iface 23 (.slice (some ⟨g, 0, none⟩) n cap), .func (.func 52) #[] #[.pointer (some ⟨w1.heap.size, 0, none⟩)]] (w1.alloc (.cells #[.slice (some ⟨g, 0, none⟩) n cap] 23)) fun e w' =>
      e = .returned (.tuple #[]) ∧ ∃ ts : List Nat, ts.Perm bs ∧ ts.Pairwise (· ≥ ·) ∧ (w1.alloc (.cells #[.slice (some ⟨g, 0, none⟩) n cap] 23)).grownBy w' (some g) ∧ Arr w' g 2 cap ts.length (fun i => num (nth ts i))) := hS2
  clear hS1 hS2 ha0 ha hown hgrow hv hb hz0 hz1 hz2 hi
  go_wp2_with fail
  refine HS.out.mono ?_
  rintro e w2 ⟨rfl, ts, hp, hso, hg2, ha2⟩
  have hbox : w2.cell? ⟨w1.heap.size, 0, none⟩ = some (.slice (some ⟨g, 0, none⟩) n cap) := by
    rw [World.cell?_of_block (a := ⟨w1.heap.size, 0, none⟩) (hg2.block w1.heap.size (by simp) (by intro e; simp at e; omega))]
    simp
  have hbel2 : Below w.heap.size w w2 := (hbel.alloc hbel.size _).grown hg2 (by have := hbel.size; simp; omega) (fun j hj => by cases hj; exact hg)
  have hlen : ts.length = n := by rw [hp.length_eq]; exact HL.out
  rw [hlen] at ha2
  have htot : total ts = total bs := total_perm hp
  have HC : Hid (IsCount bs k (cnt ts k (k - 1))) := (isCount_cnt hso (by omega)).perm hp
  have HT : Hid (ts.length = n) := hlen
  have HTB : Hid (total ts = total bs) := htot
  have HA : Hid (Arr w2 g 2 cap n (fun i => num (nth ts i))) := ha2
  have HB : Hid (Below w.heap.size w w2) := hbel2
  clear HS hp hso hg2 ha2 hbel hbel2 hlen htot hgl
  have hkI : (1 : Int) ≤ (k : Int) := by omega
  go_wp2
  go_loop [8, 9, 10] (fun c r i => ∃ m : Nat, m + 1 ≤ k ∧ i = .int .i64 (m + 1 : Nat) ∧ r = .int .i64 (total (ts.drop m) : Nat) ∧ c = .int .i64 (cnt ts k m : Nat)) (fun _ _ i => k - (intOf i).toNat)
  case atStart => exact ⟨0, by omega, rfl, by rw [List.drop_zero, HTB.out], int_eq (by rw [div_cast hS, cnt, HTB.out])⟩
  case round =>
    obtain ⟨m, hm, rfl, rfl, rfl⟩ := hrel
    obtain ⟨R, hR⟩ : ∃ R, R = total (ts.drop m) := ⟨_, rfl⟩
    obtain ⟨R', hR'⟩ : ∃ R', R' = total (ts.drop (m + 1)) := ⟨_, rfl⟩
    obtain ⟨C, hC⟩ : ∃ C, C = cnt ts k m := ⟨_, rfl⟩
    have hsum := total_drop_succ ts m (by rw [HT.out]; omega)
    have hle := total_take_drop ts m
    have hC2 : C ≤ 9223372036854775807 := by rw [hC]; have := cnt_le ts k m; have := HTB.out; omega
    obtain ⟨x, hx⟩ : ∃ x, x = nth ts m := ⟨_, rfl⟩
    have hcell : w2.cell? ⟨g, m, none⟩ = some (.int .i64 x) := by rw [hx]; exact HA.out.cell (by omega)
    rw [← hR, ← hC]
    have hxr : R = x + R' := by rw [hR, hx, hR']; exact hsum
    have hRb : R ≤ 9223372036854775807 := by rw [hR]; have := HTB.out; omega
    have HR : Hid (R = total (ts.drop m)) := hR
    have HR' : Hid (R' = total (ts.drop (m + 1))) := hR'
    have HCC : Hid (C = cnt ts k m) := hC
    have HX : Hid (R = x + R') := hxr
    have hxR : x ≤ R := by omega
    clear hR hR' hC hsum hle hx hxr
    by_cases hlt : m + 1 < k
    · have hmi : (m : Int) + 1 < (k : Int) := by omega
      go_wp2
      go_round
      case rel => exact ⟨m + 1, by omega, by go_num, int_eq (by rw [← HR'.out]; have := HX.out; omega), int_eq (by rw [cnt_step HX.out hlt, cnt, ← HCC.out, ← HR'.out])⟩
      case measure => simp [intOf]; omega
    · go_wp2
      go_ret
      exact ⟨C, rfl, by rw [HCC.out, show m = k - 1 by omega]; exact HC.out, HB.out⟩
/-- countComplete at whatever k. -/
theorem count_any (bb n : Nat) (k : Nat) (bs : List Nat) (w : World) (hl : bs.length = n) (hk1 : 1 ≤ k) (hn : n ≤ 2000) (hS : total bs ≤ 9223372036854775807) (hb : Arr w bb 2 n n (fun i => num (nth bs i))) :
    Calls Ybaf.prog 43 #[.slice (some ⟨bb, 0, none⟩) n n, .int .i64 (total bs), .int .i64 k] w fun e w' => ∃ c : Nat, e = .returned (.int .i64 c) ∧ IsCount bs k c ∧ Below w.heap.size w w' := by
  by_cases hk : k ≤ n
  · exact count_some bb n k bs w hl hk1 hk hn hS hb
  · refine (count_none bb n (total bs) k w (by omega)).mono ?_
    rintro e w' ⟨rfl, rfl⟩
    exact ⟨0, rfl, isCount_zero (by omega), Below.refl _ _⟩

end Go.Proofs.YbulkapjgFmt
