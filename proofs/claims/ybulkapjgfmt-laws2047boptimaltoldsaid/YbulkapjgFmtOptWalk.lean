/- The walk of 'capmax.LawS2047BOptimal'. -/
import Derived.Test.YbulkapjgFmtVecWalk
namespace Go.Proofs.YbulkapjgFmt
open Go.RowKit Plain

set_option maxRecDepth 100000 in
set_option maxHeartbeats 400000 in
theorem opt_big (a : Option Addr) (len cap : Nat) (kk : Int) (w : World) (h : 300 < len) :
    Calls Ybaf.prog 3 #[.slice a len cap, .int .u8 kk] w fun e w' => e = .returned (.bool true) ∧ Below w.heap.size w w' := by
  go_enter Ybaf.func3, Ybaf.ntmps3
  go_wp2
  go_ret
  exact ⟨rfl, Below.refl _ _⟩

set_option maxRecDepth 100000 in
set_option maxHeartbeats 400000 in
theorem opt_zero (a : Option Addr) (cap : Nat) (kk : Int) (w : World) (k0 : 0 ≤ kk) (k1 : kk ≤ 255) :
    Calls Ybaf.prog 3 #[.slice a 0 cap, .int .u8 kk] w fun e w' => e = .returned (.bool true) ∧ Below w.heap.size w w' := by
  have hmk : ∀ w : World, (Instr.makeSlice 23 (.int .i64 0) (.int .i64 0)).run Ybaf.prog w = .ok (.slice (some ⟨w.heap.size, 0, none⟩) 0 0) (w.alloc (.cells (madeCells #[.int .i64 0] 0) 2)) :=
    fun w => run_make_row' (P := Ybaf.prog) 23 2 (.int .i64 0) 8 Ybaf.underlying23 info2 rfl .i64 .i64 0 (by omega) (by omega) w
  have hq30 := eql_nil30
  obtain ⟨k, hkI⟩ : ∃ k : Nat, 1 + kk % 2 = (k : Int) := ⟨(1 + kk % 2).toNat, by omega⟩
  go_enter Ybaf.func3, Ybaf.ntmps3
  go_wp2
  refine wp_loop_rounds 1 ?_
  rw [rounds_succ]
  go_wp2_with fail
  refine (Place_none k _ _).mono ?_
  rintro e w1 ⟨b, rfl, hb⟩
  have hb1 : Below w.heap.size w w1 := ((((Below.refl _ _).alloc (Nat.le_refl _) _).alloc (by simp) _).alloc (by simp; omega) _).trans (hb.mono (by simp; omega))
  clear hb
  go_wp2
  go_ret
  exact ⟨rfl, hb1⟩

theorem arr_caps {wr : World} {g m n : Nat} {bs : List Nat} (h : Arr wr g 2 n n (fun j => if j < m then num (nth bs j) else num 0)) {v : Value} (hv : v = num (nth bs m)) :
    Arr (wr.setCell ⟨g, m, none⟩ v) g 2 n n (fun j => if j < m + 1 then num (nth bs j) else num 0) := by
  refine (h.set m _).congr (fun i _ => ?_)
  by_cases e : i = m
  · subst e; simp only [if_true, Nat.lt_succ_self]; exact hv
  · by_cases e2 : i < m
    · simp only [e, e2, if_false, if_true, show i < m + 1 by omega]
    · simp only [e, e2, if_false, show ¬ i < m + 1 by omega]

theorem total_take_bd {bs : List Nat} {n : Nat} (hl : bs.length = n) (h : ∀ i, i < n → nth bs i ≤ 255) : ∀ m, m ≤ n → total (bs.take m) ≤ 255 * m
  | 0, _ => by simp [total]
  | m + 1, hm => by
    have h1 := total_take_bd hl h m (by omega)
    have h2 := total_take_succ bs m (by omega)
    have h3 := h m (by omega)
    unfold nth at h3
    omega

theorem PlaceRes.len {w w' : World} {n k l cc : Nat} {a : Option Addr} {bs : List Nat} (h : PlaceRes w n k bs (.returned (.slice a l cc)) w') (h0 : IsCount bs k 0) : l = 0 := by
  obtain ⟨c, hc, _, ⟨_, he⟩ | ⟨hpos, _⟩⟩ := h
  · injection he with he
    injection he
  · have := h0.2 c hc.1
    omega

/-- 'b' is the best count when every count below 'c' has been tried. -/
def Best (bs : List Nat) (k c b : Nat) : Prop := k * b ≤ minsum b bs ∧ b < c ∧ ∀ d, d < c → k * d ≤ minsum d bs → d ≤ b

theorem best_start (bs : List Nat) (k : Nat) : Best bs k 1 0 := ⟨by simp, by omega, fun d hd _ => by omega⟩
theorem best_yes {bs : List Nat} {k c : Nat} (h : k * c ≤ minsum c bs) : Best bs k (c + 1) c := ⟨h, by omega, fun d hd _ => by omega⟩
theorem best_no {bs : List Nat} {k c b : Nat} (hb : Best bs k c b) (h : ¬ k * c ≤ minsum c bs) : Best bs k (c + 1) b := by
  obtain ⟨h1, h2, h3⟩ := hb
  refine ⟨h1, by omega, fun d hd hk => ?_⟩
  by_cases e : d = c
  · subst e; exact absurd hk h
  · exact h3 d (by omega) hk
theorem best_end {bs : List Nat} {k c b x : Nat} (hb : Best bs k x b) (hc : IsCount bs k c) (hx : c < x) : b = c := by
  have h1 := hb.2.2 c hx hc.1
  have h2 := hc.2 b hb.1
  omega

set_option maxRecDepth 100000 in
set_option maxHeartbeats 1000000 in
theorem opt_some (rb ro n cap : Nat) (bs : List Nat) (kk : Int) (w : World) (k0 : 0 ≤ kk) (k1 : kk ≤ 255) (hn1 : 1 ≤ n) (hn : n ≤ 300) (hl : bs.length = n) (hrb : rb < w.heap.size)
    (hr : ∀ i, i < n → w.cell? ⟨rb, ro + i, none⟩ = some (.int .u8 (nth bs i : Nat))) (hz : ∀ i, i < n → nth bs i ≤ 255) :
    Calls Ybaf.prog 3 #[.slice (some ⟨rb, ro, none⟩) n cap, .int .u8 kk] w fun e w' => e = .returned (.bool true) ∧ Below w.heap.size w w' := by
  have hmk := run_make_row' (P := Ybaf.prog) 23 2 (.int .i64 0) 8 Ybaf.underlying23 info2 rfl .i64 .i64 n (by omega) (by omega)
  obtain ⟨k, hkI, hk1, hk2⟩ : ∃ k : Nat, 1 + kk % ((n : Int) + 2) = (k : Int) ∧ 1 ≤ k ∧ k ≤ n + 2 := by
    have h0 := Int.emod_nonneg kk (show (n : Int) + 2 ≠ 0 by omega)
    have h1 := Int.emod_lt_of_pos kk (show 0 < (n : Int) + 2 by omega)
    exact ⟨(1 + kk % ((n : Int) + 2)).toNat, by omega, by omega, by omega⟩
  have HA : Hid (bs.length = n ∧ (∀ i, i < n → w.cell? ⟨rb, ro + i, none⟩ = some (.int .u8 (nth bs i : Nat))) ∧ (∀ i, i < n → nth bs i ≤ 255)) := ⟨hl, hr, hz⟩
  have HT : Hid (∀ m, m ≤ n → total (bs.take m) ≤ 255 * m) := total_take_bd hl hz
  have hdn : decide ((300 : Int) < (n : Int)) = false := decide_eq_false (by omega)
  clear hr hz hl
  go_enter Ybaf.func3, Ybaf.ntmps3
  go_wp2
  go_loopw [7, 34] (fun s i wr => ∃ m : Nat, m ≤ n ∧ i = .int .i64 m ∧ s = .int .i64 (total (bs.take m) : Nat) ∧ Below w.heap.size w wr ∧ w.heap.size < wr.heap.size ∧ Arr wr w.heap.size 2 n n (fun j => if j < m then num (nth bs j) else num 0)) (fun _ i _ => n - (intOf i).toNat)
  case atStart => exact ⟨0, Nat.zero_le _, rfl, by simp [total], (Below.refl _ _).alloc (Nat.le_refl _) _, by simp, (Arr.made w (.int .i64 0) n 2).congr (fun i _ => by simp only [Nat.not_lt_zero, if_false]; rfl)⟩
  case round =>
    obtain ⟨m, hm, rfl, rfl, hbx, hsz, hA⟩ := hrel
    obtain ⟨S, hS⟩ : ∃ S, S = total (bs.take m) := ⟨_, rfl⟩
    have hSb : S ≤ 76500 := by rw [hS]; have := HT.out m hm; omega
    rw [← hS]
    have HS : Hid (S = total (bs.take m)) := hS
    have H1 : Hid (Below w.heap.size w wr ∧ Arr wr w.heap.size 2 n n (fun j => if j < m then num (nth bs j) else num 0)) := ⟨hbx, hA⟩
    by_cases hlt : m < n
    · obtain ⟨x, hx⟩ : ∃ x, x = nth bs m := ⟨_, rfl⟩
      have hcx : wr.cell? ⟨rb, ro + m, none⟩ = some (.int .u8 x) := by rw [hx, hbx.cell (p := ⟨rb, ro + m, none⟩) hrb]; exact HA.out.2.1 m hlt
      have hxb : x ≤ 255 := by rw [hx]; exact HA.out.2.2 m hlt
      have HX : Hid (x = nth bs m) := hx
      obtain ⟨v0, hv0⟩ := hA.some_cell (i := m) hlt
      have hfr := hA.free m
      clear hS hx hA hbx
      go_wp2
      go_roundw
      case rel => exact ⟨m + 1, by omega, by go_num, int_eq (by have := total_take_succ bs m (by rw [HA.out.1]; exact hlt); have h2 := HX.out; unfold nth at h2; have h3 := HS.out; omega), H1.out.1.setCell (Nat.le_refl _) _, by simpa using hsz, arr_caps H1.out.2 (by rw [HX.out]; rfl)⟩
      case measure => simp [intOf]; omega
    · obtain rfl : n = m := by omega
      obtain ⟨w1, rfl⟩ : ∃ x, x = wr := ⟨_, rfl⟩
      have hTS : total bs = S := by rw [hS, List.take_of_length_le (by rw [HA.out.1]; exact Nat.le_refl _)]
      have hArr : Arr w1 w.heap.size 2 n n (fun i => num (nth bs i)) := hA.congr (fun i hi => by simp only [hi, if_true])
      have HPl : Hid (Calls Ybaf.prog 8 #[.agg #[.string ⟨#[107]⟩, .int .i64 n, .int .u8 1, .int .i64 0, .bool false, .slice none 0 0], .agg #[.string ⟨#[107]⟩, .int .i64 k, .bool false], .slice (some ⟨w.heap.size, 0, none⟩) n n]
          ((w1.alloc (.cells #[.string ⟨#[107]⟩, .int .i64 n, .int .u8 1, .int .i64 0, .bool false, .slice none 0 0] 27)).alloc (.cells #[.string ⟨#[107]⟩, .int .i64 k, .bool false] 29)) fun e w' =>
          ∃ v, e = .returned (.tuple #[v, .nilIface]) ∧ PlaceRes ((w1.alloc (.cells #[.string ⟨#[107]⟩, .int .i64 n, .int .u8 1, .int .i64 0, .bool false, .slice none 0 0] 27)).alloc (.cells #[.string ⟨#[107]⟩, .int .i64 k, .bool false] 29)) n k bs (.returned v) w') :=
        Place_ok w.heap.size n k bs _ HA.out.1 hk1 (by omega) hn1 (by omega) (by omega) ((hArr.alloc _).alloc _)
      have HTT : Hid (total bs = S ∧ Arr w1 w.heap.size 2 n n (fun i => num (nth bs i)) ∧ Below w.heap.size w w1) := ⟨hTS, hArr, hbx⟩
      clear hS hTS hArr hA hbx H1 HS
      go_wp2_with fail
      refine HPl.out.mono ?_
      rintro e w3 ⟨v, rfl, hres⟩
      obtain ⟨a, l, cc, hv⟩ := hres.val
      have hv' : v = .slice a l cc := by injection hv
      subst hv'
      have hb3 : Below ((w1.alloc (.cells #[.string ⟨#[107]⟩, .int .i64 n, .int .u8 1, .int .i64 0, .bool false, .slice none 0 0] 27)).alloc (.cells #[.string ⟨#[107]⟩, .int .i64 k, .bool false] 29)).heap.size ((w1.alloc (.cells #[.string ⟨#[107]⟩, .int .i64 n, .int .u8 1, .int .i64 0, .bool false, .slice none 0 0] 27)).alloc (.cells #[.string ⟨#[107]⟩, .int .i64 k, .bool false] 29)) w3 := by
        obtain ⟨_, _, h, _⟩ := hres; exact h
      have hb1s : Below w1.heap.size w1 w3 := (((Below.refl _ _).alloc (Nat.le_refl _) _).alloc (by simp) _).trans (hb3.mono (by simp; omega))
      have H3 : Hid (Below w1.heap.size w1 w3 ∧ PlaceRes w1 n k bs (.returned (.slice a l cc)) w3) := ⟨hb1s, hres.back (((Below.refl _ _).alloc (Nat.le_refl _) _).alloc (by simp) _)⟩
      have HLen : Hid (IsCount bs k 0 → l = 0) := hres.len
      clear hb3 hb1s hres hv HPl
      have hn0 : ((n : Int) == 0) = false := by simp; omega
      go_wp2
      go_loopw [78] (fun i wr => ∃ m q : Nat, m ≤ n ∧ i = .int .i64 m ∧ wr = w3.drewN q) (fun i _ => n - (intOf i).toNat)
      case atStart => exact ⟨0, 0, Nat.zero_le _, rfl, rfl⟩
      case round =>
        obtain ⟨m, q, hm2, rfl, rfl⟩ := hrel
        by_cases hlt2 : m < n
        · obtain ⟨y, hy⟩ : ∃ y, y = nth bs m := ⟨_, rfl⟩
          have c1 : w3.cell? ⟨w.heap.size, m, none⟩ = some (.int .i64 y) := by rw [hy]; exact (HTT.out.2.1.below H3.out.1 hsz).cell hlt2
          have c2 : w3.cell? ⟨rb, ro + m, none⟩ = some (.int .u8 y) := by
            rw [hy, H3.out.1.cell (p := ⟨rb, ro + m, none⟩) (by show rb < _; omega), HTT.out.2.2.cell (p := ⟨rb, ro + m, none⟩) hrb]; exact HA.out.2.1 m hlt2
          have hyb : y ≤ 255 := by rw [hy]; exact HA.out.2.2 m hlt2
          have hI : (m : Int) < (n : Int) := by omega
          clear hy
          go_wp2
          go_roundw
          case rel => exact ⟨m + 1, _, by omega, by go_num, rfl⟩
          case measure => simp [intOf]; omega
        · have HBF : Hid (Below w.heap.size w w3) := HTT.out.2.2.trans (H3.out.1.mono (by omega))
          have HAB : Hid (Arr w3 w.heap.size 2 n n (fun i => num (nth bs i))) := HTT.out.2.1.below H3.out.1 hsz
          have HCk : Hid (Calls Ybaf.prog 9 #[.slice a l cc, .slice (some ⟨w.heap.size, 0, none⟩) n n, .int .i64 k] (w3.drewN q) fun e w' => ∃ c : Nat, IsCount bs k c ∧ e = .returned (.tuple #[.int .i64 c, .bool true]) ∧ Below (w3.drewN q).heap.size (w3.drewN q) w') :=
            check_res (w := w1) (w2 := w3.drewN q) (H3.out.2.drewN q) HA.out.1 (by omega) hk1 (by omega) (by rw [HTT.out.1]; omega) (HTT.out.2.1.below (below_drewN H3.out.1 q) hsz)
          go_wp2_with fail
          refine HCk.out.mono ?_
          rintro e w5 ⟨c, hcnt, rfl, hb5⟩
          have HB5 : Hid (Below w.heap.size w w5) := (below_drewN HBF.out q).trans (hb5.mono (below_drewN HBF.out q).size)
          have HA5 : Hid (Arr w5 w.heap.size 2 n n (fun i => num (nth bs i))) := HAB.out.of_block (hb5.block w.heap.size HAB.out.lt)
          have HCn : Hid (IsCount bs k c) := hcnt
          have HST : Hid (total bs = S) := HTT.out.1
          have hcb : c ≤ 76500 := by
            have h1 := hcnt.le_total
            rw [HST.out] at h1
            have := Nat.le_mul_of_pos_left c (show 0 < k by omega)
            omega
          clear hb5 hcnt HAB HBF HCk HTT H3
          have hkI' : (1 : Int) ≤ (k : Int) := by omega
          go_wp2
          obtain ⟨Q, hQ⟩ : ∃ Q, Q = S / k := ⟨_, rfl⟩
          have hQb : Q ≤ 76500 := by rw [hQ]; have := Nat.div_le_self S k; omega
          have hcQ : c ≤ Q := by
            rw [hQ, Nat.le_div_iff_mul_le (by omega), Nat.mul_comm]
            have h1 := HCn.out.le_total
            rw [HST.out] at h1
            exact h1
          have hdv : ∀ x : Nat, S = x → wrap64 ((x : Int) / (k : Int)) = (Q : Int) := fun x hx => by rw [hQ, hx]; exact div_cast (by omega)
          have hdv := hdv S rfl
          clear hQ
          have hQ1 : 1 ≤ Q + 1 := Nat.le_add_left 1 Q
          have HD : Hid (wrap64 ((S : Int) / (k : Int)) = (Q : Int)) := hdv
          clear hdv
          go_loopw [19, 21] (fun b c wr => ∃ b' c' q : Nat, 1 ≤ c' ∧ c' ≤ Q + 1 ∧ c = .int .i64 c' ∧ b = .int .i64 b' ∧ Best bs k c' b' ∧ wr = w5.drewN q) (fun _ c _ => Q + 1 - (intOf c).toNat)
          case atStart => exact ⟨0, 1, 0, Nat.le_refl _, hQ1, rfl, rfl, best_start bs k, rfl⟩
          case round =>
            obtain ⟨b', c', q, hc1, hc2, rfl, rfl, hbest, rfl⟩ := hrel
            have HBe : Hid (Best bs k c' b') := hbest
            have hbc : b' < c' := hbest.2.1
            clear hbest
            by_cases hlt3 : c' ≤ Q
            · have hc3 : c' ≤ 76500 := Nat.le_trans hlt3 hQb
              have hkb : k ≤ 302 := by omega
              have hkc : k * c' ≤ 23103000 := Nat.mul_le_mul hkb hc3
              obtain ⟨K, hK⟩ : ∃ K, K = k * c' := ⟨_, rfl⟩
              rw [← hK] at hkc
              have HK : Hid (K = k * c') := hK
              have hKI : (k : Int) * (c' : Int) = (K : Int) := by rw [hK]; exact (Int.natCast_mul _ _).symm
              clear hK
              have hdv := HD.out
              go_wp2
              clear hdv
              go_loopw [22, 110] (fun f i wr => ∃ m q : Nat, m ≤ n ∧ i = .int .i64 m ∧ f = .int .i64 (minsum c' (bs.take m) : Nat) ∧ wr = w5.drewN q) (fun _ i _ => n - (intOf i).toNat)
              case atStart => exact ⟨0, q, Nat.zero_le _, rfl, rfl, rfl⟩
              case round =>
                obtain ⟨m, q, hm3, rfl, rfl, rfl⟩ := hrel
                obtain ⟨M, hM⟩ : ∃ M, M = minsum c' (bs.take m) := ⟨_, rfl⟩
                have hMb : M ≤ 76500 := by rw [hM]; have h1 := minsum_le_total c' (bs.take m); have := HT.out m hm3; omega
                rw [← hM]
                have HM : Hid (M = minsum c' (bs.take m)) := hM
                clear hM
                by_cases hlt4 : m < n
                · obtain ⟨y, hy⟩ : ∃ y, y = nth bs m := ⟨_, rfl⟩
                  have cy : w5.cell? ⟨w.heap.size, m, none⟩ = some (.int .i64 y) := by rw [hy]; exact HA5.out.cell hlt4
                  have hyb : y ≤ 255 := by rw [hy]; exact HA.out.2.2 m hlt4
                  have HY : Hid (y = nth bs m) := hy
                  have hI : (m : Int) < (n : Int) := by omega
                  have hms : minsum c' (bs.take (m + 1)) = M + min y c' := by rw [minsum_take_succ c' bs m (by rw [HA.out.1]; exact hlt4), HM.out, hy]; rfl
                  have HMS : Hid (minsum c' (bs.take (m + 1)) = M + min y c') := hms
                  clear hy hms
                  by_cases hyc : c' < y
                  · have hyI : (c' : Int) < (y : Int) := by omega
                    go_wp2
                    go_roundw
                    case rel => exact ⟨m + 1, _, by omega, by go_num, int_eq (by rw [HMS.out]; omega), rfl⟩
                    case measure => simp [intOf]; omega
                  · have hyI : ¬ (c' : Int) < (y : Int) := by omega
                    go_wp2
                    go_roundw
                    case rel => exact ⟨m + 1, _, by omega, by go_num, int_eq (by rw [HMS.out]; omega), rfl⟩
                    case measure => simp [intOf]; omega
                · obtain rfl : n = m := by omega
                  have HMM : Hid (M = minsum c' bs) := by have h := HM.out; rw [List.take_of_length_le (by rw [HA.out.1]; exact Nat.le_refl _)] at h; exact h
                  by_cases hge : K ≤ M
                  · go_wp2
                    go_roundw
                    case rel => exact ⟨c', c' + 1, q, by omega, by omega, by go_num, rfl, best_yes (by rw [← HK.out, ← HMM.out]; exact hge), rfl⟩
                    case measure => simp [intOf]; omega
                  · go_wp2
                    go_roundw
                    case rel => exact ⟨b', c' + 1, q, by omega, by omega, by go_num, rfl, best_no HBe.out (by rw [← HK.out, ← HMM.out]; exact hge), rfl⟩
                    case measure => simp [intOf]; omega
            · obtain rfl : b' = c := best_end HBe.out HCn.out (by omega)
              have hdv := HD.out
              by_cases hb0 : b' = 0
              · subst hb0
                obtain rfl := HLen.out HCn.out
                go_wp2
                go_ret
                exact ⟨rfl, below_drewN HB5.out q⟩
              · have hbI : ((b' : Int) == 0) = false := by simp; omega
                go_wp2
                go_ret
                exact ⟨by simp, below_drewN HB5.out q⟩
end Go.Proofs.YbulkapjgFmt
