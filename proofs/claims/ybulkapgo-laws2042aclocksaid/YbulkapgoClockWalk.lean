/- The walk of 'curfew.LawS2042AClock'. -/
import Derived.Test.YbulkapgoRows
import Derived.WalkKit
import Derived.WalkSpells
import Derived.WalkLawsBesides
import Derived.Outline
import Derived.Deep.LoopGhost
import Derived.Deep.OwnRows
import Derived.LaidEqlPtr
import Derived.Test.YbulkapgoClockCall
namespace Go.Proofs.Ybulkapgo.clock
open Go.RowKit Go.Deep

theorem info43 : (Yba.prog.info? 43).map (fun i => (i.zero, i.size, i.bytes)) = some (some (.pointer none), 1, 8) := by kernel_rfl

structure Came (w : World) (b off len : Nat) (d : ND) : Prop where
  blk : b < w.heap.size
  c0 : ∀ j, j < len → w.cell? ⟨b, off + j * 4, none⟩ = some (.int .u8 (d.K j))
  c1 : ∀ j, j < len → w.cell? ⟨b, off + j * 4 + 1, none⟩ = some (.bool (d.D j))
  c2 : ∀ j, j < len → w.cell? ⟨b, off + j * 4 + 2, none⟩ = some (.int .u8 (d.DC j))
  c3 : ∀ j, j < len → w.cell? ⟨b, off + j * 4 + 3, none⟩ = some (.int .u8 (d.PC j))
  k0 : ∀ j, j < len → 0 ≤ d.K j ∧ d.K j ≤ 255
  k2 : ∀ j, j < len → 0 ≤ d.DC j ∧ d.DC j ≤ 255
  k3 : ∀ j, j < len → 0 ≤ d.PC j ∧ d.PC j ≤ 255

/-- The three clocks: two blocks, and nil. -/
def ckOf (N : Nat) (i : Int) : Option Addr := if i = 0 then some ⟨N, 0, none⟩ else if i = 1 then some ⟨N + 1, 0, none⟩ else none

theorem clk_start (w : World) (X : World) (hX : ∀ o, X.cell? ⟨w.heap.size + 1 + 1, o, none⟩ = (#[Value.pointer (some ⟨w.heap.size, 0, none⟩), .pointer (some ⟨w.heap.size + 1, 0, none⟩), .pointer none])[o]?)
    (i : Int) (h0 : 0 ≤ i) (h3 : i < 3) : X.cell? ⟨w.heap.size + 2, i.toNat, none⟩ = some (.pointer (ckOf w.heap.size i)) := by
  rcases (by omega : i = 0 ∨ i = 1 ∨ i = 2) with rfl | rfl | rfl <;> (rw [show w.heap.size + 2 = w.heap.size + 1 + 1 from rfl, hX]; rfl)

theorem cell_on {w : World} {b o : Nat} {v : Value} (h : w.cell? ⟨b, o, none⟩ = some v) (x : Obj) : (w.alloc x).cell? ⟨b, o, none⟩ = some v := by
  rw [World.cell?_alloc_past _ _ _ (by exact block_lt_of_cell h)]; exact h
theorem free_on {w : World} {b o : Nat} (hb : b < w.heap.size) (h : w.frozen? ⟨b, o, none⟩ = false) (x : Obj) : (w.alloc x).frozen? ⟨b, o, none⟩ = false := by
  rw [World.frozen?_alloc_past _ _ _ hb]; exact h

theorem back2 {w : World} {b o : Nat} {v : Value} (hb : b < w.heap.size) {x y : Obj} : ((w.setCell ⟨b, o, none⟩ v).alloc x).alloc y = ((w.alloc x).alloc y).setCell ⟨b, o, none⟩ v := by
  rw [World.setCell_alloc_past, World.setCell_alloc_past]
  all_goals first | exact hb | (simp; omega)

theorem start (w : World) (o1 o2 : Obj) (t : TypeId) (len : Nat) (d : ND) (f : Nat → Nat) :
    Inv1 w ((((w.alloc o1).alloc o2).alloc (.cells #[.pointer (some ⟨w.heap.size, 0, none⟩), .pointer (some ⟨w.heap.size + 1, 0, none⟩), .pointer none] t)).alloc (.cells (madeCells #[.pointer none] len) 43)) w.heap.size len (ckOf w.heap.size) d f 0 := by
  have hz : (((w.alloc o1).alloc o2).alloc (.cells #[.pointer (some ⟨w.heap.size, 0, none⟩), .pointer (some ⟨w.heap.size + 1, 0, none⟩), .pointer none] t)).heap.size = w.heap.size + 3 := by simp
  constructor
  · exact ((((Below.refl _ _).alloc (Nat.le_refl _) _).alloc (by simp) _).alloc (by simp; omega) _).alloc (by rw [hz]; omega) _
  · simp
  · exact clk_start w _ (fun o => by
      rw [World.cell?_alloc_past _ _ _ (by rw [hz]; omega)]
      exact World.cell?_alloc_at _ _ _ _ (by simp))
  · intro j hj; omega
  · intro j _ hj
    have := (World.rowIs_made (((w.alloc o1).alloc o2).alloc (.cells #[.pointer (some ⟨w.heap.size, 0, none⟩), .pointer (some ⟨w.heap.size + 1, 0, none⟩), .pointer none] t)) (.pointer none) len 43).cell hj
    rw [hz] at this
    exact this
  · intro j
    exact World.frozen?_alloc_at _ _ _ _ hz.symm
  · intro j hj; omega
  · intro j hj; omega
  · intro i j _ hj; omega

theorem size38 : (Yba.prog.info? 38).map (·.size) = some 8 := by kernel_rfl
theorem eql_refl (o : Option Addr) (w : World) : (binOp .eql 23 (.pointer o) (.pointer o)).run Yba.prog w = .ok (.bool true) w := by
  cases o with
  | none => kernel_rfl
  | some a =>
    obtain ⟨j, hj, _⟩ := Option.map_eq_some_iff.1 size38
    exact run_eql_ptr_same w a Yba.underlying23 hj

set_option maxRecDepth 100000 in
set_option maxHeartbeats 2000000 in
theorem walk_some (b off len cap : Nat) (d : ND) (w : World) (hpos : 0 < len) (hle : len ≤ 1024) (hc : Came w b off len d) :
    Calls Yba.prog 3 #[.slice (some ⟨b, off, none⟩) len cap] w fun e w' => e = .returned (.bool true) ∧ Below w.heap.size w w' := by
  have hmk := run_make_row' (P := Yba.prog) 35 43 (.pointer none) 8 Yba.underlying35 info43 rfl .i64 .i64 len (by omega) (by omega)
  go_enter Yba.func3, Yba.ntmps3
  go_wp2
  go_loopw [27] (fun i wr => ∃ (k : Nat) (f : Nat → Nat), k ≤ len ∧ i = .int .i64 k ∧ Inv1 w wr w.heap.size len (ckOf w.heap.size) d f k) (fun i _ => len - (intOf i).toNat)
  case atStart => exact ⟨0, fun _ => 0, Nat.zero_le _, rfl, start w _ _ _ len d _⟩
  case round =>
    obtain ⟨k, f, hk, rfl, hI⟩ := hrel
    by_cases hlt : k < len
    · have hcb : ∀ o, wr.cell? ⟨b, o, none⟩ = w.cell? ⟨b, o, none⟩ := fun o => hI.below.cell (p := ⟨b, o, none⟩) hc.blk
      have e0 := (hcb _).trans (hc.c0 k hlt)
      have e1 := (hcb _).trans (hc.c1 k hlt)
      have e2 := (hcb _).trans (hc.c2 k hlt)
      have e3 := (hcb _).trans (hc.c3 k hlt)
      obtain ⟨k00, k01⟩ := hc.k0 k hlt
      obtain ⟨k20, k21⟩ := hc.k2 k hlt
      obtain ⟨k30, k31⟩ := hc.k3 k hlt
      have hsz := hI.size
      have hck3 : wr.cell? ⟨w.heap.size + 1 + 1, (d.PC k % 3).toNat, none⟩ = some (.pointer (ckOf w.heap.size (d.PC k % 3))) := hI.clk _ (by omega) (by omega)
      have hck2 : wr.cell? ⟨w.heap.size + 1 + 1, (d.DC k % 3).toNat, none⟩ = some (.pointer (ckOf w.heap.size (d.DC k % 3))) := hI.clk _ (by omega) (by omega)
      have hsl : wr.cell? ⟨w.heap.size + 1 + 1 + 1, k, none⟩ = some (.pointer none) := hI.rest k (Nat.le_refl _) hlt
      have hfr : wr.frozen? ⟨w.heap.size + 1 + 1 + 1, k, none⟩ = false := hI.free k
      have hlt2 : w.heap.size + 1 + 1 < wr.heap.size := by omega
      have hlt3 : w.heap.size + 1 + 1 + 1 < wr.heap.size := by omega
      have hbl : b < wr.heap.size := by have := hc.blk; omega
      have p32 : ∀ x y, ((wr.alloc x).alloc y).cell? ⟨w.heap.size + 1 + 1, (d.PC k % 3).toNat, none⟩ = some (.pointer (ckOf w.heap.size (d.PC k % 3))) := fun x y => cell_on (cell_on hck3 x) y
      have p22 : ∀ x y, ((wr.alloc x).alloc y).cell? ⟨w.heap.size + 1 + 1, (d.DC k % 3).toNat, none⟩ = some (.pointer (ckOf w.heap.size (d.DC k % 3))) := fun x y => cell_on (cell_on hck2 x) y
      have p23 : ∀ x y z, (((wr.alloc x).alloc y).alloc z).cell? ⟨w.heap.size + 1 + 1, (d.DC k % 3).toNat, none⟩ = some (.pointer (ckOf w.heap.size (d.DC k % 3))) := fun x y z => cell_on (p22 x y) z
      have s2 : ∀ x y, ((wr.alloc x).alloc y).cell? ⟨w.heap.size + 1 + 1 + 1, k, none⟩ = some (.pointer none) := fun x y => cell_on (cell_on hsl x) y
      have s3 : ∀ x y z, (((wr.alloc x).alloc y).alloc z).cell? ⟨w.heap.size + 1 + 1 + 1, k, none⟩ = some (.pointer none) := fun x y z => cell_on (s2 x y) z
      have s4 : ∀ x y z t, ((((wr.alloc x).alloc y).alloc z).alloc t).cell? ⟨w.heap.size + 1 + 1 + 1, k, none⟩ = some (.pointer none) := fun x y z t => cell_on (s3 x y z) t
      have f2 : ∀ x y, ((wr.alloc x).alloc y).frozen? ⟨w.heap.size + 1 + 1 + 1, k, none⟩ = false := fun x y => free_on (by simp; omega) (free_on hlt3 hfr x) y
      have f3 : ∀ x y z, (((wr.alloc x).alloc y).alloc z).frozen? ⟨w.heap.size + 1 + 1 + 1, k, none⟩ = false := fun x y z => free_on (by simp; omega) (f2 x y) z
      have f4 : ∀ x y z t, ((((wr.alloc x).alloc y).alloc z).alloc t).frozen? ⟨w.heap.size + 1 + 1 + 1, k, none⟩ = false := fun x y z t => free_on (by simp; omega) (f3 x y z) t
      have H : Hid (Inv1 w wr w.heap.size len (ckOf w.heap.size) d f k) := hI
      have HC : Hid (Came w b off len d) := hc
      clear hI hc hcb hmk
      by_cases h3 : d.K k % 6 = 3
      · have HK : Hid (d.K k % 6 = 3) := h3
        have h3' : (d.K k % 6 == 3) = true := by simpa using h3
        clear h3
        cases hd : d.D k with
        | true =>
          have HD : Hid (d.D k = true) := hd
          rw [hd] at e1
          clear hd
          go_wp2
          go_roundw
          case rel =>
            refine ⟨k + 1, _, by omega, by go_num, H.out.round hlt ?n1 ?c1 ?d1 ?hb1 ?p1 ?q1 ?r1⟩
            case hb1 => exact ((Below.refl _ _).alloc (Nat.le_refl _) _).alloc (by simp) _
            case p1 => exact fun _ => ⟨wr.heap.size + 1 + 1, by omega, by simp, rfl, by go_simp⟩
            case q1 => exact fun e => by rw [HD.out] at e; cases e
            case r1 => exact fun _ => ⟨wr.heap.size + 1 + 1 + 1, by omega, by simp, rfl, by go_simp⟩
          case measure => simp [intOf]; omega
        | false =>
          have HD : Hid (d.D k = false) := hd
          rw [hd] at e1
          clear hd
          go_wp2
          go_roundw
          case rel =>
            refine ⟨k + 1, _, by omega, by go_num, H.out.round hlt ?n2 ?c2 ?d2 ?hb2 ?p2 ?q2 ?r2⟩
            case hb2 => exact (Below.refl _ _).alloc (Nat.le_refl _) _
            case p2 => exact fun _ => ⟨wr.heap.size + 1 + 1, by omega, by simp, rfl, by go_simp⟩
            case q2 => exact fun _ => rfl
            case r2 => exact fun e => by rw [HD.out] at e; cases e
          case measure => simp [intOf]; omega
      · have HK : Hid (¬ d.K k % 6 = 3) := h3
        have h3' : (d.K k % 6 == 3) = false := by simpa using h3
        clear h3
        cases hd : d.D k with
        | true =>
          have HD : Hid (d.D k = true) := hd
          rw [hd] at e1
          clear hd
          go_wp2
          go_roundw
          case rel =>
            refine ⟨k + 1, _, by omega, by go_num, H.out.round hlt ?n3 ?c3 ?d3 ?hb3 ?p3 ?q3 ?r3⟩
            case hb3 => exact (Below.refl _ _).alloc (Nat.le_refl _) _
            case p3 => exact fun e => absurd e HK.out
            case q3 => exact fun e => by rw [HD.out] at e; cases e
            case r3 => exact fun _ => ⟨wr.heap.size + 1 + 1, by omega, by simp, rfl, by go_simp⟩
          case measure => simp [intOf]; omega
        | false =>
          have HD : Hid (d.D k = false) := hd
          rw [hd] at e1
          clear hd
          go_wp2
          go_roundw
          case rel =>
            rw [back2 hlt3]
            refine ⟨k + 1, _, by omega, by go_num, H.out.round hlt ?n4 ?c4 ?d4 ?hb4 ?p4 ?q4 ?r4⟩
            case hb4 => exact Below.refl _ _
            case p4 => exact fun e => absurd e HK.out
            case q4 => exact fun _ => rfl
            case r4 => exact fun e => by rw [HD.out] at e; cases e
          case measure => simp [intOf]; omega
    · have hkl : k = len := by omega
      subst hkl
      have h2 := hI.done
      have H2 : Hid (Inv2 w wr w.heap.size k (ckOf w.heap.size) d f 0) := h2
      have HC : Hid (Came w b off k d) := hc
      clear hI h2 hc hmk hk
      go_wp2
      go_loopw [9] (fun i wx => ∃ n : Nat, n + 1 ≤ k ∧ i = .int .i64 n ∧ Inv2 w wx w.heap.size k (ckOf w.heap.size) d f n) (fun i _ => k - (intOf i).toNat)
      case atStart => exact ⟨0, by omega, rfl, H2.out⟩
      case round =>
        obtain ⟨n, hn, rfl, h2⟩ := hrel
        have hs0 : wr.cell? ⟨w.heap.size + 1 + 1 + 1, n, none⟩ = some (.pointer (some ⟨f n, 0, none⟩)) := h2.slot n (by omega)
        by_cases hlt2 : n + 1 < k
        · have hs1 : wr.cell? ⟨w.heap.size + 1 + 1 + 1, n + 1, none⟩ = some (.pointer (some ⟨f (n + 1), 0, none⟩)) := h2.slot (n + 1) hlt2
          have hu := h2.up n (by omega)
          have hf := (h2.node n (by omega)).free
          simp only [Nat.lt_irrefl, if_false] at hu
          have H3 : Hid (Inv2 w wr w.heap.size k (ckOf w.heap.size) d f n) := h2
          clear h2 H2
          have hi0 : (n : Int) < (k : Int) := by omega
          have hi1 : (n : Int) + 1 < (k : Int) := by omega
          go_wp2
          go_region
          all_goals go_wp2
          all_goals
            go_roundw
            case rel => exact ⟨n + 1, by omega, by go_num, (H3.out.step hlt2).drew⟩
            case measure => simp [intOf]; omega
        · obtain ⟨w2, rfl⟩ : ∃ x, x = wr := ⟨_, rfl⟩
          have hnk : n + 1 = k := by omega
          have hz2 := h2.size
          have hb2 := h2.below
          have hh : w2.cell? ⟨w.heap.size + 1 + 1 + 1, 0, none⟩ = some (.pointer (some ⟨f 0, 0, none⟩)) := h2.slot 0 hpos
          have H3 : Hid (Inv2 w w2 w.heap.size k (ckOf w.heap.size) d f n) := h2
          have HN : Hid (n + 1 = k) := hnk
          have hle1 : (k : Int) ≤ (n : Int) + 1 := by omega
          have heq := eql_refl
          clear h2 H2 hnk hs0
          go_wp2
          go_loopw [11, 98] (fun v i wx => ∃ m : Nat, m ≤ k ∧ i = .int .i64 m ∧ v = .pointer none ∧ wantF (ckOf w.heap.size) d k 0 = wantF (ckOf w.heap.size) d (k - m) m ∧ Below w2.heap.size w2 wx) (fun _ i _ => k - (intOf i).toNat)
          case atStart => exact ⟨0, Nat.zero_le _, rfl, rfl, rfl, Below.refl _ _⟩
          case round =>
            obtain ⟨m, hm, rfl, rfl, hW, hbx⟩ := hrel
            have HW : Hid (wantF (ckOf w.heap.size) d k 0 = wantF (ckOf w.heap.size) d (k - m) m) := hW
            clear hW
            by_cases hmk : m < k
            · have hc := HC.out
              have hcb : ∀ o, wr.cell? ⟨b, o, none⟩ = w.cell? ⟨b, o, none⟩ := fun o => (hbx.cell (p := ⟨b, o, none⟩) (by have := hc.blk; show b < _; omega)).trans (hb2.cell (p := ⟨b, o, none⟩) hc.blk)
              have e0 := (hcb _).trans (hc.c0 m hmk)
              have e1 := (hcb _).trans (hc.c1 m hmk)
              have e2 := (hcb _).trans (hc.c2 m hmk)
              have e3 := (hcb _).trans (hc.c3 m hmk)
              obtain ⟨k00, k01⟩ := hc.k0 m hmk
              obtain ⟨k20, k21⟩ := hc.k2 m hmk
              obtain ⟨k30, k31⟩ := hc.k3 m hmk
              have hcc : ∀ i : Int, 0 ≤ i → i < 3 → wr.cell? ⟨w.heap.size + 1 + 1, i.toNat, none⟩ = some (.pointer (ckOf w.heap.size i)) := fun i h0 h3 =>
                (hbx.cell (p := ⟨w.heap.size + 1 + 1, i.toNat, none⟩) (by show w.heap.size + 1 + 1 < _; omega)).trans (H3.out.clk i h0 h3)
              have p3 : ∀ x, (wr.alloc x).cell? ⟨w.heap.size + 1 + 1, (d.PC m % 3).toNat, none⟩ = some (.pointer (ckOf w.heap.size (d.PC m % 3))) := fun x => cell_on (hcc _ (by omega) (by omega)) x
              have p2 : ∀ x, (wr.alloc x).cell? ⟨w.heap.size + 1 + 1, (d.DC m % 3).toNat, none⟩ = some (.pointer (ckOf w.heap.size (d.DC m % 3))) := fun x => cell_on (hcc _ (by omega) (by omega)) x
              obtain ⟨r, hr⟩ : ∃ r, k - m = r + 1 := ⟨k - m - 1, by omega⟩
              have hfin : ∀ x, Below w2.heap.size w2 (wr.alloc x) := fun x => hbx.alloc hbx.size x
              have hlink : ∀ x, Linked (wr.alloc x) (w.heap.size + 4) k (ckOf w.heap.size) d f := fun x => H3.out.linked HN.out (hfin x)
              have hcl := fun x => clock_any (w.heap.size + 4) k (ckOf w.heap.size) d f (wr.alloc x) hpos (hlink x)
              by_cases h3 : d.K m % 6 = 3
              · rw [HW.out, hr, wantF_clock h3] at hcl
                have h3' : (d.K m % 6 == 3) = true := by simpa using h3
                have HL : Hid (∀ x, Calls Yba.prog 6 #[.pointer (some ⟨f 0, 0, none⟩)] (wr.alloc x) fun e w' => e = .returned (.pointer (ckOf w.heap.size (d.PC m % 3))) ∧ w' = wr.alloc x) := hcl
                have HF : Hid (∀ x, Below w2.heap.size w2 (wr.alloc x)) := hfin
                clear h3 hcc hcb hr hlink hcl hfin
                go_wp2_with (go_at_call 6; refine (HL.out _).mono ?_; rintro e w' ⟨rfl, rfl⟩)
                go_ret
                exact ⟨rfl, hb2.trans ((HF.out _).mono (by omega))⟩
              · have h3' : (d.K m % 6 == 3) = false := by simpa using h3
                cases hd : d.D m with
                | true =>
                  rw [HW.out, hr, wantF_dl h3 hd] at hcl
                  have HL : Hid (∀ x, Calls Yba.prog 6 #[.pointer (some ⟨f 0, 0, none⟩)] (wr.alloc x) fun e w' => e = .returned (.pointer (ckOf w.heap.size (d.DC m % 3))) ∧ w' = wr.alloc x) := hcl
                  have HF : Hid (∀ x, Below w2.heap.size w2 (wr.alloc x)) := hfin
                  rw [hd] at e1
                  clear h3 hcc hcb hr hlink hcl hfin hd
                  go_wp2_with (go_at_call 6; refine (HL.out _).mono ?_; rintro e w' ⟨rfl, rfl⟩)
                  go_ret
                  exact ⟨rfl, hb2.trans ((HF.out _).mono (by omega))⟩
                | false =>
                  have HW' : Hid (wantF (ckOf w.heap.size) d k 0 = wantF (ckOf w.heap.size) d (k - (m + 1)) (m + 1)) := by
                    rw [HW.out, hr, wantF_on h3 hd, show k - (m + 1) = r by omega]; exact rfl
                  have HF : Hid (∀ x, Below w2.heap.size w2 (wr.alloc x)) := hfin
                  rw [hd] at e1
                  clear h3 hcc hcb hr hlink hcl hfin hd HW
                  go_wp2
                  go_roundw
                  case rel => exact ⟨m + 1, by omega, by go_num, rfl, HW'.out, HF.out _⟩
                  case measure => simp [intOf]; omega
            · have hmk' : m = k := by omega
              subst hmk'
              have hcl := clock_any (w.heap.size + 4) m (ckOf w.heap.size) d f wr hpos (H3.out.linked HN.out hbx)
              rw [HW.out, Nat.sub_self, wantF] at hcl
              have HL : Hid (Calls Yba.prog 6 #[.pointer (some ⟨f 0, 0, none⟩)] wr fun e w' => e = .returned (.pointer none) ∧ w' = wr) := hcl
              clear hcl
              go_wp2_with (go_at_call 6; refine HL.out.mono ?_; rintro e w' ⟨rfl, rfl⟩)
              go_ret
              exact ⟨rfl, hb2.trans (hbx.mono (by omega))⟩

set_option maxRecDepth 100000 in
set_option maxHeartbeats 400000 in
theorem walk_empty (a : Option Addr) (cap : Nat) (w : World) :
    Calls Yba.prog 3 #[.slice a 0 cap] w fun e w' => e = .returned (.bool true) ∧ Below w.heap.size w w' := by
  have hmk : ∀ w : World, (Instr.makeSlice 35 (.int .i64 0) (.int .i64 0)).run Yba.prog w = .ok (.slice (some ⟨w.heap.size, 0, none⟩) 0 0) (w.alloc (.cells (madeCells #[.pointer none] 0) 43)) :=
    fun w => run_make_row' (P := Yba.prog) 35 43 (.pointer none) 8 Yba.underlying35 info43 rfl .i64 .i64 0 (by omega) (by omega) w
  have heq := eql_refl
  go_enter Yba.func3, Yba.ntmps3
  go_wp2
  refine wp_loop_rounds 1 ?_
  rw [rounds_succ]
  go_wp2
  refine wp_loop_rounds 1 ?_
  rw [rounds_succ]
  go_wp2
  refine wp_loop_rounds 1 ?_
  rw [rounds_succ]
  go_wp2_with (go_at_call 6; refine (clock_nil _).mono ?_; rintro e w' ⟨rfl, rfl⟩)
  go_ret
  exact ⟨rfl, by repeat (first | exact Below.refl _ _ | apply Below.drew | (refine Below.alloc ?_ (by simp; try omega) _))⟩

set_option maxHeartbeats 400000 in
theorem walk_big (a : Option Addr) (len cap : Nat) (w : World) (h : 1024 < len) :
    Calls Yba.prog 3 #[.slice a len cap] w fun e w' => e = .returned (.bool true) ∧ Below w.heap.size w w' := by
  go_enter Yba.func3, Yba.ntmps3
  go_wp2
  go_ret
  exact ⟨rfl, Below.refl _ _⟩
end Go.Proofs.Ybulkapgo.clock
