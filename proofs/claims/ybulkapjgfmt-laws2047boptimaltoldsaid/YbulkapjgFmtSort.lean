/- sort.Slice and sort.Search at this program, by the shelf's contracts: over rows of int64 that hold natural numbers. -/
import Derived.Test.YbulkapjgFmtRows
import Derived.Test.YbulkapjgFmtMem
import Derived.Test.YbulkapjgFmtPlain
import Derived.Test.YbulkapjgFmtShelf
import Derived.Deep.QuietTactic
import Derived.BigQuiet
import Derived.Lib.SortBridge
import Derived.Sort.LotA
namespace Go.Proofs.YbulkapjgFmt
open Go.Shelf Go.RowKit Go.Lib Go.Sort
open Plain (nth)

/-- A natural number as an int64's cell. -/
def num (n : Nat) : Value := .int .i64 (n : Int)

theorem infoT : (Ybaf.prog.info? 23).map (·.desc) = some (.slice 2) := by kernel_rfl
theorem infoE : (Ybaf.prog.info? 2).map (fun i => (i.hasPointers, i.bytes, i.size)) = some (false, 8, 1) := by kernel_rfl
theorem info_of {α : Type} {o : Option TypeInfo} {f : TypeInfo → α} {v : α} (h : o.map f = some v) : ∃ i, o = some i ∧ f i = v := Option.map_eq_some_iff.1 h
theorem siK (siE : TypeInfo) (hE : (siE.hasPointers, siE.bytes, siE.size) = (false, 8, 1)) (n : Nat) (h2 : 2 ≤ n) : Lib.swapperK n siE 6 = 5 := by
  simp only [Prod.mk.injEq] at hE
  have c : (n == 0) = false := by simp; omega
  have d : (n == 1) = false := by simp; omega
  simp [Lib.swapperK, hE.1, hE.2.1, c, d]

theorem pairwise_of {r r' : Nat → Nat → Prop} (h : ∀ a b, r a b → r' a b) {l : List Nat} (hl : l.Pairwise r) : l.Pairwise r' := by
  rw [List.pairwise_iff_getElem] at hl ⊢
  intro i j hi hj hij
  exact h _ _ (hl i j hi hj hij)

set_option maxHeartbeats 2000000 in
theorem less_up (blk off c Bs size : Nat) (W : World) (G : Nat → Int) (hs : W.cell? ⟨Bs, 0, none⟩ = some (.slice (some ⟨blk, off, none⟩) size c))
    (hc : ∀ t, t < size → W.cell? ⟨blk, off + t, none⟩ = some (.int .i64 (G t))) (i j : Nat) (hi : i < size) (hj : j < size) :
    Calls Ybaf.prog 45 #[.int .i64 i, .int .i64 j, .pointer (some ⟨Bs, 0, none⟩)] W fun e w' => e = .returned (.bool (decide (G i < G j))) ∧ ∃ q, w' = W.drewN q := by
  have ci := hc i hi
  have cj := hc j hj
  go_enter Ybaf.func45, Ybaf.ntmps45
  go_wp2
  go_quiet (fail)
  go_wp2
  go_ret
  exact ⟨rfl, nq, rfl⟩

set_option maxHeartbeats 2000000 in
theorem less_down (blk off c Bs size : Nat) (W : World) (G : Nat → Int) (hs : W.cell? ⟨Bs, 0, none⟩ = some (.slice (some ⟨blk, off, none⟩) size c))
    (hc : ∀ t, t < size → W.cell? ⟨blk, off + t, none⟩ = some (.int .i64 (G t))) (i j : Nat) (hi : i < size) (hj : j < size) :
    Calls Ybaf.prog 52 #[.int .i64 i, .int .i64 j, .pointer (some ⟨Bs, 0, none⟩)] W fun e w' => e = .returned (.bool (decide (G j < G i))) ∧ ∃ q, w' = W.drewN q := by
  have ci := hc i hi
  have cj := hc j hj
  go_enter Ybaf.func52, Ybaf.ntmps52
  go_wp2
  go_quiet (fail)
  go_wp2
  go_ret
  exact ⟨rfl, nq, rfl⟩

def upB (a b : Nat) : Bool := decide (a < b)
def downB (a b : Nat) : Bool := decide (b < a)
theorem swo_up : SWO upB := ⟨fun x => by simp [upB], fun x y z => by simp [upB]; omega, fun x y z => by simp [upB]; omega⟩
theorem swo_down : SWO downB := ⟨fun x => by simp [downB], fun x y z => by simp [downB]; omega, fun x y z => by simp [downB]; omega⟩

/-- What the two closures owe the sort. -/
theorem reads_of (g : Nat) (lt : Nat → Nat → Bool) (blk c Bs : Nat) (d : Array Nat) (w : World) (hs : w.cell? ⟨Bs, 0, none⟩ = some (.slice (some ⟨blk, 0, none⟩) d.size c)) (hne : Bs ≠ blk) (hH : Holds num w blk 0 d) (hb : blk < w.heap.size)
    (hless : ∀ (W : World) (G : Nat → Nat), W.cell? ⟨Bs, 0, none⟩ = some (.slice (some ⟨blk, 0, none⟩) d.size c) → (∀ t, t < d.size → W.cell? ⟨blk, 0 + t, none⟩ = some (num (G t))) → ∀ i j, i < d.size → j < d.size →
      Calls Ybaf.prog g #[.int .i64 i, .int .i64 j, .pointer (some ⟨Bs, 0, none⟩)] W fun e w' => e = .returned (.bool (lt (G i) (G j))) ∧ ∃ q, w' = W.drewN q) :
    LessReads Ybaf.prog g #[.pointer (some ⟨Bs, 0, none⟩)] num lt blk 0 d.size w := by
  intro m os dk hsz i j hi hj
  have e : sortWorld num w blk 0 m dk os = putRow num (grow (Sort.ahead w m) os) blk 0 dk := by
    unfold sortWorld; rw [putRow_grow _ (Sort.ahead w m) _ blk 0 _ hb]
  have hHg : Holds num (grow (Sort.ahead w m) os) blk 0 d := holds_grow _ _ _ blk 0 d hb (holds_ahead _ _ _ _ _ _ hH)
  have hBs : Bs < w.heap.size := block_lt_of_cell hs
  refine hless _ (fun t => dk[t]!) ?_ (fun t ht => ?_) i j hi hj
  · rw [e, cell?_putRow_other _ _ blk 0 dk _ (Or.inl (by exact hne)), cell?_grow _ _ _ (by exact hBs)]
    exact hs
  · rw [e]; exact cell?_putRow _ _ blk 0 d dk hHg hsz t (by omega)

theorem holds_of_arr {w : World} {g cap : Nat} {ds : List Nat} (h : Arr w g 2 cap ds.length (fun i => num (nth ds i))) : Holds num w g 0 ds.toArray := by
  intro j hj
  have hj' : j < ds.length := by simpa using hj
  rw [Nat.zero_add]
  refine ⟨?_, h.free j⟩
  rw [h.cell hj']
  simp [nth, List.getD, hj']

theorem grownBy_put {w : World} {g n : Nat} {os : Array Obj} (d : Array Nat) : w.grownBy (grow (putRow num (Sort.ahead w n) g 0 d) os) (some g) := by
  refine ⟨rfl, rfl, rfl, by simp, fun k hk hne => ?_⟩
  rw [heap_grow_old _ _ (by simpa using hk)]
  have : g ≠ k := fun e => hne (by rw [e])
  simp [putRow, mapBlock, Sort.ahead, Array.getElem?_modify, this]

theorem arr_put {w : World} {g cap n q : Nat} {f : Nat → Value} {os : Array Obj} (ts : List Nat) (hl : ts.length = n) (h : Arr w g 2 cap n f) : Arr (grow (putRow num (Sort.ahead w q) g 0 ts.toArray) os) g 2 cap ts.length (fun i => num (nth ts i)) := by
  obtain ⟨cur, hb, hs, hn, _⟩ := h
  have hg : g < w.heap.size := (Array.getElem?_eq_some_iff.1 hb).1
  refine ⟨putCells num 0 ts.toArray cur, ?_, by simpa [putCells] using hs, by omega, fun i hi => ?_⟩
  · rw [heap_grow_old _ _ (by simpa using hg)]
    simp [putRow, mapBlock, Sort.ahead, Array.getElem?_modify, hb, onCells]
  · simp [putCells, hi, show i < cur.size by omega, nth, List.getD]

/-- sort.Slice with one of the two closures. -/
theorem sort_any (g : Nat) (lt : Nat → Nat → Bool) (hO : SWO lt) (hg : ∀ args w, (callFunc g args).run Ybaf.prog w = .ok (.enter g args) w) (blk cap Bs : Nat) (ds : List Nat) (w : World) (hsz : ds.length < 4611686018427387904)
    (hs : w.cell? ⟨Bs, 0, none⟩ = some (.slice (some ⟨blk, 0, none⟩) ds.length cap)) (hne : Bs ≠ blk) (h : Arr w blk 2 cap ds.length (fun i => num (nth ds i)))
    (hless : ∀ (W : World) (G : Nat → Nat), W.cell? ⟨Bs, 0, none⟩ = some (.slice (some ⟨blk, 0, none⟩) ds.length cap) → (∀ t, t < ds.length → W.cell? ⟨blk, 0 + t, none⟩ = some (num (G t))) → ∀ i j, i < ds.length → j < ds.length →
      Calls Ybaf.prog g #[.int .i64 i, .int .i64 j, .pointer (some ⟨Bs, 0, none⟩)] W fun e w' => e = .returned (.bool (lt (G i) (G j))) ∧ ∃ q, w' = W.drewN q) :
    Calls Ybaf.prog 44 #[.iface 23 (.slice (some ⟨blk, 0, none⟩) ds.length cap), .func (.func g) #[] #[.pointer (some ⟨Bs, 0, none⟩)]] w fun e w' =>
      e = .returned (.tuple #[]) ∧ ∃ ts : List Nat, ts.Perm ds ∧ ts.Pairwise (fun a b => lt b a = false) ∧ w.grownBy w' (some blk) ∧ Arr w' blk 2 cap ts.length (fun i => num (nth ts i)) := by
  have hH := holds_of_arr h
  have hb := h.lt
  obtain ⟨siT, hiT, hdT⟩ := info_of infoT
  obtain ⟨siE, hiE, hdE⟩ := info_of infoE
  have hs1E : siE.size = 1 := by simp only [Prod.mk.injEq] at hdE; exact hdE.2.2
  by_cases h2 : 2 ≤ ds.length
  · have hS := Any.sort_Slice_sorted Ybaf.sa6 23 2 siT siE hiT hdT (by kernel_rfl) hiE 6 (fun _ => by kernel_rfl) hs1E (fun _ => by kernel_rfl) num (fun _ => rfl) lt hO g _
      hg blk 0 cap ds.toArray (by simpa using h2) (by simpa using hsz) 62 (by rw [siK siE hdE _ (by simpa using h2)]; kernel_rfl) true
      (fun args W => run_callFunc_extern Ybaf.func62 (by kernel_rfl) (by kernel_rfl) (by kernel_rfl) (e := Extern.ReflectliteSwapper.swap true) (by kernel_rfl) args W) w
      (reads_of g lt blk cap Bs ds.toArray w (by simpa using hs) hne hH hb (by simpa using hless)) hH hb
    change Calls Ybaf.prog 44 _ _ _ at hS
    simp only [List.size_toArray] at hS
    refine hS.mono ?_
    rintro e w' ⟨rfl, d', n, os, hp, hso, rfl⟩
    obtain ⟨hs1, _, hp1⟩ := hp
    have hs2 : d'.size = ds.length := by simpa using hs1
    have e1 : d'.extract 0 ds.length = d' := by rw [← hs2]; exact Array.extract_size
    have e2 : ds.toArray.extract 0 ds.length = ds.toArray := by
      have : ds.toArray.size = ds.length := by simp
      rw [← this]; exact Array.extract_size
    rw [e1, e2] at hp1
    refine ⟨rfl, d'.toList, hp1, ?_, grownBy_put _, ?_⟩
    · rw [List.pairwise_iff_getElem]
      intro i j hi hj hij
      have hi' : i < d'.size := by simpa using hi
      have hj' : j < d'.size := by simpa using hj
      have := hso i j (Nat.zero_le _) hij (by omega)
      rw [getElem!_pos d' j hj', getElem!_pos d' i hi'] at this
      simpa using this
    · exact arr_put d'.toList (by simpa using hs2) h
  · have h1 : ds.length ≤ 1 := by omega
    have hK : Lib.swapperK ds.length siE 6 = ds.length + 1 := by
      rcases Nat.eq_zero_or_pos ds.length with h | h
      · rw [h]; simp [Lib.swapperK]
      · rw [show ds.length = 1 by omega]; simp [Lib.swapperK]
    have hS := Any.sort_Slice_tiny Ybaf.sa6 23 2 siT siE hiT hdT (by kernel_rfl) hiE 6 (fun _ => by kernel_rfl) (some ⟨blk, 0, none⟩) ds.length cap h1 (58 + ds.length) (by
      rw [hK]
      rcases Nat.eq_zero_or_pos ds.length with h | h
      · rw [h]; kernel_rfl
      · rw [show ds.length = 1 by omega]; kernel_rfl) (.func g) #[] #[.pointer (some ⟨Bs, 0, none⟩)] w
    change Calls Ybaf.prog 44 _ _ _ at hS
    refine hS.mono ?_
    rintro e w' ⟨rfl, os, rfl⟩
    refine ⟨rfl, ds, List.Perm.refl _, ?_, ?_, ?_⟩
    · rw [List.pairwise_iff_getElem]
      intro i j hi hj hij
      omega
    · refine ⟨rfl, rfl, rfl, by simp, fun k hk _ => ?_⟩
      exact heap_grow_old _ _ hk
    · exact h.of_block (heap_grow_old _ _ hb)

theorem sort_up (blk cap Bs : Nat) (ds : List Nat) (w : World) (hsz : ds.length < 4611686018427387904)
    (hs : w.cell? ⟨Bs, 0, none⟩ = some (.slice (some ⟨blk, 0, none⟩) ds.length cap)) (hne : Bs ≠ blk) (h : Arr w blk 2 cap ds.length (fun i => num (nth ds i))) :
    Calls Ybaf.prog 44 #[.iface 23 (.slice (some ⟨blk, 0, none⟩) ds.length cap), .func (.func 45) #[] #[.pointer (some ⟨Bs, 0, none⟩)]] w fun e w' =>
      e = .returned (.tuple #[]) ∧ ∃ ts : List Nat, ts.Perm ds ∧ ts.Pairwise (· ≤ ·) ∧ w.grownBy w' (some blk) ∧ Arr w' blk 2 cap ts.length (fun i => num (nth ts i)) := by
  refine (sort_any 45 upB swo_up (enters_of Ybaf.func45 (by kernel_rfl) rfl) blk cap Bs ds w hsz hs hne h ?_).mono ?_
  · intro W G hs hc i j hi hj
    have := less_up blk 0 cap Bs ds.length W (fun t => (G t : Int)) hs hc i j hi hj
    refine this.mono fun e w' ⟨he, hq⟩ => ⟨?_, hq⟩
    rw [he]; congr 2; simp [upB]
  · rintro e w' ⟨rfl, ts, h1, h2, h3, h4⟩
    exact ⟨rfl, ts, h1, pairwise_of (fun a b h => by simpa [upB] using h) h2, h3, h4⟩

theorem sort_down (blk cap Bs : Nat) (ds : List Nat) (w : World) (hsz : ds.length < 4611686018427387904)
    (hs : w.cell? ⟨Bs, 0, none⟩ = some (.slice (some ⟨blk, 0, none⟩) ds.length cap)) (hne : Bs ≠ blk) (h : Arr w blk 2 cap ds.length (fun i => num (nth ds i))) :
    Calls Ybaf.prog 44 #[.iface 23 (.slice (some ⟨blk, 0, none⟩) ds.length cap), .func (.func 52) #[] #[.pointer (some ⟨Bs, 0, none⟩)]] w fun e w' =>
      e = .returned (.tuple #[]) ∧ ∃ ts : List Nat, ts.Perm ds ∧ ts.Pairwise (· ≥ ·) ∧ w.grownBy w' (some blk) ∧ Arr w' blk 2 cap ts.length (fun i => num (nth ts i)) := by
  refine (sort_any 52 downB swo_down (enters_of Ybaf.func52 (by kernel_rfl) rfl) blk cap Bs ds w hsz hs hne h ?_).mono ?_
  · intro W G hs hc i j hi hj
    have := less_down blk 0 cap Bs ds.length W (fun t => (G t : Int)) hs hc i j hi hj
    refine this.mono fun e w' ⟨he, hq⟩ => ⟨?_, hq⟩
    rw [he]; congr 2; simp [downB]
  · rintro e w' ⟨rfl, ts, h1, h2, h3, h4⟩
    exact ⟨rfl, ts, h1, pairwise_of (fun a b h => by simpa [downB] using h) h2, h3, h4⟩

set_option maxHeartbeats 2000000 in
theorem past_any (En cap Eb Cb n : Nat) (x : Nat) (W : World) (F : Nat → Nat) (hs : W.cell? ⟨Eb, 0, none⟩ = some (.slice (some ⟨En, 0, none⟩) n cap)) (hx : W.cell? ⟨Cb, 0, none⟩ = some (.int .i64 x))
    (hc : ∀ t, t < n → W.cell? ⟨En, t, none⟩ = some (.int .i64 (F t))) (i : Nat) (hi : i < n) :
    Calls Ybaf.prog 47 #[.int .i64 i, .pointer (some ⟨Eb, 0, none⟩), .pointer (some ⟨Cb, 0, none⟩)] W fun e w' => e = .returned (.bool (decide (x < F i))) ∧ ∃ q, w' = W.drewN q := by
  have ci := hc i hi
  go_enter Ybaf.func47, Ybaf.ntmps47
  go_wp2
  go_quiet (fail)
  go_wp2
  go_ret
  exact ⟨rfl, nq, rfl⟩

/-- sort.Search over 'ends[i] > cell': how many nodes' cells end at or ahead of x. -/
theorem search_any (En cap Eb Cb n : Nat) (x : Nat) (w : World) (F : Nat → Nat) (hn : n < 4611686018427387904) (hs : w.cell? ⟨Eb, 0, none⟩ = some (.slice (some ⟨En, 0, none⟩) n cap)) (hx : w.cell? ⟨Cb, 0, none⟩ = some (.int .i64 x))
    (hc : ∀ t, t < n → w.cell? ⟨En, t, none⟩ = some (.int .i64 (F t))) (hm : ∀ a b, a ≤ b → b < n → F a ≤ F b) :
    Calls Ybaf.prog 46 #[.int .i64 n, .func (.func 47) #[] #[.pointer (some ⟨Eb, 0, none⟩), .pointer (some ⟨Cb, 0, none⟩)]] w fun e w' =>
      e = .returned (.int .i64 ((List.range n).countP (fun i => !(decide (x < F i))) : Nat)) ∧ w.grownBy w' none := by
  have hS := Any.sort_Search Ybaf.search 47 #[.pointer (some ⟨Eb, 0, none⟩), .pointer (some ⟨Cb, 0, none⟩)] n (fun i => decide (x < F i)) w (enters_of Ybaf.func47 (by kernel_rfl) rfl) hn
    (fun m os i hi => by
      have c1 : (grow (w.drewN m) os).cell? ⟨Eb, 0, none⟩ = some (.slice (some ⟨En, 0, none⟩) n cap) := by rw [cell?_grow _ _ _ (by exact block_lt_of_cell hs)]; simpa using hs
      have c2 : (grow (w.drewN m) os).cell? ⟨Cb, 0, none⟩ = some (.int .i64 x) := by rw [cell?_grow _ _ _ (by exact block_lt_of_cell hx)]; simpa using hx
      refine (past_any En cap Eb Cb n x (grow (w.drewN m) os) F c1 c2 (fun t ht => ?_) i hi).mono ?_
      · rw [cell?_grow _ _ _ (by exact block_lt_of_cell (hc t ht))]; simpa using hc t ht
      · rintro e w' ⟨rfl, q, rfl⟩
        exact ⟨rfl, q, #[], by simp⟩)
    (fun a b hab hb => by simp only [decide_eq_true_eq]; intro h; have := hm a b hab hb; omega)
  change Calls Ybaf.prog 46 _ _ _ at hS
  refine hS.mono ?_
  rintro e w' ⟨rfl, q, os, rfl⟩
  refine ⟨rfl, ⟨rfl, rfl, rfl, by simp, fun k hk _ => ?_⟩⟩
  rw [heap_grow_old _ _ (by simpa using hk)]
  simp

end Go.Proofs.YbulkapjgFmt
