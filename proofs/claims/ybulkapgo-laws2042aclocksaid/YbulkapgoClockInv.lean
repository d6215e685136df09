/- What the three loops of 'curfew.LawS2042AClock' keep of the memory; no walk in it. -/
import Derived.WalkKit
import Derived.WalkSpells
namespace Go.Proofs.Ybulkapgo.clock
open Go.RowKit

/-- The nodes as numbers and bools, by their index. -/
structure ND where
  K : Nat → Int
  D : Nat → Bool
  DC : Nat → Int
  PC : Nat → Int

/-- What the law wants of the nodes from j on, n of them. -/
def wantF (ck : Int → Option Addr) (d : ND) : Nat → Nat → Option Addr
  | 0, _ => none
  | n + 1, j => if d.K j % 6 = 3 then ck (d.PC j % 3) else if d.D j = true then ck (d.DC j % 3) else wantF ck d n (j + 1)

theorem wantF_clock {ck d n j} (h : d.K j % 6 = 3) : wantF ck d (n + 1) j = ck (d.PC j % 3) := by rw [wantF, if_pos h]
theorem wantF_dl {ck d n j} (h : ¬ d.K j % 6 = 3) (h2 : d.D j = true) : wantF ck d (n + 1) j = ck (d.DC j % 3) := by rw [wantF, if_neg h, if_pos h2]
theorem wantF_on {ck d n j} (h : ¬ d.K j % 6 = 3) (h2 : d.D j = false) : wantF ck d (n + 1) j = wantF ck d n (j + 1) := by rw [wantF, if_neg h, if_neg (by simp [h2])]

/-- Block b is the context made of node j. -/
structure NodeOk (wr : World) (B : Nat) (ck : Int → Option Addr) (d : ND) (j b : Nat) : Prop where
  lo : B ≤ b
  hi : b < wr.heap.size
  free : wr.frozen? ⟨b, 5, none⟩ = false
  kind : wr.cell? ⟨b, 13, none⟩ = some (.int .u8 (d.K j % 6))
  ctx : d.K j % 6 = 3 → ∃ g, B ≤ g ∧ g < wr.heap.size ∧ wr.cell? ⟨b, 0, none⟩ = some (.iface 59 (.pointer (some ⟨g, 0, none⟩))) ∧ wr.cell? ⟨g, 1, none⟩ = some (.pointer (ck (d.PC j % 3)))
  dlno : d.D j = false → wr.cell? ⟨b, 11, none⟩ = some (.pointer none)
  dlyes : d.D j = true → ∃ g, B ≤ g ∧ g < wr.heap.size ∧ wr.cell? ⟨b, 11, none⟩ = some (.pointer (some ⟨g, 0, none⟩)) ∧ wr.cell? ⟨g, 3, none⟩ = some (.pointer (ck (d.DC j % 3)))

theorem NodeOk.kept {wr wr' : World} {B ck d j b} (h : NodeOk wr B ck d j b) (hs : wr.heap.size ≤ wr'.heap.size)
    (hc : ∀ b o, B ≤ b → b < wr.heap.size → o ≠ 5 → wr'.cell? ⟨b, o, none⟩ = wr.cell? ⟨b, o, none⟩) (hf : ∀ b, B ≤ b → b < wr.heap.size → wr'.frozen? ⟨b, 5, none⟩ = wr.frozen? ⟨b, 5, none⟩) : NodeOk wr' B ck d j b where
  lo := h.lo
  hi := by have := h.hi; omega
  free := by rw [hf b h.lo h.hi]; exact h.free
  kind := by rw [hc b 13 h.lo h.hi (by decide)]; exact h.kind
  ctx := by
    intro hk
    obtain ⟨g, g1, g2, g3, g4⟩ := h.ctx hk
    exact ⟨g, g1, by omega, by rw [hc b 0 h.lo h.hi (by decide)]; exact g3, by rw [hc g 1 g1 g2 (by decide)]; exact g4⟩
  dlno := by intro hk; rw [hc b 11 h.lo h.hi (by decide)]; exact h.dlno hk
  dlyes := by
    intro hk
    obtain ⟨g, g1, g2, g3, g4⟩ := h.dlyes hk
    exact ⟨g, g1, by omega, by rw [hc b 11 h.lo h.hi (by decide)]; exact g3, by rw [hc g 3 g1 g2 (by decide)]; exact g4⟩

theorem NodeOk.below {wr wr' : World} {B ck d j b} (h : NodeOk wr B ck d j b) (hb : Below wr.heap.size wr wr') : NodeOk wr' B ck d j b :=
  h.kept hb.size (fun b o _ h2 _ => hb.cell (p := ⟨b, o, none⟩) h2) (fun b _ h2 => hb.frozen (p := ⟨b, 5, none⟩) h2)

/-- Behind k rounds of the first loop. -/
structure Inv1 (w wr : World) (N len : Nat) (ck : Int → Option Addr) (d : ND) (f : Nat → Nat) (k : Nat) : Prop where
  below : Below N w wr
  size : N + 4 ≤ wr.heap.size
  clk : ∀ i : Int, 0 ≤ i → i < 3 → wr.cell? ⟨N + 2, i.toNat, none⟩ = some (.pointer (ck i))
  slot : ∀ j, j < k → wr.cell? ⟨N + 3, j, none⟩ = some (.pointer (some ⟨f j, 0, none⟩))
  rest : ∀ j, k ≤ j → j < len → wr.cell? ⟨N + 3, j, none⟩ = some (.pointer none)
  free : ∀ j, wr.frozen? ⟨N + 3, j, none⟩ = false
  node : ∀ j, j < k → NodeOk wr (N + 4) ck d j (f j)
  up : ∀ j, j < k → wr.cell? ⟨f j, 5, none⟩ = some (.pointer none)
  inc : ∀ i j, i < j → j < k → f i < f j

theorem Inv1.step {w wr wA : World} {N len ck d f k} (h : Inv1 w wr N len ck d f k) (hk : k < len) (hA : Below wr.heap.size wr wA) {b' : Nat} (hb : wr.heap.size ≤ b')
    (hn : NodeOk wA (N + 4) ck d k b') (hu : wA.cell? ⟨b', 5, none⟩ = some (.pointer none)) :
    Inv1 w (wA.setCell ⟨N + 3, k, none⟩ (.pointer (some ⟨b', 0, none⟩))) N len ck d (fun j => if j = k then b' else f j) (k + 1) := by
  have hs := h.size
  have hsA := hA.size
  have hcell : ∀ b o, b < wr.heap.size → (b = N + 3 → o ≠ k) → (wA.setCell ⟨N + 3, k, none⟩ (.pointer (some ⟨b', 0, none⟩))).cell? ⟨b, o, none⟩ = wr.cell? ⟨b, o, none⟩ := by
    intro b o hb1 hb2
    rw [World.cell?_setCell_other _ _ _ _ (by intro e; cases e; exact hb2 rfl rfl)]
    exact hA.cell (p := ⟨b, o, none⟩) hb1
  have hnew : ∀ b o, N + 4 ≤ b → (wA.setCell ⟨N + 3, k, none⟩ (.pointer (some ⟨b', 0, none⟩))).cell? ⟨b, o, none⟩ = wA.cell? ⟨b, o, none⟩ := by
    intro b o hb1
    exact World.cell?_setCell_other _ _ _ _ (by intro e; cases e; omega)
  constructor
  · exact (h.below.trans (hA.mono (by omega))).setCell (by show N ≤ N + 3; omega) _
  · simpa using (by omega : N + 4 ≤ wA.heap.size)
  · intro i h0 h3; rw [hcell _ _ (by omega) (by omega)]; exact h.clk i h0 h3
  · intro j hj
    by_cases e : j = k
    · subst e
      simp only [if_true]
      exact World.cell?_setCell_same _ _ _ ((hA.cell (p := ⟨N + 3, j, none⟩) (by show N + 3 < _; omega)).trans (h.rest j (Nat.le_refl _) hk))
    · simp only [e, if_false]
      rw [hcell _ _ (by omega) (fun _ => e)]
      exact h.slot j (by omega)
  · intro j h1 h2; rw [hcell _ _ (by omega) (by omega)]; exact h.rest j (by omega) h2
  · intro j
    rw [World.frozen?_setCell, hA.frozen (p := ⟨N + 3, j, none⟩) (by show N + 3 < _; omega)]
    exact h.free j
  · intro j hj
    by_cases e : j = k
    · subst e
      simp only [if_true]
      exact hn.kept (by simp) (fun b o h1 _ _ => hnew b o h1) (fun b _ _ => World.frozen?_setCell ..)
    · simp only [e, if_false]
      exact (h.node j (by omega)).kept (by simpa using hsA) (fun b o h1 h2 _ => hcell b o h2 (by omega)) (fun b _ h2 => by rw [World.frozen?_setCell]; exact hA.frozen (p := ⟨b, 5, none⟩) h2)
  · intro j hj
    by_cases e : j = k
    · subst e
      simp only [if_true]
      rw [hnew _ _ (by omega)]; exact hu
    · simp only [e, if_false]
      have hj' := h.node j (by omega)
      rw [hcell _ _ hj'.hi (by have := hj'.lo; omega)]
      exact h.up j (by omega)
  · intro i j hij hj
    by_cases e : j = k
    · subst e
      have hi := (h.node i (by omega)).hi
      simp only [if_true, show ¬ i = j by omega, if_false]
      omega
    · simp only [e, if_false, show ¬ i = k by omega]
      exact h.inc i j hij (by omega)

/-- A context as the first loop lays it. -/
def ctxO (c dl : Value) (kd : Int) : Obj :=
  .cells #[c, .int .i32 0, .int .u32 0, .nilIface, .pointer none, .pointer none, .pointer none, .pointer none, .pointer none, .nilFunc, .map none, dl, .bool false, .int .u8 kd, .bool false, .bool false, .int .u32 0] 58

theorem Inv1.round {w wr wA : World} {N len ck d f k} (h : Inv1 w wr N len ck d f k) (hk : k < len) (n : Obj) (c dl : Value)
    (hb : Below ((wr.alloc n).alloc (ctxO c dl (d.K k % 6))).heap.size ((wr.alloc n).alloc (ctxO c dl (d.K k % 6))) wA)
    (h1 : d.K k % 6 = 3 → ∃ g, wr.heap.size ≤ g ∧ g < wA.heap.size ∧ c = .iface 59 (.pointer (some ⟨g, 0, none⟩)) ∧ wA.cell? ⟨g, 1, none⟩ = some (.pointer (ck (d.PC k % 3))))
    (h2 : d.D k = false → dl = .pointer none)
    (h3 : d.D k = true → ∃ g, wr.heap.size ≤ g ∧ g < wA.heap.size ∧ dl = .pointer (some ⟨g, 0, none⟩) ∧ wA.cell? ⟨g, 3, none⟩ = some (.pointer (ck (d.DC k % 3)))) :
    Inv1 w (wA.setCell ⟨N + 3, k, none⟩ (.pointer (some ⟨wr.heap.size + 1, 0, none⟩))) N len ck d (fun j => if j = k then wr.heap.size + 1 else f j) (k + 1) := by
  have hs := h.size
  have hz : ((wr.alloc n).alloc (ctxO c dl (d.K k % 6))).heap.size = wr.heap.size + 2 := by simp
  have hsA := hb.size
  rw [hz] at hsA
  have hin : wr.heap.size + 1 < ((wr.alloc n).alloc (ctxO c dl (d.K k % 6))).heap.size := by rw [hz]; omega
  have hcell : ∀ o, wA.cell? ⟨wr.heap.size + 1, o, none⟩ = ((wr.alloc n).alloc (ctxO c dl (d.K k % 6))).cell? ⟨wr.heap.size + 1, o, none⟩ := fun o => hb.cell (p := ⟨wr.heap.size + 1, o, none⟩) hin
  have hat : ∀ o, wA.cell? ⟨wr.heap.size + 1, o, none⟩ = (#[c, .int .i32 0, .int .u32 0, .nilIface, .pointer none, .pointer none, .pointer none, .pointer none, .pointer none, .nilFunc, .map none, dl, .bool false, .int .u8 (d.K k % 6), .bool false, .bool false, .int .u32 0] : Array Value)[o]? := by
    intro o
    rw [hcell o]
    exact World.cell?_alloc_at _ _ _ _ (by simp)
  refine h.step hk (((Below.refl _ _).alloc (Nat.le_refl _) n |>.alloc (by simp) _).trans (hb.mono (by rw [hz]; omega))) (b' := wr.heap.size + 1) (by omega) ?_ ?_
  · constructor
    · omega
    · omega
    · rw [hb.frozen (p := ⟨wr.heap.size + 1, 5, none⟩) hin]
      exact World.frozen?_alloc_at _ _ _ _ (by simp)
    · rw [hat]; rfl
    · intro e
      obtain ⟨g, g1, g2, g3, g4⟩ := h1 e
      exact ⟨g, by omega, g2, by rw [hat, g3]; rfl, g4⟩
    · intro e
      rw [hat, h2 e]; rfl
    · intro e
      obtain ⟨g, g1, g2, g3, g4⟩ := h3 e
      exact ⟨g, by omega, g2, by rw [hat, g3]; rfl, g4⟩
  · rw [hat]; rfl

/-- Behind i rounds of the second loop. -/
structure Inv2 (w wr : World) (N len : Nat) (ck : Int → Option Addr) (d : ND) (f : Nat → Nat) (k : Nat) : Prop where
  below : Below N w wr
  size : N + 4 ≤ wr.heap.size
  clk : ∀ i : Int, 0 ≤ i → i < 3 → wr.cell? ⟨N + 2, i.toNat, none⟩ = some (.pointer (ck i))
  slot : ∀ j, j < len → wr.cell? ⟨N + 3, j, none⟩ = some (.pointer (some ⟨f j, 0, none⟩))
  node : ∀ j, j < len → NodeOk wr (N + 4) ck d j (f j)
  up : ∀ j, j < len → wr.cell? ⟨f j, 5, none⟩ = some (.pointer (if j < k then some ⟨f (j + 1), 0, none⟩ else none))
  inc : ∀ i j, i < j → j < len → f i < f j

theorem Inv1.done {w wr : World} {N len ck d f} (h : Inv1 w wr N len ck d f len) : Inv2 w wr N len ck d f 0 :=
  ⟨h.below, h.size, h.clk, h.slot, h.node, fun j hj => by simp only [Nat.not_lt_zero, if_false]; exact h.up j hj, h.inc⟩

theorem Inv2.drew {w wr : World} {N len ck d f k} (h : Inv2 w wr N len ck d f k) : Inv2 w wr.drew N len ck d f k :=
  ⟨h.below.drew, h.size, h.clk, h.slot, fun j hj => ⟨(h.node j hj).lo, (h.node j hj).hi, (h.node j hj).free, (h.node j hj).kind, (h.node j hj).ctx, (h.node j hj).dlno, (h.node j hj).dlyes⟩, h.up, h.inc⟩

theorem Inv2.step {w wr : World} {N len ck d f k} (h : Inv2 w wr N len ck d f k) (hk : k + 1 < len) :
    Inv2 w (wr.setCell ⟨f k, 5, none⟩ (.pointer (some ⟨f (k + 1), 0, none⟩))) N len ck d f (k + 1) := by
  have hs := h.size
  have hlo := (h.node k (by omega)).lo
  have hc : ∀ b o, (b = f k → o ≠ 5) → (wr.setCell ⟨f k, 5, none⟩ (.pointer (some ⟨f (k + 1), 0, none⟩))).cell? ⟨b, o, none⟩ = wr.cell? ⟨b, o, none⟩ := by
    intro b o hb
    exact World.cell?_setCell_other _ _ _ _ (by intro e; cases e; exact hb rfl rfl)
  constructor
  · exact h.below.setCell (by show N ≤ f k; omega) _
  · simpa using hs
  · intro i h0 h3; rw [hc _ _ (by omega)]; exact h.clk i h0 h3
  · intro j hj; rw [hc _ _ (by omega)]; exact h.slot j hj
  · intro j hj
    exact (h.node j hj).kept (by simp) (fun b o _ _ h5 => hc b o (fun _ => h5)) (fun b _ _ => World.frozen?_setCell ..)
  · intro j hj
    by_cases e : j = k
    · subst e
      simp only [show j < j + 1 by omega, if_true]
      exact World.cell?_setCell_same _ _ _ (h.up j hj)
    · rw [hc _ _ (by
        intro e2
        exfalso
        rcases Nat.lt_or_gt_of_ne e with e3 | e3
        · have := h.inc j k e3 (by omega); omega
        · have := h.inc k j e3 hj; omega)]
      rw [h.up j hj]
      by_cases e3 : j < k
      · simp only [e3, if_true, show j < k + 1 by omega]
      · simp only [e3, if_false, show ¬ j < k + 1 by omega]
  · exact h.inc

/-- The chain as 'clock' walks it. -/
structure Linked (wr : World) (B len : Nat) (ck : Int → Option Addr) (d : ND) (f : Nat → Nat) : Prop where
  node : ∀ j, j < len → NodeOk wr B ck d j (f j)
  up : ∀ j, j < len → wr.cell? ⟨f j, 5, none⟩ = some (.pointer (if j + 1 < len then some ⟨f (j + 1), 0, none⟩ else none))

theorem Inv2.linked {w wr wx : World} {N len ck d f k} (h : Inv2 w wr N len ck d f k) (hk : k + 1 = len) (hb : Below wr.heap.size wr wx) : Linked wx (N + 4) len ck d f := by
  constructor
  · intro j hj; exact (h.node j hj).below hb
  · intro j hj
    rw [hb.cell (p := ⟨f j, 5, none⟩) (h.node j hj).hi, h.up j hj]
    by_cases e : j < k
    · simp only [e, if_true, show j + 1 < len by omega]
    · simp only [e, if_false, show ¬ j + 1 < len by omega]

end Go.Proofs.Ybulkapgo.clock
