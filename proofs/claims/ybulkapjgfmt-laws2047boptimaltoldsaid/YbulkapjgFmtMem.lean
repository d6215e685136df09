/- Rows of memory that the call itself has made: what they hold, and what keeps them. No program in it. -/
import Derived.WalkKit
import Derived.WalkSpells
import Derived.Deep.OwnRows
import Derived.Sort.Grow
import Derived.Laws.OwnMore
import Derived.Deep.RegionLaw
namespace Go.Proofs.YbulkapjgFmt
open Go.RowKit Go.Deep

/-- Block g is a row of cap cells of type t, none frozen, whose first n cells hold f. -/
def Arr (w : World) (g : Nat) (t : TypeId) (cap n : Nat) (f : Nat → Value) : Prop :=
  ∃ cur : Array Value, w.heap[g]? = some (.cells cur t (0, 0)) ∧ cur.size = cap ∧ n ≤ cap ∧ ∀ i, i < n → cur[i]? = some (f i)

namespace Arr
variable {w w' : World} {g : Nat} {t : TypeId} {cap n : Nat} {f f' : Nat → Value}

theorem lt (h : Arr w g t cap n f) : g < w.heap.size := by
  obtain ⟨cur, hb, _⟩ := h
  exact (Array.getElem?_eq_some_iff.1 hb).1

theorem le (h : Arr w g t cap n f) : n ≤ cap := by
  obtain ⟨_, _, _, hn, _⟩ := h; exact hn

theorem cell (h : Arr w g t cap n f) {i : Nat} (hi : i < n) : w.cell? ⟨g, i, none⟩ = some (f i) := by
  obtain ⟨cur, hb, _, _, hc⟩ := h
  simp [World.cell?, hb, hc i hi]

theorem some_cell (h : Arr w g t cap n f) {i : Nat} (hi : i < cap) : ∃ v, w.cell? ⟨g, i, none⟩ = some v := by
  obtain ⟨cur, hb, hs, _, _⟩ := h
  exact ⟨cur[i]'(by omega), by simp [World.cell?, hb, hs, hi]⟩

theorem free (h : Arr w g t cap n f) (i : Nat) : w.frozen? ⟨g, i, none⟩ = false := by
  obtain ⟨cur, hb, _⟩ := h
  simp [World.frozen?, hb]

theorem congr (h : Arr w g t cap n f) (hf : ∀ i, i < n → f i = f' i) : Arr w g t cap n f' := by
  obtain ⟨cur, hb, hs, hn, hc⟩ := h
  exact ⟨cur, hb, hs, hn, fun i hi => by rw [hc i hi, hf i hi]⟩

theorem shorter (h : Arr w g t cap n f) {m : Nat} (hm : m ≤ n) : Arr w g t cap m f := by
  obtain ⟨cur, hb, hs, hn, hc⟩ := h
  exact ⟨cur, hb, hs, by omega, fun i hi => hc i (by omega)⟩

theorem of_block (h : Arr w g t cap n f) (hb : w'.heap[g]? = w.heap[g]?) : Arr w' g t cap n f := by
  obtain ⟨cur, h1, h2⟩ := h
  exact ⟨cur, by rw [hb]; exact h1, h2⟩

theorem kept (h : Arr w g t cap n f) {row : Option Nat} (hg : w.grownBy w' row) (hne : row ≠ some g) : Arr w' g t cap n f :=
  h.of_block (hg.block g h.lt (fun e => hne e.symm))

theorem below (h : Arr w g t cap n f) {B : Nat} (hb : Below B w w') (hg : g < B) : Arr w' g t cap n f := h.of_block (hb.block g hg)

theorem alloc (h : Arr w g t cap n f) (o : Obj) : Arr (w.alloc o) g t cap n f := h.of_block (Below.heap_alloc w o g h.lt)

theorem drew (h : Arr w g t cap n f) : Arr w.drew g t cap n f := h

theorem set_other (h : Arr w g t cap n f) {p : Addr} (hp : g ≠ p.block) (v : Value) : Arr (w.setCell p v) g t cap n f := h.of_block (Below.heap_setCell w p v g hp)

theorem heap_set {cur : Array Value} (hb : w.heap[g]? = some (.cells cur t (0, 0))) (i : Nat) (v : Value) : (w.setCell ⟨g, i, none⟩ v).heap[g]? = some (.cells (cur.setIfInBounds i v) t (0, 0)) := by
  rw [Sort.setCell_eq]
  simp [Sort.mapBlock, Array.getElem?_modify, hb, Sort.onCells]

theorem set (h : Arr w g t cap n f) (i : Nat) (v : Value) : Arr (w.setCell ⟨g, i, none⟩ v) g t cap n (fun j => if j = i then v else f j) := by
  obtain ⟨cur, hb, hs, hn, hc⟩ := h
  refine ⟨_, heap_set hb i v, by simpa using hs, hn, fun j hj => ?_⟩
  rw [Array.getElem?_setIfInBounds]
  by_cases e : i = j
  · subst e; simp only [if_true]; rw [if_pos (by omega)]
  · rw [if_neg e]; simp only [show ¬ j = i from fun e' => e e'.symm, if_false]; exact hc j hj

/-- One cell more. -/
theorem push (h : Arr w g t cap n f) (hn : n < cap) (v : Value) : Arr (w.setCell ⟨g, n, none⟩ v) g t cap (n + 1) (fun j => if j = n then v else f j) := by
  obtain ⟨cur, hb, hs, _, hc⟩ := h
  refine ⟨_, heap_set hb n v, by simpa using hs, by omega, fun j hj => ?_⟩
  rw [Array.getElem?_setIfInBounds]
  by_cases e : n = j
  · subst e; simp only [if_true]; rw [if_pos (by omega)]
  · rw [if_neg e]; simp only [show ¬ j = n from fun e' => e e'.symm, if_false]; exact hc j (by omega)

theorem new (w : World) (cur : Array Value) (t : TypeId) (f : Nat → Value) (hc : ∀ i, i < cur.size → cur[i]? = some (f i)) : Arr (w.alloc (.cells cur t)) w.heap.size t cur.size cur.size f :=
  ⟨cur, by show (w.heap.push _)[w.heap.size]? = _; simp, rfl, Nat.le_refl _, hc⟩

theorem made (w : World) (z : Value) (n : Nat) (t : TypeId) : Arr (w.alloc (.cells (madeCells #[z] n) t)) w.heap.size t n n (fun _ => z) := by
  obtain ⟨c, h1, h2, h3⟩ := World.rowIs_made w z n t
  exact ⟨c, h1, h2, Nat.le_refl _, h3⟩

theorem owns (h : Arr w g t cap n f) {base : Nat} (hb : base ≤ g) (hm : cap ≤ maxLen) : w.ownsRow base t 1 (.slice (some ⟨g, 0, none⟩) n cap) n ((List.range n).map f) := by
  obtain ⟨cur, h1, h2, hn, hc⟩ := h
  refine ⟨by simp, .inr ⟨g, cap, cur, rfl, hb, h1, hn, hm, by omega, ?_⟩⟩
  apply List.ext_getElem?
  intro j
  rw [Nat.mul_one]
  by_cases hj : j < n
  · rw [List.getElem?_take_of_lt hj, Array.getElem?_toList, hc j hj]
    simp [hj]
  · rw [List.getElem?_take_eq_none (by omega), List.getElem?_eq_none (by simp; omega)]

theorem of_owns {base : Nat} {xs : List Value} (h : w.ownsRow base t 1 (.slice (some ⟨g, 0, none⟩) n cap) n xs) (d : Value) : Arr w g t cap n (fun i => xs.getD i d) ∧ base ≤ g ∧ cap ≤ maxLen := by
  rcases h.2 with ⟨h', _⟩ | ⟨g', cap', cur, h', hg, hb, hn, hm, hs, htake⟩
  · simp at h'
  · simp only [Value.slice.injEq, Option.some.injEq, Addr.mk.injEq, and_true, true_and] at h'
    obtain ⟨rfl, rfl⟩ := h'
    refine ⟨⟨cur, hb, by omega, hn, fun i hi => ?_⟩, hg, hm⟩
    have h1 : (cur.toList.take (n * 1))[i]? = xs[i]? := by rw [htake]
    rw [List.getElem?_take_of_lt (by omega), Array.getElem?_toList] at h1
    have hl : i < xs.length := by have := h.1; omega
    rw [h1, List.getElem?_eq_getElem hl]
    simp [List.getD, hl]
theorem ne (h : Arr w g t cap n f) {g' : Nat} {t' : TypeId} {cap' n' : Nat} {f2 : Nat → Value} (h' : Arr w g' t' cap' n' f2) (ht : t ≠ t') : g ≠ g' := by
  rintro rfl
  obtain ⟨c1, h1, _⟩ := h
  obtain ⟨c2, h2, _⟩ := h'
  rw [h1] at h2
  injection h2 with h2
  injection h2 with _ h3 _
  exact ht h3

/-- A new block of one cell. -/
theorem box (w : World) (v : Value) (t : TypeId) : Arr (w.alloc (.cells #[v] t)) w.heap.size t 1 1 (fun _ => v) :=
  new w #[v] t (fun _ => v) (fun i hi => by
    obtain rfl : i = 0 := by simpa using hi
    rfl)
end Arr

/-- append onto a row of the call's own, as one step of a region that draws. -/
theorem step_append_own {P : Program} {ops : Array Oper} {o : Oper} {a : Act} {w : World} {K : Act → World → Prop} {Q : Exit → Act → World → Prop} {E : Prop}
    (hg : o.guard = none) (s x : Operand) (t : TypeId) (hop : o.op = Op.call { callee := Callee.builtin Builtin.append, args := #[s, x], argTypes := #[t, t] })
    (base : Nat) (e : TypeId) (i : TypeInfo) (z : Value) (size bytes : Nat) (h1 : P.underlying t = some (.slice e)) (h2 : P.info? e = some i) (h3 : i.zero = some z) (h4 : i.size = size) (h5 : i.bytes = bytes) (h6 : z.cells.size = size) (h7 : 0 < size)
    (v : Value) (n : Nat) (xs : List Value) (hs : a.eval s = v) (hown : w.ownsRow base e size v n xs)
    (ad : Addr) (m c : Nat) (news : List Value) (hx : a.eval x = .slice (some ad) m c) (hn : news.length = m * size) (hc : ∀ j u, news[j]? = some u → w.cell? (ad.add j) = some u) (h1c : ∀ u ∈ news, u.oneCell' = true)
    (b1 : n + m ≤ maxLen) (b2 : (n + m) * bytes ≤ 140737488355328) (hbase : base ≤ w.heap.size)
    (hK : ∀ v' w', w'.ownsRow base e size v' (n + m) (xs ++ news) → w.grownBy w' v.ownBlock → K (a.put o.dst v') w') :
    if Region.wanted o (yielded ops a.tmps) = true then Oper.wp P o a w K Q else E := by
  have hw : Region.wanted o (yielded ops a.tmps) = true := by simp [Region.wanted, hg]
  rw [if_pos hw]
  obtain ⟨v', w', hrun, r1, r2, _⟩ := run_append_own (P := P) w base t o.type e i z size bytes h1 h2 h3 h4 h5 h6 h7 v n xs hown ad m c news hn hc h1c b1 b2 hbase
  unfold Oper.wp
  simp [execOp, hop, resolve, invoke, builtin, hs, hx, hrun, Result.andThen]
  exact hK v' w' r1 r2

/-- append where there is room: the very world. -/
theorem wpList_append_room {P : Program} (w : World) {ops : Array Oper} {rest : List Oper} {o : Oper} {a : Act} {Q : Exit → Act → World → Prop}
    (hg : o.guard = none) (s x : Operand) (t : TypeId) (hop : o.op = Op.call { callee := Callee.builtin Builtin.append, args := #[s, x], argTypes := #[t, t] })
    (e : TypeId) (i : TypeInfo) (size : Nat) (h1 : P.underlying t = some (.slice e)) (h2 : P.info? e = some i) (h4 : i.size = size)
    (b off n cap : Nat) (hs : a.eval s = .slice (some ⟨b, off, none⟩) n cap)
    (ad : Addr) (m c : Nat) (news : List Value) (hx : a.eval x = .slice (some ad) m c) (hn : news.length = m * size) (hc : ∀ j u, news[j]? = some u → w.cell? (ad.add j) = some u) (h1c : ∀ u ∈ news, u.oneCell' = true)
    (hroom : n + m ≤ cap) (hspare : ∀ j, j < news.length → (w.cell? ⟨b, off + n * size + j, none⟩).isSome = true ∧ w.frozen? ⟨b, off + n * size + j, none⟩ = false)
    (hK : wpList P ops Q rest (a.put o.dst (.slice (some ⟨b, off, none⟩) (n + m) cap)) (w.setCells b (off + n * size) news)) :
    wpList P ops Q (o :: rest) a w := by
  refine wpList_plain hg fun K hK' => ?_
  subst h4
  have hrun := run_append_room_cells (P := P) w t o.type e i h1 h2 b off n cap ad m c news hn hc h1c hroom (fun j hj => (hspare j hj).1) (fun j hj => (hspare j hj).2)
  unfold Oper.wp
  simp [execOp, hop, resolve, invoke, builtin, hs, hx, hrun, Result.andThen]
  exact hK' _ _ hK

end Go.Proofs.YbulkapjgFmt
