/- The rows of the grid: the starts, sorted, each once. Plain lists. -/
import Derived.Test.YbulkapjgFmtPlain
namespace Go.Proofs.YbulkapjgFmt.Plain

/-- Row 0 and the rows where a node's cells end, behind i nodes. -/
def startsL (c : Nat) (E : Nat → Nat) (i : Nat) : List Nat := 0 :: (List.range i).map (fun j => E (j + 1) % c)

theorem startsL_length (c : Nat) (E : Nat → Nat) (i : Nat) : (startsL c E i).length = i + 1 := by simp [startsL]
theorem startsL_succ (c : Nat) (E : Nat → Nat) (i : Nat) : startsL c E (i + 1) = startsL c E i ++ [E (i + 1) % c] := by simp [startsL, List.range_succ]

/-- R is l (ascending) with each number once. -/
structure Dd (R l : List Nat) : Prop where
  inc : R.Pairwise (· < ·)
  pos : 0 < R.length
  head : nth R 0 = nth l 0
  last : nth R (R.length - 1) = nth l (l.length - 1)
  mem : ∀ x, x ∈ R ↔ x ∈ l
  len : R.length ≤ l.length

theorem nth_append_left {l l' : List Nat} {i : Nat} (h : i < l.length) : nth (l ++ l') i = nth l i := by
  unfold nth; simp [List.getD, List.getElem?_append_left h]
theorem nth_append_right (l : List Nat) (x : Nat) : nth (l ++ [x]) l.length = x := by
  unfold nth; simp [List.getD]

theorem Dd.start (x : Nat) : Dd [x] [x] := ⟨List.pairwise_singleton _ _, by simp, rfl, rfl, fun _ => Iff.rfl, Nat.le_refl _⟩

theorem Dd.same {R l : List Nat} (h : Dd R l) {x : Nat} (hx : x = nth l (l.length - 1)) : Dd R (l ++ [x]) := by
  have hl : 0 < l.length := Nat.lt_of_lt_of_le h.pos h.len
  refine ⟨h.inc, h.pos, ?_, ?_, ?_, ?_⟩
  · rw [nth_append_left hl]; exact h.head
  · rw [List.length_append, List.length_singleton, Nat.add_sub_cancel, nth_append_right, h.last, hx]
  · intro y
    rw [List.mem_append, List.mem_singleton, h.mem]
    constructor
    · exact Or.inl
    · rintro (hy | hy)
      · exact hy
      · rw [hy, hx]; exact nth_mem (by omega)
  · rw [List.length_append]; have := h.len; omega

theorem Dd.more {R l : List Nat} (h : Dd R l) {x : Nat} (hx : nth l (l.length - 1) < x) : Dd (R ++ [x]) (l ++ [x]) := by
  have hl : 0 < l.length := Nat.lt_of_lt_of_le h.pos h.len
  refine ⟨?_, by simp, ?_, ?_, ?_, ?_⟩
  · rw [List.pairwise_append]
    refine ⟨h.inc, List.pairwise_singleton _ _, ?_⟩
    intro a ha b hb
    rw [List.mem_singleton] at hb
    subst hb
    obtain ⟨q, hq, e⟩ := List.mem_iff_getElem.1 ha
    have h1 : nth R q ≤ nth R (R.length - 1) := by
      by_cases e2 : q = R.length - 1
      · rw [e2]; exact Nat.le_refl _
      · have := List.pairwise_iff_getElem.1 h.inc q (R.length - 1) hq (by omega) (by omega)
        rw [nth_eq hq, nth_eq (by omega)]; omega
    rw [nth_eq hq, e] at h1
    rw [h.last] at h1
    omega
  · rw [nth_append_left h.pos, nth_append_left hl]; exact h.head
  · rw [List.length_append, List.length_singleton, Nat.add_sub_cancel, nth_append_right, List.length_append, List.length_singleton, Nat.add_sub_cancel, nth_append_right]
  · intro y
    rw [List.mem_append, List.mem_append, h.mem]
  · rw [List.length_append, List.length_append]; have := h.len; simp; omega

theorem take_one {l : List Nat} (h : 0 < l.length) : l.take 1 = [nth l 0] := by
  rw [show (1 : Nat) = 0 + 1 from rfl, take_snoc l 0 h]; simp [nth]

theorem take_snoc' (l : List Nat) (i : Nat) (h : i < l.length) : l.take (i + 1) = l.take i ++ [nth l i] := take_snoc l i h

theorem nth_take {l : List Nat} {i j : Nat} (h : i < j) : nth (l.take j) i = nth l i := by
  unfold nth; simp [List.getD, h]

theorem sorted_le {l : List Nat} (h : l.Pairwise (· ≤ ·)) {i j : Nat} (hij : i ≤ j) (hj : j < l.length) : nth l i ≤ nth l j := by
  by_cases e : i = j
  · subst e; exact Nat.le_refl _
  · have := List.pairwise_iff_getElem.1 h i j (by omega) hj (by omega)
    rw [nth_eq (by omega), nth_eq hj]; exact this

/-- From the sorted starts, each once, to the rows. -/
theorem rows_of_dd {c k n : Nat} {E b : Nat → Nat} (hF : Filled c k n E b) {ts R : List Nat} (hp : ts.Perm (startsL c E n)) (hs : ts.Pairwise (· ≤ ·)) (hD : Dd R ts) : Rows c n E R := by
  have hmem : ∀ x, x ∈ R ↔ x = 0 ∨ ∃ i, i < n ∧ E (i + 1) % c = x := by
    intro x
    rw [hD.mem, hp.mem_iff]
    simp [startsL]
  have hpos : 0 < ts.length := Nat.lt_of_lt_of_le hD.pos hD.len
  refine ⟨?_, hD.inc, ?_, ?_, ?_⟩
  · have h0 : (0 : Nat) ∈ ts := (hD.mem 0).1 ((hmem 0).2 (Or.inl rfl))
    obtain ⟨q, hq, e⟩ := List.mem_iff_getElem.1 h0
    have h1 := sorted_le hs (i := 0) (j := q) (Nat.zero_le _) hq
    rw [nth_eq hq, e] at h1
    have h2 : nth R 0 = 0 := by rw [hD.head]; omega
    rw [List.getElem?_eq_getElem hD.pos, ← nth_eq hD.pos, h2]
  · intro r hr
    rcases (hmem r).1 hr with h | ⟨i, _, h⟩
    · rw [h]; exact hF.pos
    · rw [← h]; exact Nat.mod_lt _ hF.pos
  · intro i hi
    rw [hmem]
    by_cases e : i = 0
    · left; rw [e, hF.zero]; exact Nat.zero_mod _
    · right; exact ⟨i - 1, by omega, by rw [show i - 1 + 1 = i by omega]⟩
  · intro r hr h0
    rcases (hmem r).1 hr with h | ⟨i, hi, h⟩
    · exact absurd h h0
    · exact ⟨i + 1, by omega, h⟩

end Go.Proofs.YbulkapjgFmt.Plain
