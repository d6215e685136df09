/- The plain mathematics of counting and placing on a complete host: natural numbers and lists, no Go in it. -/
namespace Go.Proofs.YbulkapjgFmt.Plain

/-- The i-th number of a list. -/
def nth (l : List Nat) (i : Nat) : Nat := l.getD i 0

theorem nth_mem {l : List Nat} {i : Nat} (h : i < l.length) : nth l i ∈ l := by unfold nth; simp [List.getD, h]
theorem nth_eq {l : List Nat} {i : Nat} (h : i < l.length) : nth l i = l[i] := by unfold nth; simp [List.getD, h]

/-! ### The count -/
def minsum (c : Nat) : List Nat → Nat
  | [] => 0
  | x :: xs => min x c + minsum c xs

def total : List Nat → Nat
  | [] => 0
  | x :: xs => x + total xs

/-- c is the greatest number with k * c ≤ the sum of the least of each capacity and c. -/
def IsCount (bs : List Nat) (k c : Nat) : Prop := k * c ≤ minsum c bs ∧ ∀ c', k * c' ≤ minsum c' bs → c' ≤ c

theorem minsum_perm {c : Nat} {l l' : List Nat} (h : l.Perm l') : minsum c l = minsum c l' := by
  induction h with
  | nil => rfl
  | cons x _ ih => simp [minsum, ih]
  | swap x y l => simp [minsum]; omega
  | trans _ _ ih1 ih2 => rw [ih1, ih2]

theorem total_perm {l l' : List Nat} (h : l.Perm l') : total l = total l' := by
  induction h with
  | nil => rfl
  | cons x _ ih => simp [total, ih]
  | swap x y l => simp [total]; omega
  | trans _ _ ih1 ih2 => rw [ih1, ih2]

theorem IsCount.perm {l l' : List Nat} {k c : Nat} (h : IsCount l k c) (hp : l.Perm l') : IsCount l' k c :=
  ⟨by rw [← minsum_perm hp]; exact h.1, fun c' hc => h.2 c' (by rw [minsum_perm hp]; exact hc)⟩

theorem minsum_le_total (c : Nat) (l : List Nat) : minsum c l ≤ total l := by
  induction l with
  | nil => exact Nat.le_refl _
  | cons x xs ih => simp only [minsum, total]; omega

theorem minsum_le_mul (c : Nat) (l : List Nat) : minsum c l ≤ l.length * c := by
  induction l with
  | nil => simp [minsum]
  | cons x xs ih =>
    simp only [minsum, List.length_cons, Nat.add_mul, Nat.one_mul]
    have : min x c ≤ c := Nat.min_le_right _ _
    omega

theorem minsum_le_drop (c : Nat) : ∀ (j : Nat) (l : List Nat), minsum c l ≤ j * c + total (l.drop j)
  | 0, l => by simpa using minsum_le_total c l
  | j + 1, [] => by simp [minsum]
  | j + 1, x :: xs => by
    have := minsum_le_drop c j xs
    simp only [minsum, List.drop_succ_cons, Nat.add_mul, Nat.one_mul]
    have : min x c ≤ c := Nat.min_le_right _ _
    omega

theorem minsum_all_le {c : Nat} : ∀ {l : List Nat}, (∀ x ∈ l, x ≤ c) → minsum c l = total l
  | [], _ => rfl
  | x :: xs, h => by
    have h1 := h x (by simp)
    have := minsum_all_le (l := xs) (fun y hy => h y (by simp [hy]))
    simp only [minsum, total]
    omega

theorem feas {c : Nat} : ∀ (l : List Nat) (k : Nat), l.Pairwise (· ≥ ·) → (∀ j, j < k → c * (k - j) ≤ total (l.drop j)) → k * c ≤ minsum c l
  | [], k, _, h => by
    by_cases hk : k = 0
    · simp [hk]
    · have := h 0 (by omega)
      have e : c * k = 0 := by simpa [total] using this
      rw [Nat.mul_comm, e]; exact Nat.zero_le _
  | x :: xs, 0, _, _ => by simp
  | x :: xs, k + 1, hs, h => by
    by_cases hx : x ≤ c
    · have hall : ∀ y ∈ x :: xs, y ≤ c := by
        intro y hy
        rcases List.mem_cons.1 hy with rfl | hy
        · exact hx
        · exact Nat.le_trans ((List.pairwise_cons.1 hs).1 y hy) hx
      rw [minsum_all_le hall]
      have := h 0 (by omega)
      simp only [List.drop_zero, Nat.sub_zero] at this
      rw [Nat.mul_comm]; exact this
    · have ih := feas xs k (List.pairwise_cons.1 hs).2 (fun j hj => by
        have := h (j + 1) (by omega)
        simp only [List.drop_succ_cons] at this
        rw [show k + 1 - (j + 1) = k - j by omega] at this
        exact this)
      simp only [minsum, Nat.add_mul, Nat.one_mul]
      have : min x c = c := by omega
      omega

/-- What the loop of 'countComplete' has reckoned behind r rounds. -/
def cnt (ds : List Nat) (k : Nat) : Nat → Nat
  | 0 => total ds / k
  | r + 1 => min (cnt ds k r) (total (ds.drop (r + 1)) / (k - (r + 1)))

theorem le_cnt (ds : List Nat) (k c : Nat) : ∀ r, r < k → (c ≤ cnt ds k r ↔ ∀ j, j ≤ r → c * (k - j) ≤ total (ds.drop j))
  | 0, hk => by
    simp only [cnt]
    rw [Nat.le_div_iff_mul_le (by omega)]
    constructor
    · intro h j hj
      obtain rfl : j = 0 := by omega
      simpa using h
    · intro h
      simpa using h 0 (Nat.le_refl _)
  | r + 1, hk => by
    simp only [cnt]
    rw [Nat.le_min, le_cnt ds k c r (by omega), Nat.le_div_iff_mul_le (by omega)]
    constructor
    · rintro ⟨h1, h2⟩ j hj
      by_cases e : j = r + 1
      · subst e; exact h2
      · exact h1 j (by omega)
    · intro h
      exact ⟨fun j hj => h j (by omega), h (r + 1) (Nat.le_refl _)⟩

theorem isCount_cnt {ds : List Nat} {k : Nat} (hs : ds.Pairwise (· ≥ ·)) (hk : 0 < k) : IsCount ds k (cnt ds k (k - 1)) := by
  constructor
  · exact feas ds k hs (fun j hj => (le_cnt ds k _ (k - 1) (by omega)).1 (Nat.le_refl _) j (by omega))
  · intro c' hc
    rw [le_cnt ds k c' (k - 1) (by omega)]
    intro j hj
    have h1 := minsum_le_drop c' j ds
    have h2 : k * c' = (k - j) * c' + j * c' := by rw [← Nat.add_mul]; congr 1; omega
    rw [Nat.mul_comm c' (k - j)]
    omega

theorem isCount_zero {bs : List Nat} {k : Nat} (hk : bs.length < k) : IsCount bs k 0 := by
  constructor
  · simp
  · intro c' hc
    have h1 := minsum_le_mul c' bs
    have h2 : bs.length * c' + c' ≤ k * c' := by
      have := Nat.mul_le_mul_right c' (show bs.length + 1 ≤ k by omega)
      rw [Nat.add_mul, Nat.one_mul] at this
      exact this
    omega

theorem IsCount.le_total {bs : List Nat} {k c : Nat} (h : IsCount bs k c) : k * c ≤ total bs := Nat.le_trans h.1 (minsum_le_total c bs)

theorem total_take_drop : ∀ (l : List Nat) (i : Nat), total (l.take i) + total (l.drop i) = total l
  | [], i => by simp [total]
  | x :: xs, 0 => by simp [total]
  | x :: xs, i + 1 => by
    have := total_take_drop xs i
    simp only [List.take_succ_cons, List.drop_succ_cons, total]
    omega

theorem total_drop_succ (l : List Nat) (i : Nat) (h : i < l.length) : total (l.drop i) = l.getD i 0 + total (l.drop (i + 1)) := by
  rw [List.drop_eq_getElem_cons h, total]
  simp [List.getD, h]

theorem total_append (l l' : List Nat) : total (l ++ l') = total l + total l' := by
  induction l with
  | nil => simp [total]
  | cons x xs ih => simp only [List.cons_append, total, ih]; omega

theorem minsum_append (c : Nat) (l l' : List Nat) : minsum c (l ++ l') = minsum c l + minsum c l' := by
  induction l with
  | nil => simp [minsum]
  | cons x xs ih => simp only [List.cons_append, minsum, ih]; omega

theorem take_snoc (l : List Nat) (i : Nat) (h : i < l.length) : l.take (i + 1) = l.take i ++ [l.getD i 0] := by
  rw [List.take_succ_eq_append_getElem h]
  simp [List.getD, h]

theorem total_take_succ (l : List Nat) (i : Nat) (h : i < l.length) : total (l.take (i + 1)) = total (l.take i) + l.getD i 0 := by
  rw [take_snoc l i h, total_append]; simp [total]

theorem minsum_take_succ (c : Nat) (l : List Nat) (i : Nat) (h : i < l.length) : minsum c (l.take (i + 1)) = minsum c (l.take i) + min (l.getD i 0) c := by
  rw [take_snoc l i h, minsum_append]; simp [minsum]

theorem total_take_le (l : List Nat) (i : Nat) : total (l.take i) ≤ total l := by have := total_take_drop l i; omega

theorem minsum_take_le (c : Nat) (l : List Nat) (i : Nat) : minsum c (l.take i) ≤ minsum c l := by
  have : minsum c l = minsum c (l.take i) + minsum c (l.drop i) := by rw [← minsum_append, List.take_append_drop]
  omega

/-! ### The filling -/
/-- Where the cells of the first i nodes end. -/
def fillE (bs : List Nat) (c K : Nat) (i : Nat) : Nat := min K (minsum c (bs.take i))

theorem fillE_zero (bs : List Nat) (c K : Nat) : fillE bs c K 0 = 0 := by simp [fillE, minsum]

theorem fillE_succ (bs : List Nat) (c K i : Nat) (h : i < bs.length) : fillE bs c K (i + 1) = fillE bs c K i + min (min (bs.getD i 0) c) (K - fillE bs c K i) := by
  unfold fillE
  rw [minsum_take_succ c bs i h]
  omega

theorem fillE_le (bs : List Nat) (c K i : Nat) : fillE bs c K i ≤ K := Nat.min_le_left _ _

/-- What the check needs of the filling. -/
structure Filled (c k n : Nat) (E b : Nat → Nat) : Prop where
  pos : 0 < c
  zero : E 0 = 0
  last : E n = k * c
  step : ∀ i, i < n → E i ≤ E (i + 1) ∧ E (i + 1) ≤ E i + c ∧ E (i + 1) ≤ E i + b i

theorem filled {bs : List Nat} {k c : Nat} (hc : 0 < c) (h : IsCount bs k c) : Filled c k bs.length (fillE bs c (k * c)) (fun i => bs.getD i 0) := by
  refine ⟨hc, fillE_zero _ _ _, ?_, ?_⟩
  · unfold fillE
    rw [List.take_of_length_le (Nat.le_refl _)]
    exact Nat.min_eq_left h.1
  · intro i hi
    rw [fillE_succ _ _ _ _ hi]
    omega

theorem Filled.mono {c k n : Nat} {E b : Nat → Nat} (h : Filled c k n E b) : ∀ {i j : Nat}, i ≤ j → j ≤ n → E i ≤ E j := by
  intro i j hij hjn
  induction j with
  | zero => obtain rfl : i = 0 := by omega
            exact Nat.le_refl _
  | succ j ih =>
    by_cases e : i = j + 1
    · subst e; exact Nat.le_refl _
    · exact Nat.le_trans (ih (by omega) (by omega)) (h.step j (by omega)).1

/-! ### Which node holds a cell -/
def nd (E : Nat → Nat) (n x : Nat) : Nat := (List.range n).countP (fun i => !(decide (x < E (i + 1))))

theorem countP_range_split (p : Nat → Bool) (n q : Nat) (hq : q ≤ n) (h1 : ∀ i, i < q → p i = true) (h2 : ∀ i, q ≤ i → i < n → p i = false) : (List.range n).countP p = q := by
  induction n with
  | zero => simp; omega
  | succ n ih =>
    rw [List.range_succ, List.countP_append]
    by_cases e : q = n + 1
    · subst e
      have : (List.range n).countP p = n := by
        have hall : ∀ x ∈ List.range n, p x = true := fun x hx => h1 x (by have := List.mem_range.1 hx; omega)
        rw [List.countP_eq_length.2 hall, List.length_range]
      rw [this]
      simp [h1 n (by omega)]
    · rw [ih (by omega) (fun i hi h => h2 i hi (by omega))]
      simp [h2 n (by omega) (by omega)]

theorem Filled.find {c k n : Nat} {E b : Nat → Nat} (h : Filled c k n E b) {x : Nat} (hx : x < k * c) : ∃ q, q < n ∧ E q ≤ x ∧ x < E (q + 1) := by
  have key : ∀ m, m ≤ n → x < E m → ∃ q, q < m ∧ E q ≤ x ∧ x < E (q + 1) := by
    intro m
    induction m with
    | zero => intro _ hm; rw [h.zero] at hm; omega
    | succ m ih =>
      intro hm hxm
      by_cases e : x < E m
      · obtain ⟨q, h1, h2⟩ := ih (by omega) e
        exact ⟨q, by omega, h2⟩
      · exact ⟨m, by omega, by omega, hxm⟩
  exact key n (Nat.le_refl _) (by rw [h.last]; exact hx)

theorem Filled.nd_eq {c k n : Nat} {E b : Nat → Nat} (h : Filled c k n E b) {x q : Nat} (hq : q < n) (h1 : E q ≤ x) (h2 : x < E (q + 1)) : nd E n x = q := by
  unfold nd
  refine countP_range_split _ n q (by omega) ?_ ?_
  · intro i hi
    have := h.mono (i := i + 1) (j := q) (by omega) (by omega)
    simp; omega
  · intro i hi hin
    have := h.mono (i := q + 1) (j := i + 1) (by omega) (by omega)
    simp; omega

theorem Filled.nd_spec {c k n : Nat} {E b : Nat → Nat} (h : Filled c k n E b) {x : Nat} (hx : x < k * c) : nd E n x < n ∧ E (nd E n x) ≤ x ∧ x < E (nd E n x + 1) := by
  obtain ⟨q, h0, h1, h2⟩ := h.find hx
  rw [h.nd_eq h0 h1 h2]
  exact ⟨h0, h1, h2⟩

theorem Filled.nd_mono {c k n : Nat} {E b : Nat → Nat} (h : Filled c k n E b) {x y : Nat} (hxy : x ≤ y) (hy : y < k * c) : nd E n x ≤ nd E n y := by
  obtain ⟨a0, a1, a2⟩ := h.nd_spec (x := x) (by omega)
  obtain ⟨b0, b1, b2⟩ := h.nd_spec hy
  by_cases e : nd E n x ≤ nd E n y
  · exact e
  · have := h.mono (i := nd E n y + 1) (j := nd E n x) (by omega) (by omega)
    omega

theorem Filled.nd_asc {c k n : Nat} {E b : Nat → Nat} (h : Filled c k n E b) {x : Nat} (hx : x + c < k * c) : nd E n x < nd E n (x + c) := by
  obtain ⟨a0, a1, a2⟩ := h.nd_spec (x := x) (by omega)
  obtain ⟨b0, b1, b2⟩ := h.nd_spec hx
  by_cases e : nd E n x < nd E n (x + c)
  · exact e
  · have := h.mono (i := nd E n (x + c) + 1) (j := nd E n x + 1) (by omega) (by omega)
    have := (h.step (nd E n x) a0).2.1
    omega

/-- x < E i just where the node that holds x comes ahead of node i. -/
theorem Filled.lt_iff {c k n : Nat} {E b : Nat → Nat} (h : Filled c k n E b) {x i : Nat} (hx : x < k * c) (hi : i ≤ n) : x < E i ↔ nd E n x < i := by
  obtain ⟨a0, a1, a2⟩ := h.nd_spec hx
  constructor
  · intro hl
    by_cases e : nd E n x < i
    · exact e
    · have := h.mono (i := i) (j := nd E n x) (by omega) (by omega)
      omega
  · intro hl
    have := h.mono (i := nd E n x + 1) (j := i) (by omega) (by omega)
    omega

/-! ### The rows -/
structure Rows (c n : Nat) (E : Nat → Nat) (R : List Nat) : Prop where
  head : R[0]? = some 0
  inc : R.Pairwise (· < ·)
  lt : ∀ r ∈ R, r < c
  has : ∀ i, i ≤ n → E i % c ∈ R
  from' : ∀ r ∈ R, r ≠ 0 → ∃ i, i ≤ n ∧ E i % c = r

def row (R : List Nat) (j : Nat) : Nat := R.getD j 0
def next (c : Nat) (R : List Nat) (j : Nat) : Nat := if j + 1 < R.length then R.getD (j + 1) 0 else c
def copies (c : Nat) (R : List Nat) (j : Nat) : Nat := next c R j - row R j
/-- The node (from 0 on) of column col in placement j. -/
def node (c n : Nat) (E : Nat → Nat) (R : List Nat) (j col : Nat) : Nat := nd E n (col * c + row R j)

theorem Rows.pos {c n E R} (h : Rows c n E R) : 0 < R.length := by
  have := h.head
  rw [List.getElem?_eq_some_iff] at this
  exact this.1

theorem Rows.row_zero {c n E R} (h : Rows c n E R) : row R 0 = 0 := by simp [row, List.getD, h.head]

theorem row_mem {R : List Nat} {j : Nat} (hj : j < R.length) : row R j ∈ R := by
  unfold row; simp [List.getD, hj]

theorem Rows.row_lt {c n E R} (h : Rows c n E R) {j : Nat} (hj : j < R.length) : row R j < c := h.lt _ (row_mem hj)

theorem Rows.row_inc {c n E R} (h : Rows c n E R) {i j : Nat} (hij : i < j) (hj : j < R.length) : row R i < row R j := by
  have := List.pairwise_iff_getElem.1 h.inc i j (by omega) hj hij
  simpa [row, List.getD, hj, show i < R.length by omega] using this

theorem Rows.next_gt {c n E R} (h : Rows c n E R) {j : Nat} (hj : j < R.length) : row R j < next c R j ∧ next c R j ≤ c := by
  unfold next
  by_cases e : j + 1 < R.length
  · rw [if_pos e]
    have h1 := h.row_inc (i := j) (j := j + 1) (by omega) e
    have h2 := h.row_lt e
    unfold row at h1 h2 ⊢
    omega
  · rw [if_neg e]
    have := h.row_lt hj
    omega

theorem Rows.row_next {c n E R} (_ : Rows c n E R) {j : Nat} (hj : j + 1 < R.length) : row R (j + 1) = next c R j := by
  unfold next row; rw [if_pos hj]

theorem next_last {c : Nat} {R : List Nat} {j : Nat} (hj : ¬ j + 1 < R.length) : next c R j = c := by unfold next; rw [if_neg hj]

theorem Rows.copies_pos {c n E R} (h : Rows c n E R) {j : Nat} (hj : j < R.length) : 1 ≤ copies c R j ∧ row R j + copies c R j = next c R j := by
  have := h.next_gt hj
  unfold copies; omega

/-- No node's cells end strictly between a row and the next. -/
theorem Rows.gap {c n E R} (h : Rows c n E R) {i j : Nat} (hi : i ≤ n) (hj : j < R.length) : E i % c ≤ row R j ∨ next c R j ≤ E i % c := by
  obtain ⟨q, hq, e⟩ := List.mem_iff_getElem.1 (h.has i hi)
  have e' : row R q = E i % c := by simp [row, List.getD, hq, e]
  rw [← e']
  by_cases h1 : q ≤ j
  · left
    by_cases h2 : q = j
    · subst h2; exact Nat.le_refl _
    · exact Nat.le_of_lt (h.row_inc (by omega) hj)
  · right
    have hj1 : j + 1 < R.length := by omega
    rw [← h.row_next hj1]
    by_cases h2 : q = j + 1
    · subst h2; exact Nat.le_refl _
    · exact Nat.le_of_lt (h.row_inc (by omega) hq)

theorem cell_lt {c k : Nat} {col r : Nat} (hcol : col < k) (hr : r < c) : col * c + r < k * c := by
  have := Nat.mul_le_mul_right c (show col + 1 ≤ k by omega)
  rw [Nat.add_mul, Nat.one_mul] at this
  omega

section
variable {c k n : Nat} {E b : Nat → Nat} {R : List Nat}

theorem node_lt (h : Filled c k n E b) (hR : Rows c n E R) {j col : Nat} (hj : j < R.length) (hcol : col < k) : node c n E R j col < n :=
  (h.nd_spec (cell_lt hcol (hR.row_lt hj))).1

theorem node_asc (h : Filled c k n E b) (hR : Rows c n E R) {j col : Nat} (hj : j < R.length) (hcol : col + 1 < k) : node c n E R j col < node c n E R j (col + 1) := by
  have hx := cell_lt (c := c) hcol (hR.row_lt hj)
  unfold node
  rw [show (col + 1) * c + row R j = col * c + row R j + c by rw [Nat.add_mul, Nat.one_mul]; omega] at hx ⊢
  exact h.nd_asc hx

theorem node_up (h : Filled c k n E b) (hR : Rows c n E R) {j col : Nat} (hj : j + 1 < R.length) (hcol : col < k) : node c n E R j col ≤ node c n E R (j + 1) col := by
  have hx := cell_lt (c := c) hcol (hR.row_lt hj)
  have := hR.row_inc (i := j) (j := j + 1) (by omega) hj
  exact h.nd_mono (by omega) hx

theorem node_strict (h : Filled c k n E b) (hR : Rows c n E R) {j : Nat} (hj : j + 1 < R.length) : ∃ col, col < k ∧ node c n E R j col < node c n E R (j + 1) col := by
  have hinc := hR.row_inc (i := j) (j := j + 1) (by omega) hj
  obtain ⟨i, hi, e⟩ := hR.from' _ (row_mem hj) (by omega)
  have hdm := Nat.div_add_mod (E i) c
  have hEi : E i ≤ k * c := by rw [← h.last]; exact h.mono hi (Nat.le_refl _)
  have hq : E i / c < k := by
    by_cases hq : E i / c < k
    · exact hq
    · have := Nat.mul_le_mul_left c (show k ≤ E i / c by omega)
      rw [Nat.mul_comm c k] at this
      omega
  refine ⟨E i / c, hq, ?_⟩
  have hx := cell_lt (c := c) hq (hR.row_lt hj)
  have e1 : E i / c * c + row R (j + 1) = E i := by rw [Nat.mul_comm, ← e]; exact hdm
  unfold node
  rw [e1] at hx ⊢
  have h1 : nd E n (E i / c * c + row R j) < i := (h.lt_iff (by omega) hi).1 (by omega)
  have h2 : ¬ nd E n (E i) < i := fun hl => by have := (h.lt_iff hx hi).2 hl; omega
  omega

/-! ### The loads -/
/-- How many of the first col columns have their cell in row r ahead of x. -/
def hits (c r x : Nat) : Nat → Nat
  | 0 => 0
  | col + 1 => hits c r x col + if col * c + r < x then 1 else 0

/-- How many cells ahead of x lie in the rows ahead of r. -/
def ahead (c x r : Nat) : Nat := x / c * r + min (x % c) r

theorem hits_eq (hc : 0 < c) {r x : Nat} (hr : r < c) : ∀ col, hits c r x col = min col (x / c) + if x / c < col ∧ r < x % c then 1 else 0
  | 0 => by simp [hits]
  | col + 1 => by
    rw [hits, hits_eq hc hr col]
    have hdm := Nat.div_add_mod x c
    have hm := Nat.mod_lt x hc
    generalize x / c = q at *
    generalize x % c = m at *
    rcases Nat.lt_trichotomy col q with h1 | h1 | h1
    · have h2 := Nat.mul_le_mul_right c (show col + 1 ≤ q by omega)
      rw [Nat.add_mul, Nat.one_mul, Nat.mul_comm q c] at h2
      rw [if_neg (by omega), if_pos (by omega), if_neg (by omega)]
      omega
    · subst h1
      rw [Nat.mul_comm] at hdm
      rw [if_neg (by omega)]
      by_cases e : r < m
      · rw [if_pos (by omega), if_pos ⟨by omega, e⟩]; omega
      · rw [if_neg (by omega), if_neg (by omega)]; omega
    · have h2 := Nat.mul_le_mul_right c (show q + 1 ≤ col by omega)
      rw [Nat.add_mul, Nat.one_mul, Nat.mul_comm q c] at h2
      rw [if_neg (show ¬ col * c + r < x by omega)]
      by_cases e : r < m
      · rw [if_pos ⟨h1, e⟩, if_pos ⟨by omega, e⟩]; omega
      · rw [if_neg (by omega), if_neg (by omega)]; omega

theorem hits_all (hc : 0 < c) {r x : Nat} (hr : r < c) (hx : x ≤ k * c) : hits c r x k = x / c + if r < x % c then 1 else 0 := by
  rw [hits_eq hc hr]
  have hdm := Nat.div_add_mod x c
  have hq : x / c ≤ k := by
    have := Nat.div_le_div_right (c := c) hx
    rwa [Nat.mul_div_cancel _ hc] at this
  by_cases e : x / c < k
  · by_cases e2 : r < x % c
    · rw [if_pos ⟨e, e2⟩, if_pos e2]; omega
    · rw [if_neg (by omega), if_neg e2]; omega
  · have e3 : x / c = k := by omega
    have e4 : x % c = 0 := by rw [e3, Nat.mul_comm] at hdm; omega
    rw [if_neg (by omega), if_neg (by omega)]; omega

theorem ahead_step (hc : 0 < c) {r r' x : Nat} (hr : r < r') (hr' : r' ≤ c) (hx : x ≤ k * c) (hgap : x % c ≤ r ∨ r' ≤ x % c) :
    ahead c x r + (r' - r) * hits c r x k = ahead c x r' := by
  rw [hits_all hc (by omega) hx]
  unfold ahead
  generalize x / c = q
  generalize x % c = m at *
  have hq : q * r' = q * r + (r' - r) * q := by
    rw [Nat.mul_comm (r' - r) q, ← Nat.mul_add]; congr 1; omega
  rcases hgap with h | h
  · rw [if_neg (by omega), Nat.add_zero, hq]; omega
  · rw [if_pos (by omega), Nat.mul_add, Nat.mul_one, hq]; omega

theorem ahead_lip (hc : 0 < c) {r x y : Nat} (hr : r ≤ c) (hxy : x ≤ y) : ahead c y r + x ≤ ahead c x r + y := by
  have dx := Nat.div_add_mod x c
  have dy := Nat.div_add_mod y c
  have mx := Nat.mod_lt x hc
  have my := Nat.mod_lt y hc
  have hq : x / c ≤ y / c := Nat.div_le_div_right hxy
  unfold ahead
  generalize x / c = q at *
  generalize y / c = p at *
  generalize x % c = m at *
  generalize y % c = l at *
  by_cases e : p = q
  · subst e; omega
  · obtain ⟨s, hs⟩ : ∃ s, p = q + 1 + s := ⟨p - q - 1, by omega⟩
    subst hs
    have e1 : c * (q + 1 + s) = c * q + c + c * s := by rw [Nat.mul_add, Nat.mul_add, Nat.mul_one]
    have e2 : (q + 1 + s) * r = q * r + r + s * r := by rw [Nat.add_mul, Nat.add_mul, Nat.one_mul]
    have e3 : s * r ≤ c * s := by rw [Nat.mul_comm c s]; exact Nat.mul_le_mul_left s hr
    rw [e1] at dy
    rw [e2]
    omega

theorem ahead_zero (x : Nat) : ahead c x 0 = 0 := by simp [ahead]

/-- What the columns of placement j add to the loads. -/
def addCols (c n : Nat) (E : Nat → Nat) (R : List Nat) (j : Nat) (from0 : Nat → Nat) : Nat → Nat → Nat
  | 0, i => from0 i
  | col + 1, i => addCols c n E R j from0 col i + if node c n E R j col = i then copies c R j else 0

/-- The loads ahead of placement j. -/
def base (c n : Nat) (E : Nat → Nat) (R : List Nat) (k : Nat) : Nat → Nat → Nat
  | 0, _ => 0
  | j + 1, i => addCols c n E R j (base c n E R k j) k i

/-- What node i has been loaded with when placement j has been laid as far as column col. -/
def load (c n : Nat) (E : Nat → Nat) (R : List Nat) (k j col i : Nat) : Nat := addCols c n E R j (base c n E R k j) col i

theorem load_zero (j i : Nat) : load c n E R k j 0 i = base c n E R k j i := rfl
theorem load_succ (j col i : Nat) : load c n E R k j (col + 1) i = load c n E R k j col i + if node c n E R j col = i then copies c R j else 0 := rfl
theorem base_succ (j i : Nat) : base c n E R k (j + 1) i = load c n E R k j k i := rfl

theorem load_eq_of (h : Filled c k n E b) (hR : Rows c n E R) {j i : Nat} (hj : j < R.length) (hi : i < n) (h0 : base c n E R k j i + ahead c (E i) (row R j) = ahead c (E (i + 1)) (row R j)) :
    ∀ col, col ≤ k → load c n E R k j col i + ahead c (E i) (row R j) + copies c R j * hits c (row R j) (E i) col = ahead c (E (i + 1)) (row R j) + copies c R j * hits c (row R j) (E (i + 1)) col
  | 0, _ => by simpa [load, addCols, hits] using h0
  | col + 1, hcol => by
    have ih := load_eq_of h hR hj hi h0 col (by omega)
    have hx := cell_lt (c := c) (k := k) (col := col) (by omega) (hR.row_lt hj)
    have e1 := h.lt_iff (i := i) hx (by omega)
    have e2 := h.lt_iff (i := i + 1) hx (by omega)
    have en : node c n E R j col = nd E n (col * c + row R j) := rfl
    rw [load_succ, hits, hits, Nat.mul_add, Nat.mul_add, en]
    rcases Nat.lt_trichotomy (nd E n (col * c + row R j)) i with g | g | g
    · rw [if_neg (by omega), if_pos (e1.2 g), if_pos (e2.2 (by omega))]; omega
    · rw [if_pos g, if_neg (by rw [e1]; omega), if_pos (e2.2 (by omega)), Nat.mul_one]; omega
    · rw [if_neg (by omega), if_neg (by rw [e1]; omega), if_neg (by rw [e2]; omega)]; omega

theorem load_full (h : Filled c k n E b) (hR : Rows c n E R) {j i : Nat} (hj : j < R.length) (hi : i < n) (h0 : base c n E R k j i + ahead c (E i) (row R j) = ahead c (E (i + 1)) (row R j)) :
    load c n E R k j k i + ahead c (E i) (next c R j) = ahead c (E (i + 1)) (next c R j) := by
  have hn := hR.next_gt hj
  have hx : ∀ i, i ≤ n → E i ≤ k * c := fun i hi => by rw [← h.last]; exact h.mono hi (Nat.le_refl _)
  have s1 := ahead_step h.pos hn.1 hn.2 (hx i (by omega)) (hR.gap (by omega) hj)
  have s2 := ahead_step h.pos hn.1 hn.2 (hx (i + 1) (by omega)) (hR.gap (by omega) hj)
  have hl := load_eq_of h hR hj hi h0 k (Nat.le_refl _)
  unfold copies at hl
  omega

theorem base_eq (h : Filled c k n E b) (hR : Rows c n E R) {i : Nat} (hi : i < n) : ∀ j, j < R.length → base c n E R k j i + ahead c (E i) (row R j) = ahead c (E (i + 1)) (row R j)
  | 0, _ => by rw [hR.row_zero, ahead_zero, ahead_zero]; rfl
  | j + 1, hj => by
    rw [base_succ, hR.row_next hj]
    exact load_full h hR (by omega) hi (base_eq h hR hi j (by omega))

theorem load_mono (j i : Nat) {col : Nat} : ∀ {col' : Nat}, col ≤ col' → load c n E R k j col i ≤ load c n E R k j col' i
  | 0, h => by obtain rfl : col = 0 := by omega
               exact Nat.le_refl _
  | col' + 1, h => by
    by_cases e : col = col' + 1
    · subst e; exact Nat.le_refl _
    · have := load_mono j i (col := col) (col' := col') (by omega)
      rw [load_succ]; omega

theorem load_room (h : Filled c k n E b) (hR : Rows c n E R) {j col : Nat} (hj : j < R.length) (hcol : col < k) :
    load c n E R k j col (node c n E R j col) + copies c R j ≤ b (node c n E R j col) := by
  have hi := node_lt h hR hj hcol
  generalize hnd : node c n E R j col = i at hi
  have h1 : load c n E R k j (col + 1) i = load c n E R k j col i + copies c R j := by rw [load_succ, if_pos hnd]
  have h2 := load_mono (c := c) (n := n) (E := E) (R := R) (k := k) j i (col := col + 1) (col' := k) (by omega)
  have h3 := load_full h hR hj hi (base_eq h hR hi j hj)
  have h4 := ahead_lip h.pos (r := next c R j) (hR.next_gt hj).2 (h.step i hi).1
  have h5 := (h.step i hi).2.2
  omega

theorem load_le (h : Filled c k n E b) (hR : Rows c n E R) {j col i : Nat} (hj : j < R.length) (hcol : col ≤ k) (hi : i < n) : load c n E R k j col i ≤ b i := by
  have h2 := load_mono (c := c) (n := n) (E := E) (R := R) (k := k) j i hcol
  have h3 := load_full h hR hj hi (base_eq h hR hi j hj)
  have h4 := ahead_lip h.pos (r := next c R j) (hR.next_gt hj).2 (h.step i hi).1
  have h5 := (h.step i hi).2.2
  omega

end
end Go.Proofs.YbulkapjgFmt.Plain
