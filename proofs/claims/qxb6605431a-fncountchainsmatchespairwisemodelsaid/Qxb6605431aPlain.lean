/- PLAIN: timestamps as lists of numbers, missing entries 0. No Go in sight. -/
namespace Go.Proofs.Qxb6605431a.cc

/-- Every entry of a is at most the same entry of b. -/
def leqB (a b : List Int) : Bool := (List.range (max a.length b.length)).all fun i => decide (a.getD i 0 ≤ b.getD i 0)
def befB (a b : List Int) : Bool := leqB a b && !leqB b a

theorem getD_out (l : List Int) (i : Nat) (h : l.length ≤ i) : l.getD i 0 = 0 := by
  rw [List.getD_eq_getElem?_getD, List.getElem?_eq_none h]; rfl

theorem leqB_iff (a b : List Int) : leqB a b = true ↔ ∀ i, a.getD i 0 ≤ b.getD i 0 := by
  unfold leqB
  rw [List.all_eq_true]
  constructor
  · intro h i
    by_cases hi : i < max a.length b.length
    · simpa using h i (List.mem_range.2 hi)
    · rw [getD_out a i (by omega), getD_out b i (by omega)]
      exact Int.le_refl _
  · intro h i _
    simpa using h i

theorem leqB_false (a b : List Int) : leqB a b = false ↔ ∃ i, b.getD i 0 < a.getD i 0 := by
  constructor
  · intro h
    apply Classical.byContradiction
    intro hn
    have : leqB a b = true := (leqB_iff a b).2 (fun i => by
      apply Classical.byContradiction
      intro hi
      exact hn ⟨i, by omega⟩)
    rw [this] at h
    cases h
  · rintro ⟨i, hi⟩
    cases h : leqB a b with
    | false => rfl
    | true =>
      have := (leqB_iff a b).1 h i
      omega

theorem leqB_refl (a : List Int) : leqB a a = true := (leqB_iff a a).2 fun _ => Int.le_refl _
theorem leqB_trans {a b c : List Int} (h1 : leqB a b = true) (h2 : leqB b c = true) : leqB a c = true :=
  (leqB_iff a c).2 fun i => Int.le_trans ((leqB_iff a b).1 h1 i) ((leqB_iff b c).1 h2 i)

theorem befB_iff (a b : List Int) : befB a b = true ↔ leqB a b = true ∧ leqB b a = false := by
  unfold befB
  cases leqB a b <;> cases leqB b a <;> simp

/-- Compare's answer. -/
def relZ (a b : List Int) : Int := if leqB a b then (if leqB b a then 4 else 1) else (if leqB b a then 2 else 3)

def Nn (l : List Int) : Prop := ∀ i, 0 ≤ l.getD i 0
def nzB (l : List Int) : Bool := l.any (· != 0)

theorem nzB_false (l : List Int) (h : ∀ j, j < l.length → l.getD j 0 = 0) : nzB l = false := by
  unfold nzB
  rw [List.any_eq_false]
  intro x hx
  obtain ⟨j, hj, rfl⟩ := List.getElem_of_mem hx
  have := h j hj
  simp [List.getD, hj] at this
  simp [this]

theorem nzB_true (l : List Int) (j : Nat) (hj : j < l.length) (h : l.getD j 0 ≠ 0) : nzB l = true := by
  unfold nzB
  rw [List.any_eq_true]
  refine ⟨l[j], List.getElem_mem hj, ?_⟩
  simpa [List.getD, hj] using h

theorem nzB_iff (l : List Int) : nzB l = true ↔ ∃ j, l.getD j 0 ≠ 0 := by
  constructor
  · intro h
    apply Classical.byContradiction
    intro hn
    have := nzB_false l (fun j _ => by
      apply Classical.byContradiction
      intro hj
      exact hn ⟨j, hj⟩)
    rw [this] at h
    cases h
  · rintro ⟨j, hj⟩
    by_cases hl : j < l.length
    · exact nzB_true l j hl hj
    · exact absurd (getD_out l j (by omega)) hj

theorem getD_drop (l : List Int) (k i : Nat) : (l.drop k).getD i 0 = l.getD (k + i) 0 := by
  simp [List.getD_eq_getElem?_getD, List.getElem?_drop]

/-- 'exceeds': no entry of t is larger within the shorter; then an entry of t beyond it. -/
theorem leq_of_exceeds (t u : List Int) (m : Nat) (hm : m = min t.length u.length) (hu : Nn u) (hall : ∀ j, j < m → t.getD j 0 ≤ u.getD j 0) (ht : Nn t) : leqB t u = !nzB (t.drop m) := by
  cases hz : nzB (t.drop m) with
  | true =>
    obtain ⟨j, hj⟩ := (nzB_iff _).1 hz
    rw [getD_drop] at hj
    refine (leqB_false t u).2 ⟨m + j, ?_⟩
    have hlt : m + j < t.length := by
      apply Classical.byContradiction
      intro h
      exact hj (getD_out t _ (by omega))
    rw [getD_out u (m + j) (by omega)]
    have := ht (m + j)
    omega
  | false =>
    refine (leqB_iff t u).2 fun i => ?_
    by_cases hi : i < m
    · exact hall i hi
    · have h0 : t.getD i 0 = 0 := by
        apply Classical.byContradiction
        intro hne
        have : nzB (t.drop m) = true := (nzB_iff _).2 ⟨i - m, by rw [getD_drop, show m + (i - m) = i by omega]; exact hne⟩
        rw [hz] at this
        cases this
      rw [h0]
      exact hu i

/-- The numbers from place k + 1 on decide, where the first k agree and the one at k is smaller. -/
theorem leqB_split (a b : List Int) (k : Nat) (hall : ∀ j, j < k → a.getD j 0 = b.getD j 0) (hk : a.getD k 0 ≤ b.getD k 0) : leqB a b = leqB (a.drop (k + 1)) (b.drop (k + 1)) := by
  rw [Bool.eq_iff_iff, leqB_iff, leqB_iff]
  constructor
  · intro h i
    rw [getD_drop, getD_drop]
    exact h _
  · intro h i
    by_cases h1 : i < k
    · rw [hall i h1]; exact Int.le_refl _
    · by_cases h2 : i = k
      · subst h2; exact hk
      · have := h (i - (k + 1))
        rwa [getD_drop, getD_drop, show k + 1 + (i - (k + 1)) = i by omega] at this

theorem leqB_bad (a b : List Int) (k : Nat) (h : b.getD k 0 < a.getD k 0) : leqB a b = false := (leqB_false a b).2 ⟨k, h⟩

/-- All within the shorter agree: only what is beyond decides. -/
theorem leqB_tail (a b : List Int) (m : Nat) (hm : m = min a.length b.length) (hb : Nn b) (ha : Nn a) (hall : ∀ j, j < m → a.getD j 0 = b.getD j 0) : leqB a b = !nzB (a.drop m) :=
  leq_of_exceeds a b m hm hb (fun j hj => by rw [hall j hj]; exact Int.le_refl _) ha

theorem nz_one (a b : List Int) (m : Nat) (hm : m = min a.length b.length) : nzB (a.drop m) = false ∨ nzB (b.drop m) = false := by
  by_cases h : a.length ≤ b.length
  · left
    rw [List.drop_of_length_le (by omega)]
    rfl
  · right
    rw [List.drop_of_length_le (by omega)]
    rfl

/-! ### sums -/
def sumZ (l : List Int) : Int := l.foldl (· + ·) 0
theorem sumZ_snoc (l : List Int) (x : Int) : sumZ (l ++ [x]) = sumZ l + x := by simp [sumZ]
theorem take_snoc (l : List Int) (k : Nat) (h : k < l.length) : l.take (k + 1) = l.take k ++ [l.getD k 0] := by
  rw [List.take_succ_eq_append_getElem h]
  simp [List.getD, h]
def U64 (l : List Int) : Prop := ∀ i, 0 ≤ l.getD i 0 ∧ l.getD i 0 ≤ 18446744073709551615
theorem U64.nn {l : List Int} (h : U64 l) : Nn l := fun i => (h i).1
theorem sumZ_bd (l : List Int) (h : U64 l) : ∀ k, k ≤ l.length → 0 ≤ sumZ (l.take k) ∧ sumZ (l.take k) ≤ 18446744073709551615 * (k : Int) := by
  intro k
  induction k with
  | zero => intro _; simp [sumZ]
  | succ k ih =>
    intro hk
    have := ih (by omega)
    rw [take_snoc l k (by omega), sumZ_snoc]
    have hx := h k
    have e : ((k + 1 : Nat) : Int) = (k : Int) + 1 := by omega
    rw [e, Int.mul_add]
    omega
end Go.Proofs.Qxb6605431a.cc
