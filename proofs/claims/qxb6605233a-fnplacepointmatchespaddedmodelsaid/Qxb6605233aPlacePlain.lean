/- PLAIN: where the point is put, and what is left when it is taken out. No Go in sight. -/
namespace Go.Proofs.Qxb6605233a.place

def trim (l : List Int) : List Int := l.dropWhile (· == 48)

theorem trim_drop : ∀ (l : List Int) (k : Nat), (∀ j, j < k → l.getD j 0 = 48) → k ≤ l.length → (k = l.length ∨ l.getD k 0 ≠ 48) → trim l = l.drop k := by
  intro l
  induction l with
  | nil => intro k _ hk _; simp [trim]
  | cons x l ih =>
    intro k h hk hend
    cases k with
    | zero =>
      have hx : x ≠ 48 := by
        rcases hend with he | he
        · simp at he
        · simpa using he
      simp [trim, hx]
    | succ k =>
      have hx : x = 48 := by simpa using h 0 (by omega)
      have := ih k (fun j hj => by simpa using h (j + 1) (by omega)) (by simpa using hk) (by
        rcases hend with he | he
        · left; simpa using he
        · right; simpa using he)
      simp only [trim] at this ⊢
      simp [hx, this]

def placed (lg : List Int) (p : Nat) : List Int :=
  (if lg.length ≤ p then [48] else lg.take (lg.length - p)) ++ [46] ++ List.replicate (p - lg.length) 48 ++ lg.drop (lg.length - p)

theorem placed_length (lg : List Int) (p : Nat) : (placed lg p).length = if lg.length ≤ p then p + 2 else lg.length + 1 := by
  unfold placed
  split <;> simp <;> omega

/-- The place of the point. -/
def dotAt (lg : List Int) (p : Nat) : Nat := if lg.length ≤ p then 1 else lg.length - p

theorem dot_length (lg : List Int) (p : Nat) : (placed lg p).length = dotAt lg p + p + 1 := by
  rw [placed_length]
  unfold dotAt
  split <;> omega

theorem dot_pos (lg : List Int) (p : Nat) : 1 ≤ dotAt lg p := by
  unfold dotAt
  split <;> omega

theorem placed_dot (lg : List Int) (p : Nat) : (placed lg p).getD (dotAt lg p) 0 = 46 := by
  unfold placed dotAt
  split
  · simp
  · have h : (lg.take (lg.length - p)).length = lg.length - p := by simp
    simp only [List.append_assoc, List.getD_eq_getElem?_getD]
    rw [List.getElem?_append_right (by omega), h]
    simp

theorem joined_eq (lg : List Int) (p : Nat) : (placed lg p).take (dotAt lg p) ++ (placed lg p).drop (dotAt lg p + 1) = if lg.length ≤ p then 48 :: (List.replicate (p - lg.length) 48 ++ lg) else lg := by
  unfold placed dotAt
  split
  · rename_i h
    simp [show lg.length - p = 0 by omega]
  · rename_i h
    have hl : (lg.take (lg.length - p)).length = lg.length - p := by simp
    have h0 : p - lg.length = 0 := by omega
    simp only [h0, List.replicate_zero, List.append_nil, List.append_assoc]
    rw [List.take_left' hl, ← List.append_assoc, List.drop_left' (by simp)]
    simp

theorem trim_rep (n : Nat) (l : List Int) : trim (List.replicate n 48 ++ l) = trim l := by
  induction n with
  | zero => rfl
  | succ n ih =>
    rw [List.replicate_succ]
    simp only [trim, List.cons_append] at ih ⊢
    simp [ih]

theorem trim_joined (lg : List Int) (p : Nat) : trim ((placed lg p).take (dotAt lg p) ++ (placed lg p).drop (dotAt lg p + 1)) = trim lg := by
  rw [joined_eq]
  split
  · have := trim_rep (p - lg.length + 1) lg
    rw [List.replicate_succ] at this
    exact this
  · rfl
end Go.Proofs.Qxb6605233a.place
