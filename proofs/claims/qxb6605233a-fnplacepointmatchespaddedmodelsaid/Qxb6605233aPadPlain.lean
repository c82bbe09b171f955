/- PLAIN: the padded model's loop comes to the same text. No Go in sight. -/
import Derived.Test.Qxb6605233aPlacePlain
namespace Go.Proofs.Qxb6605233a.place

/-- What the second loop has written when it comes to place k of the padded digits X. -/
def part (X : List Int) (cut k : Nat) : List Int := if k ≤ cut then X.take k else X.take cut ++ 46 :: (X.take k).drop cut

theorem part_zero (X : List Int) (cut : Nat) : part X cut 0 = [] := by simp [part]

theorem take_step (X : List Int) (k : Nat) (h : k < X.length) : X.take (k + 1) = X.take k ++ [X.getD k 0] := by
  rw [List.take_succ_eq_append_getElem h]
  simp [List.getD, h]

theorem part_lo (X : List Int) (cut k : Nat) (h : k < X.length) (hk : k < cut) : part X cut (k + 1) = part X cut k ++ [X.getD k 0] := by
  rw [part, part, if_pos (by omega), if_pos (by omega), take_step X k h]

theorem part_at (X : List Int) (k : Nat) (h : k < X.length) : part X k (k + 1) = part X k k ++ [46] ++ [X.getD k 0] := by
  rw [part, part, if_neg (by omega), if_pos (by omega), take_step X k h, List.drop_left' (by simp; omega)]
  simp

theorem part_hi (X : List Int) (cut k : Nat) (h : k < X.length) (hk : cut < k) : part X cut (k + 1) = part X cut k ++ [X.getD k 0] := by
  rw [part, part, if_neg (by omega), if_neg (by omega), take_step X k h, List.drop_append_of_le_length (by simp; omega)]
  simp

theorem part_end (X : List Int) (cut n : Nat) (hn : X.length = n) (h : cut < n) : part X cut n = X.take cut ++ [46] ++ X.drop cut := by
  rw [part, if_neg (by omega), List.take_of_length_le (by omega : X.length ≤ n)]
  simp

theorem part_end' (X : List Int) (n : Nat) (hn : X.length = n) : part X n n ++ [46] = X.take n ++ [46] ++ X.drop n := by
  rw [part, if_pos (Nat.le_refl _), List.drop_of_length_le (by omega)]
  simp

/-- The padded digits, with the point put in. -/
theorem padded_placed (lg : List Int) (p pad n cut : Nat) (hn : pad + lg.length = n) (hc : cut + p = n) (hpad : (lg.length ≤ p + 1 ∧ n = p + 1) ∨ (p + 1 < lg.length ∧ pad = 0)) :
    (List.replicate pad 48 ++ lg).take cut ++ [46] ++ (List.replicate pad 48 ++ lg).drop cut = placed lg p := by
  unfold placed
  rcases hpad with ⟨h1, h2⟩ | ⟨h1, h2⟩
  · have hcut : cut = 1 := by omega
    subst hcut
    by_cases hle : lg.length ≤ p
    · obtain ⟨q, rfl⟩ : ∃ q, pad = q + 1 := ⟨pad - 1, by omega⟩
      rw [if_pos hle, show lg.length - p = 0 by omega, show p - lg.length = q by omega, List.replicate_succ]
      simp
    · have hl : lg.length - p = 1 := by omega
      have hp0 : pad = 0 := by omega
      rw [if_neg hle, hl, hp0, show p - lg.length = 0 by omega]
      simp
  · subst h2
    rw [if_neg (by omega), show lg.length - p = cut by omega, show p - lg.length = 0 by omega]
    simp
end Go.Proofs.Qxb6605233a.place
