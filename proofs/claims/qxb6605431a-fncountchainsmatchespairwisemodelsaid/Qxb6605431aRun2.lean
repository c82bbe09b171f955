/- PLAIN: the height that countChains reckons is the height. No Go in sight. -/
import Derived.Test.Qxb6605431aRun
namespace Go.Proofs.Qxb6605431a.cc
variable {r : Run}

/-- What 'below' holds when the inner loop comes to chain j. 'hx j k': what the heights' row of chain j holds at place k. -/
def bwN (r : Run) (hx : Nat → Nat → Nat) (a : Nat) : Nat → Nat
  | 0 => if 0 < r.K a then hx (r.P a) (r.K a - 1) else 0
  | j + 1 => if j ≠ r.P a ∧ 0 < r.bl j a then (if bwN r hx a j < hx j (r.bl j a - 1) then hx j (r.bl j a - 1) else bwN r hx a j) else bwN r hx a j

theorem bwN_ge0 (r : Run) (hx : Nat → Nat → Nat) (a : Nat) : ∀ n, bwN r hx a 0 ≤ bwN r hx a n := by
  intro n
  induction n with
  | zero => exact Nat.le_refl _
  | succ n ih =>
    rw [show bwN r hx a (n + 1) = if n ≠ r.P a ∧ 0 < r.bl n a then (if bwN r hx a n < hx n (r.bl n a - 1) then hx n (r.bl n a - 1) else bwN r hx a n) else bwN r hx a n from rfl]
    split
    · split <;> omega
    · exact ih
theorem bwN_ge (r : Run) (hx : Nat → Nat → Nat) (a : Nat) : ∀ n j, j < n → j ≠ r.P a → 0 < r.bl j a → hx j (r.bl j a - 1) ≤ bwN r hx a n := by
  intro n
  induction n with
  | zero => intro j hj; omega
  | succ n ih =>
    intro j hj hne hpos
    rw [show bwN r hx a (n + 1) = if n ≠ r.P a ∧ 0 < r.bl n a then (if bwN r hx a n < hx n (r.bl n a - 1) then hx n (r.bl n a - 1) else bwN r hx a n) else bwN r hx a n from rfl]
    by_cases e : j = n
    · subst e
      rw [if_pos ⟨hne, hpos⟩]
      split <;> omega
    · have := ih j (by omega) hne hpos
      split
      · split <;> omega
      · exact this
theorem bwN_le (r : Run) (hx : Nat → Nat → Nat) (a m : Nat) (h0 : 0 < r.K a → hx (r.P a) (r.K a - 1) ≤ m) : ∀ n, (∀ j, j < n → j ≠ r.P a → 0 < r.bl j a → hx j (r.bl j a - 1) ≤ m) → bwN r hx a n ≤ m := by
  intro n
  induction n with
  | zero =>
    intro _
    unfold bwN
    split
    · rename_i h; exact h0 h
    · exact Nat.zero_le _
  | succ n ih =>
    intro h
    have ih' := ih (fun j hj => h j (by omega))
    rw [show bwN r hx a (n + 1) = if n ≠ r.P a ∧ 0 < r.bl n a then (if bwN r hx a n < hx n (r.bl n a - 1) then hx n (r.bl n a - 1) else bwN r hx a n) else bwN r hx a n from rfl]
    split
    · rename_i hc
      split
      · exact h n (by omega) hc.1 hc.2
      · exact ih'
    · exact ih'

theorem Run.Ok.h_chain (h : r.Ok) {b b' : Nat} (hb : b < r.N) (hb' : b' < r.N) (hp : r.P b = r.P b') (hk : r.K b ≤ r.K b') : r.h b ≤ r.h b' := by
  by_cases e : r.K b = r.K b'
  · rw [h.inj b b' hb hb' hp e]; exact Nat.le_refl _
  · have hlt := h.up hb hb' hp (by omega)
    refine Nat.le_of_lt (Run.h_lt hlt ?_)
    unfold Run.S
    rw [hp]
    exact h.chn _ _ _ (h.inn b' hb').1 (by omega) (h.inn b' hb').2

/-- The height. -/
theorem Run.Ok.below (h : r.Ok) {a : Nat} (ha : a < r.N) (hx : Nat → Nat → Nat) (hhx : ∀ b, b < a → hx (r.P b) (r.K b) = r.h b) : bwN r hx a r.nc + 1 = r.h a := by
  rw [r.h_eq a]
  congr 1
  obtain ⟨hpa, hka⟩ := h.inn a ha
  -- the event just before a on its own chain
  have own : 0 < r.K a → ∃ b, b < a ∧ r.P b = r.P a ∧ r.K b = r.K a - 1 ∧ befB (r.S b) (r.S a) = true ∧ hx (r.P a) (r.K a - 1) = r.h b := by
    intro hk
    obtain ⟨b, hb, e1, e2⟩ := h.sur (r.P a) (r.K a - 1) hpa (by omega)
    have hlt : b < a := h.up hb ha e1 (by omega)
    refine ⟨b, hlt, e1, e2, ?_, ?_⟩
    · unfold Run.S
      rw [e1, e2]
      exact h.chn _ _ _ hpa (by omega) hka
    · rw [← hhx b hlt, e1, e2]
  have oth : ∀ j, j < r.nc → 0 < r.bl j a → ∃ b, b < a ∧ r.P b = j ∧ r.K b = r.bl j a - 1 ∧ befB (r.S b) (r.S a) = true ∧ hx j (r.bl j a - 1) = r.h b := by
    intro j hj hpos
    have hle := r.bl_le j a
    obtain ⟨b, hb, e1, e2⟩ := h.sur j (r.bl j a - 1) hj (by omega)
    have hbef : befB (r.S b) (r.S a) = true := by
      unfold Run.S
      rw [e1, e2]
      exact (h.bl_iff hj (a := a) (r.bl j a - 1) (by omega)).2 (by omega)
    have hlt := h.ord b a hb ha hbef
    exact ⟨b, hlt, e1, e2, hbef, by rw [← hhx b hlt, e1, e2]⟩
  apply Nat.le_antisymm
  · refine bwN_le r hx a _ ?_ r.nc ?_
    · intro hk
      obtain ⟨b, hlt, _, _, hbef, hv⟩ := own hk
      rw [hv]
      exact best_ge r r.h a a b hlt hbef
    · intro j hj _ hpos
      obtain ⟨b, hlt, _, _, hbef, hv⟩ := oth j hj hpos
      rw [hv]
      exact best_ge r r.h a a b hlt hbef
  · refine best_le r r.h a _ a ?_
    intro b hb hbef
    have hbN : b < r.N := by omega
    obtain ⟨hpb, hkb⟩ := h.inn b hbN
    by_cases e : r.P b = r.P a
    · have hk := h.upK hbN ha e hb
      obtain ⟨b', hlt, e1, e2, _, hv⟩ := own (by omega)
      have := h.h_chain hbN (show b' < r.N by omega) (by rw [e, e1]) (by omega)
      have h0 := bwN_ge0 r hx a r.nc
      rw [show bwN r hx a 0 = if 0 < r.K a then hx (r.P a) (r.K a - 1) else 0 from rfl, if_pos (by omega), hv] at h0
      omega
    · have hk : r.K b < r.bl (r.P b) a := (h.bl_iff hpb (a := a) (r.K b) hkb).1 hbef
      obtain ⟨b', hlt, e1, e2, _, hv⟩ := oth (r.P b) hpb (by omega)
      have := h.h_chain hbN (show b' < r.N by omega) e1.symm (by omega)
      have h1 := bwN_ge r hx a r.nc (r.P b) hpb e (by omega)
      rw [hv] at h1
      omega

/-- The next event of its chain, at step a. -/
def Run.Nxt (r : Run) (a b : Nat) : Prop := a ≤ b ∧ b < r.N ∧ ∃ c, c < a ∧ r.P c = r.P b ∧ r.K c + 1 = r.K b

theorem Run.Ok.nxt_self (h : r.Ok) {a : Nat} (ha : a < r.N) (hk : 0 < r.K a) : r.Nxt a a := by
  obtain ⟨hpa, hka⟩ := h.inn a ha
  obtain ⟨b, hb, e1, e2⟩ := h.sur (r.P a) (r.K a - 1) hpa (by omega)
  exact ⟨Nat.le_refl _, ha, b, h.up hb ha e1 (by omega), e1, by omega⟩
/-- Behind step a: the next event of a's own chain, or one that was next already, of another chain. -/
theorem Run.Ok.nxt_succ (h : r.Ok) {a b : Nat} (ha : a < r.N) (hn : r.Nxt (a + 1) b) : (r.P b = r.P a ∧ r.K b = r.K a + 1) ∨ (r.P b ≠ r.P a ∧ r.Nxt a b) := by
  obtain ⟨h1, h2, c, hc, e1, e2⟩ := hn
  by_cases hca : c = a
  · subst hca; exact .inl ⟨e1.symm, e2.symm⟩
  · right
    refine ⟨fun hp => ?_, by omega, h2, c, by omega, e1, e2⟩
    have k1 := h.upK (show c < r.N by omega) ha (by rw [e1, hp]) (by omega)
    have k2 := h.upK ha h2 hp.symm (by omega)
    omega
theorem Run.Ok.bef_next (h : r.Ok) {a b : Nat} (ha : a < r.N) (hb : b < r.N) (hp : r.P b = r.P a) (hk : r.K b = r.K a + 1) : befB (r.S a) (r.S b) = true := by
  unfold Run.S
  rw [hp, hk]
  have := (h.inn b hb).2
  rw [hp, hk] at this
  exact h.chn _ _ _ (h.inn a ha).1 (by omega) this
end Go.Proofs.Qxb6605431a.cc
