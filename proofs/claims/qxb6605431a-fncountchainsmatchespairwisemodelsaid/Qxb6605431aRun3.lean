/- PLAIN: one round of countChains, chain by chain. No Go in sight. -/
import Derived.Test.Qxb6605431aRun2
namespace Go.Proofs.Qxb6605431a.cc
variable {r : Run}

theorem relZ_bef {a b : List Int} (h : befB a b = true) : relZ a b = 1 := by
  obtain ⟨h1, h2⟩ := (befB_iff a b).1 h
  simp [relZ, h1, h2]
theorem relZ_eq {a b : List Int} (h : eqB a b = true) : relZ a b = 4 := by
  unfold eqB at h
  simp only [Bool.and_eq_true] at h
  simp [relZ, h.1, h.2]
theorem relZ_not {a b : List Int} (h : leqB a b = false) : relZ a b = 2 ∨ relZ a b = 3 := by
  cases h2 : leqB b a <;> simp [relZ, h, h2]

/-- A row's numbers, for the chain p whose next event is t: what lies below them is strictly before t. -/
def RowL (r : Run) (f : Nat → Nat) (p : Nat) (t : List Int) : Prop := ∀ j, j < r.nc → j ≠ p → f j ≤ r.L j ∧ ∀ k, k < f j → befB (r.st j k) t = true

theorem RowL.le (ok : r.Ok) {f : Nat → Nat} {p a : Nat} (h : RowL r f p (r.S a)) {j : Nat} (hj : j < r.nc) (hne : j ≠ p) : f j ≤ r.bl j a := by
  obtain ⟨h1, h2⟩ := h j hj hne
  by_cases h0 : f j = 0
  · omega
  · have := (ok.bl_iff hj (a := a) (f j - 1) (by omega)).1 (h2 _ (by omega))
    omega

/-- 'equal', when the row's number has come from x0 to x. -/
def flg (r : Run) (j a x0 x : Nat) : Bool := decide (x0 < x) && eqB (r.st j (x - 1)) (r.S a)

theorem flg_self (r : Run) (j a x0 : Nat) : flg r j a x0 x0 = false := by simp [flg]
theorem flg_succ (r : Run) (j a x0 x : Nat) (h : x0 ≤ x) : flg r j a x0 (x + 1) = eqB (r.st j x) (r.S a) := by
  unfold flg
  rw [decide_eq_true (by omega), Nat.add_sub_cancel]
  simp
theorem flg_fin (ok : r.Ok) {j a x0 : Nat} (hj : j < r.nc) (h0 : x0 ≤ r.bl j a) : flg r j a x0 (r.cl j a) = decide (r.ql j a = 1) := by
  have hs := r.cl_split j a
  have hq := ok.ql_le hj (a := a)
  have hc := r.cl_le j a
  by_cases h1 : r.ql j a = 1
  · rw [decide_eq_true h1]
    unfold flg
    rw [decide_eq_true (by omega), Bool.true_and]
    have k1 := (ok.cl_iff hj (a := a) (r.cl j a - 1) (by omega)).2 (by omega)
    have k2 : befB (r.st j (r.cl j a - 1)) (r.S a) = false := by
      cases hb : befB (r.st j (r.cl j a - 1)) (r.S a) with
      | false => rfl
      | true =>
        have := (ok.bl_iff hj (a := a) (r.cl j a - 1) (by omega)).1 hb
        omega
    rw [leq_split, k2] at k1
    simpa using k1
  · rw [decide_eq_false h1]
    unfold flg
    by_cases hx : x0 < r.cl j a
    · have k1 := (ok.bl_iff hj (a := a) (r.cl j a - 1) (by omega)).2 (by omega)
      rw [bef_not_eq k1]
      simp
    · rw [decide_eq_false hx]; rfl

/-- The row behind the chains below j. -/
def mix (r : Run) (a : Nat) (f : Nat → Nat) (j : Nat) : Nat → Nat := fun i => if i < j ∧ i ≠ r.P a then r.cl i a else f i
theorem mix_zero (r : Run) (a : Nat) (f : Nat → Nat) : mix r a f 0 = f := by
  funext i
  simp [mix]
theorem mix_self (r : Run) (a : Nat) (f : Nat → Nat) (j : Nat) : mix r a f j j = f j := by simp [mix]
theorem mix_own (r : Run) (a : Nat) (f : Nat → Nat) : mix r a f (r.P a + 1) = mix r a f (r.P a) := by
  funext i
  unfold mix
  by_cases e : i = r.P a
  · simp [e]
  · by_cases h : i < r.P a
    · rw [if_pos ⟨by omega, e⟩, if_pos ⟨h, e⟩]
    · rw [if_neg (fun hc => by omega), if_neg (fun hc => h hc.1)]
theorem mix_step (r : Run) (a : Nat) (f : Nat → Nat) (j : Nat) (hne : j ≠ r.P a) : (fun i => if i = j then r.cl j a else mix r a f j i) = mix r a f (j + 1) := by
  funext i
  unfold mix
  by_cases e : i = j
  · subst e; rw [if_pos rfl, if_pos ⟨by omega, hne⟩]
  · rw [if_neg e]
    by_cases h : i < j ∧ i ≠ r.P a
    · rw [if_pos h, if_pos ⟨by omega, h.2⟩]
    · rw [if_neg h, if_neg (fun hc => h ⟨by omega, hc.2⟩)]

/-- Behind the round: the row serves the chain's next event. -/
theorem RowL.next (ok : r.Ok) {a b : Nat} (ha : a < r.N) (hb : b < r.N) (hp : r.P b = r.P a) (hk : r.K b = r.K a + 1) (f : Nat → Nat) : RowL r (mix r a f r.nc) (r.P b) (r.S b) := by
  intro j hj hne
  have e : mix r a f r.nc j = r.cl j a := by unfold mix; rw [if_pos ⟨hj, by rw [← hp]; exact hne⟩]
  rw [e]
  refine ⟨r.cl_le j a, fun k hk' => ?_⟩
  have hl : k < r.L j := by have := r.cl_le j a; omega
  exact befB_trans_left ((ok.cl_iff hj (a := a) k hl).2 hk') (ok.bef_next ha hb hp hk)

theorem RowL.zero (r : Run) (p : Nat) (t : List Int) : RowL r (fun _ => 0) p t := fun _ _ _ => ⟨Nat.zero_le _, fun k (hk : k < 0) => absurd hk (by omega)⟩

/-- No event of a's chain is next where a is its first. -/
theorem Run.Ok.not_nxt (ok : r.Ok) {a : Nat} (ha : a < r.N) (hk : r.K a = 0) : ¬ ∃ b, r.Nxt a b ∧ r.P b = r.P a := by
  rintro ⟨b, ⟨h1, h2, c, hc, e1, e2⟩, hp⟩
  have := ok.upK (show c < r.N by omega) ha (by rw [e1, hp]) hc
  omega

theorem Run.Q_le (ok : r.Ok) (a : Nat) : r.Q a ≤ r.nc := by
  have := sumN_le (fun j => if j = r.P a then 0 else r.ql j a) 1 r.nc (fun j hj => by
    show (if j = r.P a then 0 else r.ql j a) ≤ 1
    split
    · omega
    · exact ok.ql_le hj)
  unfold Run.Q
  omega
end Go.Proofs.Qxb6605431a.cc
