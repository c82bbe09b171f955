/- PLAIN: what is counted pair by pair is what countChains counts. No Go in sight. -/
import Derived.Test.Qxb6605431aTri
namespace Go.Proofs.Qxb6605431a.cc

def GB (C : List (List (List Int))) (p : Nat) : Prop := ∀ j, j < p → ∀ k, 0 < k → k < cL C j → befB (cS C j (k - 1)) (cS C j k) = true
def sOf (C : List (List (List Int))) (i : Nat) : Int := sumZ (eS C i)

/-! ### sums of stamps -/
def sI (f : Nat → Int) : Nat → Int
  | 0 => 0
  | n + 1 => sI f n + f n
theorem sI_le (f g : Nat → Int) (h : ∀ i, f i ≤ g i) : ∀ n, sI f n ≤ sI g n := by
  intro n
  induction n with
  | zero => exact Int.le_refl _
  | succ n ih =>
    have := h n
    show sI f n + f n ≤ sI g n + g n
    omega
theorem sI_lt (f g : Nat → Int) (h : ∀ i, f i ≤ g i) {i : Nat} (hi : f i < g i) : ∀ n, i < n → sI f n < sI g n := by
  intro n
  induction n with
  | zero => intro h; omega
  | succ n ih =>
    intro hn
    show sI f n + f n < sI g n + g n
    by_cases e : i = n
    · subst e
      have := sI_le f g h i
      omega
    · have := ih (by omega)
      have := h n
      omega
theorem sumZ_take (l : List Int) : ∀ k, k ≤ l.length → sumZ (l.take k) = sI (fun i => l.getD i 0) k := by
  intro k
  induction k with
  | zero => intro _; simp [sumZ, sI]
  | succ k ih =>
    intro hk
    rw [take_snoc l k (by omega), sumZ_snoc, ih (by omega)]
    rfl
theorem sumZ_sI (l : List Int) (m : Nat) : sumZ l = sI (fun i => l.getD i 0) (l.length + m) := by
  induction m with
  | zero =>
    have := sumZ_take l l.length (Nat.le_refl _)
    rw [List.take_length] at this
    exact this
  | succ m ih =>
    show _ = sI _ (l.length + m) + l.getD (l.length + m) 0
    rw [getD_out l _ (by omega), ← ih]
    omega
theorem bef_sum {a b : List Int} (h : befB a b = true) : sumZ a < sumZ b := by
  obtain ⟨h1, h2⟩ := (befB_iff a b).1 h
  rw [leqB_iff] at h1
  obtain ⟨i, hi⟩ := (leqB_false b a).1 h2
  have e1 : sumZ a = sI (fun i => a.getD i 0) (a.length + b.length + i + 1) := by
    rw [sumZ_sI a (b.length + i + 1)]
    congr 1
    omega
  have e2 : sumZ b = sI (fun i => b.getD i 0) (a.length + b.length + i + 1) := by
    rw [sumZ_sI b (a.length + i + 1)]
    congr 1
    omega
  rw [e1, e2]
  exact sI_lt _ _ h1 hi _ (by omega)

/-! ### the run is as countChains wants it -/
theorem chain_bef {C : List (List (List Int))} (hG : GB C C.length) {j : Nat} (hj : j < C.length) (k : Nat) : ∀ d, k + d + 1 < cL C j → befB (cS C j k) (cS C j (k + d + 1)) = true := by
  intro d
  induction d with
  | zero => intro h; exact hG j hj (k + 1) (by omega) h
  | succ d ih =>
    intro h
    have h1 := ih (by omega)
    have h2 := hG j hj (k + (d + 1) + 1) (by omega) h
    exact befB_trans h1 h2
theorem chain_lt {C : List (List (List Int))} (hG : GB C C.length) {j k k' : Nat} (hj : j < C.length) (h : k < k') (hk : k' < cL C j) : befB (cS C j k) (cS C j k') = true := by
  have := chain_bef hG hj k (k' - k - 1) (by omega)
  rw [show k + (k' - k - 1) + 1 = k' by omega] at this
  exact this

theorem e_inj {C : List (List (List Int))} {i i' : Nat} (hi : i < cN C) (hi' : i' < cN C) (hp : eP C i = eP C i') (hk : eK C i = eK C i') : i = i' := by
  have h1 := (e_in hi).2.2
  have h2 := (e_in hi').2.2
  rw [h1, h2, hp, hk]

theorem rOk {C : List (List (List Int))} {o : Nat → Nat} (hB : Bij o (cN C)) (hS : Srt (sOf C) o (cN C)) (hG : GB C C.length) : (rOf C o).Ok := by
  refine ⟨fun a ha => ?_, fun j k hj hk => ?_, fun a b ha hb hp hk => ?_, fun a b ha hb hbe => ?_, fun j k k' hj h hk => chain_lt hG hj h hk⟩
  · have := e_in (hB.lt a ha)
    exact ⟨this.1, this.2.1⟩
  · obtain ⟨a, ha, e⟩ := hB.sur _ (e_lt (C := C) hj hk)
    obtain ⟨e1, e2⟩ := e_at (C := C) hj hk
    refine ⟨a, ha, ?_, ?_⟩
    · show eP C (o a) = j
      rw [e, e1]
    · show eK C (o a) = k
      rw [e, e2]
  · exact hB.inj a b ha hb (e_inj (hB.lt a ha) (hB.lt b hb) hp hk)
  · have h1 : sOf C (o a) < sOf C (o b) := bef_sum hbe
    apply Classical.byContradiction
    intro hn
    by_cases e : a = b
    · subst e; omega
    · have := hS b a (by omega) ha
      omega

/-! ### sums -/
theorem sumN_add (f g : Nat → Nat) : ∀ n, sumN (fun k => f k + g k) n = sumN f n + sumN g n := by
  intro n
  induction n with
  | zero => rfl
  | succ n ih =>
    show sumN (fun k => f k + g k) n + (f n + g n) = (sumN f n + f n) + (sumN g n + g n)
    omega
theorem cnt_sum (p : Nat → Bool) : ∀ n, cnt p n = sumN (fun k => if p k = true then 1 else 0) n := by
  intro n
  induction n with
  | zero => rfl
  | succ n ih =>
    show cnt p n + _ = sumN _ n + _
    rw [ih]
theorem cnt_split (q : Nat → Bool) (x : Nat) : ∀ y, cnt q (x + y) = cnt q x + cnt (fun k => q (x + k)) y := by
  intro y
  induction y with
  | zero => rfl
  | succ y ih =>
    show cnt q (x + y) + (if q (x + y) = true then 1 else 0) = cnt q x + (cnt (fun k => q (x + k)) y + (if q (x + y) = true then 1 else 0))
    rw [ih]
    omega
theorem regroup (C : List (List (List Int))) (p : Nat → Nat → Bool) : ∀ m, m ≤ C.length → sumN (fun j => cnt (fun k => p j k) (cL C j)) m = cnt (fun i => p (eP C i) (eK C i)) (sumN (cL C) m) := by
  intro m
  induction m with
  | zero => intro _; rfl
  | succ m ih =>
    intro hm
    show sumN _ m + cnt (fun k => p m k) (cL C m) = cnt _ (sumN (cL C) m + cL C m)
    rw [cnt_split, ih (by omega)]
    congr 1
    apply cnt_congr
    intro k hk
    obtain ⟨e1, e2⟩ := e_at (C := C) (p := m) (by omega) hk
    rw [e1, e2]
theorem sumN_list (f : Nat → Nat) : ∀ n, sumN f n = ((List.range n).map f).sum := by
  intro n
  induction n with
  | zero => rfl
  | succ n ih =>
    show sumN f n + f n = _
    rw [ih, List.range_succ]
    simp
theorem sumN_perm {o : Nat → Nat} {N : Nat} (h : Bij o N) (f : Nat → Nat) : sumN (fun a => f (o a)) N = sumN f N := by
  rw [sumN_list, sumN_list]
  have hp : ((List.range N).map o).Perm (List.range N) := by
    rw [List.perm_ext_iff_of_nodup]
    · intro i
      rw [List.mem_map, List.mem_range]
      constructor
      · rintro ⟨a, ha, rfl⟩
        exact h.lt a (List.mem_range.1 ha)
      · intro hi
        obtain ⟨a, ha, e⟩ := h.sur i hi
        exact ⟨a, List.mem_range.2 ha, e⟩
    · unfold List.Nodup
      rw [List.pairwise_map]
      refine List.Pairwise.imp_of_mem ?_ (List.nodup_range (n := N))
      intro a b ha hb hne e
      exact hne (h.inj a b (List.mem_range.1 ha) (List.mem_range.1 hb) e)
    · exact List.nodup_range
  have := (hp.map f).sum_nat
  rw [List.map_map] at this
  exact this

theorem dbl (p : Nat → Nat → Bool) (h0 : ∀ a, p a a = false) : ∀ N, sumN (fun b => cnt (fun a => p a b) N) N = sumN (fun a => cnt (fun b => decide (a < b) && p a b) N) N + sumN (fun a => cnt (fun b => decide (a < b) && p b a) N) N := by
  intro N
  induction N with
  | zero => rfl
  | succ N ih =>
    have key : ∀ q : Nat → Nat → Bool, sumN (fun a => cnt (fun b => decide (a < b) && q a b) (N + 1)) (N + 1) = sumN (fun a => cnt (fun b => decide (a < b) && q a b) N) N + cnt (fun a => q a N) N := by
      intro q
      show sumN (fun a => cnt (fun b => decide (a < b) && q a b) N + (if (decide (a < N) && q a N) = true then 1 else 0)) N + cnt (fun b => decide (N < b) && q N b) (N + 1) = _
      rw [cnt_zero (fun b => decide (N < b) && q N b) (N + 1) (fun k hk => by rw [decide_eq_false (by omega)]; rfl), sumN_add, cnt_sum (fun a => q a N) N]
      rw [sumN_congr (f := fun a => if (decide (a < N) && q a N) = true then 1 else 0) (g := fun k => if q k N = true then 1 else 0) N (fun k hk => by rw [decide_eq_true hk, Bool.true_and])]
      rfl
    rw [key, key (fun a b => p b a)]
    show sumN (fun b => cnt (fun a => p a b) N + (if p N b = true then 1 else 0)) N + (cnt (fun a => p a N) N + (if p N N = true then 1 else 0)) = _
    rw [sumN_add, ih, h0 N, cnt_sum (fun a => p N a) N]
    simp only [Bool.false_eq_true, if_false]
    omega

theorem pairs_all : ∀ N, 2 * sumN (fun a => cnt (fun b => decide (a < b)) N) N = N * (N - 1) := by
  intro N
  induction N with
  | zero => rfl
  | succ N ih =>
    have key : sumN (fun a => cnt (fun b => decide (a < b)) (N + 1)) (N + 1) = sumN (fun a => cnt (fun b => decide (a < b)) N) N + N := by
      show sumN (fun a => cnt (fun b => decide (a < b)) N + (if decide (a < N) = true then 1 else 0)) N + cnt (fun b => decide (N < b)) (N + 1) = _
      rw [cnt_zero (fun b => decide (N < b)) (N + 1) (fun k hk => decide_eq_false (by omega)), sumN_add]
      rw [sumN_congr (f := fun a => if decide (a < N) = true then 1 else 0) (g := fun _ => 1) N (fun k hk => by rw [decide_eq_true hk]; rfl)]
      have : ∀ n, sumN (fun _ => 1) n = n := by
        intro n
        induction n with
        | zero => rfl
        | succ n ih => show sumN (fun _ => 1) n + 1 = n + 1; rw [ih]
      rw [this]
      rfl
    rw [key, Nat.mul_add, ih]
    cases N with
    | zero => rfl
    | succ n =>
      simp only [Nat.add_sub_cancel]
      rw [show n + 1 + 1 = n + 2 by rfl, Nat.mul_comm (n + 1) n, Nat.mul_comm (n + 2) (n + 1), Nat.mul_add (n + 1) n 2, Nat.mul_comm (n + 1) n]
      omega

/-! ### the three counts -/
theorem D_cnt (C : List (List (List Int))) (o : Nat → Nat) (a : Nat) : (rOf C o).D a = cnt (fun i => befB (eS C i) (eS C (o a))) (cN C) :=
  regroup C (fun j k => befB (cS C j k) (eS C (o a))) C.length (Nat.le_refl _)

theorem Q_cnt {C : List (List (List Int))} (hG : GB C C.length) (o : Nat → Nat) (a : Nat) (ha : o a < cN C) : (rOf C o).Q a = cnt (fun i => decide (i ≠ o a) && eqB (eS C i) (eS C (o a))) (cN C) := by
  have h1 : (rOf C o).Q a = sumN (fun j => cnt (fun k => decide (j ≠ eP C (o a)) && eqB (cS C j k) (eS C (o a))) (cL C j)) C.length := by
    apply sumN_congr
    intro j _
    by_cases e : j = eP C (o a)
    · rw [cnt_zero _ _ (fun k _ => by rw [decide_eq_false (by simp [e])]; rfl)]
      exact if_pos e
    · refine (if_neg e).trans ?_
      apply cnt_congr
      intro k _
      rw [decide_eq_true e, Bool.true_and]
      rfl
  rw [h1, regroup C (fun j k => decide (j ≠ eP C (o a)) && eqB (cS C j k) (eS C (o a))) C.length (Nat.le_refl _)]
  apply cnt_congr
  intro i hi
  have hi' : i < cN C := hi
  show (decide (eP C i ≠ eP C (o a)) && eqB (eS C i) (eS C (o a))) = (decide (i ≠ o a) && eqB (eS C i) (eS C (o a)))
  by_cases e : i = o a
  · rw [e, decide_eq_false (by simp), decide_eq_false (by simp)]
  · rw [decide_eq_true (p := i ≠ o a) e]
    by_cases ep : eP C i = eP C (o a)
    · rw [decide_eq_false (by simp [ep])]
      have hk : eK C i ≠ eK C (o a) := fun h => e (e_inj hi' ha ep h)
      obtain ⟨x1, x2, _⟩ := e_in hi'
      obtain ⟨y1, y2, _⟩ := e_in ha
      have : eqB (eS C i) (eS C (o a)) = false := by
        unfold eS
        rw [ep]
        rw [ep] at x2
        by_cases hl : eK C i < eK C (o a)
        · exact bef_not_eq (chain_lt hG y1 hl y2)
        · have hb := bef_not_eq (chain_lt hG y1 (show eK C (o a) < eK C i by omega) x2)
          unfold eqB at hb ⊢
          rw [Bool.and_comm]
          exact hb
      rw [this]
      rfl
    · rw [decide_eq_true (p := eP C i ≠ eP C (o a)) ep]

theorem eq_comm (x y : List Int) : eqB x y = eqB y x := by unfold eqB; rw [Bool.and_comm]

theorem SD {C : List (List (List Int))} {o : Nat → Nat} (hB : Bij o (cN C)) : sumN (rOf C o).D (cN C) = Tn C pO (cN C) := by
  have h1 : sumN (rOf C o).D (cN C) = sumN (fun a => (fun i' => cnt (fun i => befB (eS C i) (eS C i')) (cN C)) (o a)) (cN C) := sumN_congr _ fun a _ => D_cnt C o a
  refine h1.trans ((sumN_perm hB (fun i' => cnt (fun i => befB (eS C i) (eS C i')) (cN C))).trans ?_)
  rw [dbl (fun i i' => befB (eS C i) (eS C i')) (fun a => befB_irrefl _), ← sumN_add]
  apply sumN_congr
  intro a _
  symm
  apply cnt_add
  · intro b _
    show (decide (a < b) && pO (eS C a) (eS C b)) = _
    unfold pO befB
    cases decide (a < b) <;> cases leqB (eS C a) (eS C b) <;> cases leqB (eS C b) (eS C a) <;> rfl
  · intro b _ hh
    revert hh
    unfold befB
    cases decide (a < b) <;> cases leqB (eS C a) (eS C b) <;> cases leqB (eS C b) (eS C a) <;> simp

theorem SQ {C : List (List (List Int))} {o : Nat → Nat} (hB : Bij o (cN C)) (hG : GB C C.length) : sumN (rOf C o).Q (cN C) = 2 * Tn C pE (cN C) := by
  have h1 : sumN (rOf C o).Q (cN C) = sumN (fun a => (fun i' => cnt (fun i => decide (i ≠ i') && eqB (eS C i) (eS C i')) (cN C)) (o a)) (cN C) := sumN_congr _ fun a ha => Q_cnt hG o a (hB.lt a ha)
  refine h1.trans ((sumN_perm hB (fun i' => cnt (fun i => decide (i ≠ i') && eqB (eS C i) (eS C i')) (cN C))).trans ?_)
  rw [dbl (fun i i' => decide (i ≠ i') && eqB (eS C i) (eS C i')) (fun a => by simp)]
  have e1 : sumN (fun a => cnt (fun b => decide (a < b) && (decide (a ≠ b) && eqB (eS C a) (eS C b))) (cN C)) (cN C) = Tn C pE (cN C) := by
    apply sumN_congr
    intro a _
    apply cnt_congr
    intro b _
    by_cases h : a < b
    · rw [decide_eq_true h, decide_eq_true (p := a ≠ b) (by omega)]; rfl
    · rw [decide_eq_false h]; rfl
  have e2 : sumN (fun a => cnt (fun b => decide (a < b) && (decide (b ≠ a) && eqB (eS C b) (eS C a))) (cN C)) (cN C) = Tn C pE (cN C) := by
    apply sumN_congr
    intro a _
    apply cnt_congr
    intro b _
    rw [eq_comm]
    by_cases h : a < b
    · rw [decide_eq_true h, decide_eq_true (p := b ≠ a) (by omega)]; rfl
    · rw [decide_eq_false h]; rfl
  rw [e1, e2]
  omega

theorem ST (C : List (List (List Int))) : 2 * (Tn C pO (cN C) + Tn C pC (cN C) + Tn C pE (cN C)) = cN C * (cN C - 1) := by
  rw [← pairs_all]
  congr 1
  unfold Tn
  rw [← sumN_add, ← sumN_add]
  apply sumN_congr
  intro a _
  have h1 := cnt_add (fun b => decide (a < b) && pO (eS C a) (eS C b)) (fun b => decide (a < b) && pC (eS C a) (eS C b)) (fun b => decide (a < b) && (pO (eS C a) (eS C b) || pC (eS C a) (eS C b))) (cN C)
    (fun b _ => by cases decide (a < b) <;> cases pO (eS C a) (eS C b) <;> cases pC (eS C a) (eS C b) <;> rfl)
    (fun b _ => by unfold pO pC; cases decide (a < b) <;> cases leqB (eS C a) (eS C b) <;> cases leqB (eS C b) (eS C a) <;> simp)
  have h2 := cnt_add (fun b => decide (a < b) && (pO (eS C a) (eS C b) || pC (eS C a) (eS C b))) (fun b => decide (a < b) && pE (eS C a) (eS C b)) (fun b => decide (a < b)) (cN C)
    (fun b _ => by unfold pO pC pE; cases decide (a < b) <;> cases leqB (eS C a) (eS C b) <;> cases leqB (eS C b) (eS C a) <;> rfl)
    (fun b _ => by unfold pO pC pE; cases decide (a < b) <;> cases leqB (eS C a) (eS C b) <;> cases leqB (eS C b) (eS C a) <;> simp)
  show cnt _ _ + cnt _ _ + cnt _ _ = cnt _ _
  omega

theorem czOf_eq {N D Q T : Nat} (hN : N ≤ 4096) (h : 2 * (D + T + Q) = N * (N - 1)) : czOf N D (2 * Q) = (T : Int) := by
  unfold czOf
  have hq : ((2 * Q : Nat) : Int) / 2 = (Q : Int) := by omega
  have hb : N * (N - 1) ≤ 4096 * 4096 := Nat.mul_le_mul hN (by omega)
  have hx : IntKind.u64.wrap ((N : Int) * IntKind.u64.wrap ((N : Int) - 1)) = ((N * (N - 1) : Nat) : Int) := by
    cases N with
    | zero => rw [show ((0 : Nat) : Int) = 0 from rfl, Int.zero_mul]; rfl
    | succ n =>
      rw [IntWalk.u64_in (((n + 1 : Nat) : Int) - 1) ⟨by omega, by omega⟩]
      rw [show ((n + 1 : Nat) : Int) - 1 = (n : Int) by omega, ← Int.natCast_mul]
      rw [IntWalk.u64_in _ ⟨by omega, by simp at hb; omega⟩]
      rfl
  rw [hx, hq, IntWalk.u64_quo _ _ (by omega)]
  have h2 : ((N * (N - 1) : Nat) : Int) / 2 = (D : Int) + T + Q := by omega
  rw [h2, IntWalk.u64_in ((D : Int) + T + Q - D) ⟨by omega, by omega⟩, IntWalk.u64_in _ ⟨by omega, by omega⟩]
  omega

theorem law (C : List (List (List Int))) (o : Nat → Nat) (hB : Bij o (cN C)) (hS : Srt (sOf C) o (cN C)) (hG : GB C C.length) (_hU : ∀ j k, U64 (cS C j k)) (hN : cN C ≤ 4096) : LawP C o := by
  have hq := SQ hB hG
  have hd := SD hB
  have ht := ST C
  refine ⟨rOk hB hS hG, hd, ?_, ?_⟩
  · rw [hd, hq]
    exact czOf_eq hN ht
  · rw [hq]
    omega
end Go.Proofs.Qxb6605431a.cc
