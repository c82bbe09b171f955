import Derived.Test.Qxb6605431aCountInit
namespace Go.Proofs.Qxb6605431a.cc
open Go.RowKit

theorem upd_self {α : Type} (f : Nat → α) (p : Nat) : upd f p (f p) = f := by
  funext q
  unfold upd
  split
  · next h => rw [h]
  · rfl
theorem upd_upd {α : Type} (f : Nat → α) (p : Nat) (x y : α) : upd (upd f p x) p y = upd f p y := by
  funext q
  unfold upd
  split <;> rfl
theorem upd_at {α : Type} (f : Nat → α) (p : Nat) (x : α) : upd f p x p = x := by simp [upd]
theorem upd_ne {α : Type} (f : Nat → α) {p q : Nat} (x : α) (h : q ≠ p) : upd f p x q = f q := by simp [upd, h]

/-- At the head of round a. -/
structure Hd (r : Run) (w0 : World) (g4 g6 g9 g11 : Nat) (hb : Nat → Nat) (w : World) (a : Nat) (sv : Value) (am : List Value) (hx : Nat → Nat → Nat) (SP : List Nat) (rw : Nat → Nat) (rc : Nat → Nat → Nat) : Prop where
  m : M r w0 g4 g6 g9 g11 hb w (sumN r.D a) am hx sv SP rw (fun p => ∃ b, r.Nxt a b ∧ r.P b = p) rc
  hh : ∀ b, b < a → hx (r.P b) (r.K b) = r.h b
  rl : ∀ b, r.Nxt a b → RowL r (rc (r.P b)) (r.P b) (r.S b)
  sl : SP.length ≤ a

/-- Inside round a: the row of a's own chain is at hand; gE: the block of the loop's variable. -/
structure Cu (r : Run) (w0 : World) (g4 g6 g9 g11 : Nat) (hb : Nat → Nat) (w : World) (a gE : Nat) (tv : Value) (O : Nat) (sv : Value) (am : List Value) (hx : Nat → Nat → Nat) (SP : List Nat) (rw : Nat → Nat) (rc : Nat → Nat → Nat) : Prop where
  m : M r w0 g4 g6 g9 g11 hb w O am hx sv SP rw (fun q => q = r.P a ∨ ∃ b, r.Nxt a b ∧ r.P b = q) rc
  e : Arr w gE 42 [tv, .int .i64 (r.P a : Nat), .int .i64 (r.K a : Nat), .int .u64 0, .int .u64 0]
  rl : ∀ b, r.Nxt a b → r.P b ≠ r.P a → RowL r (rc (r.P b)) (r.P b) (r.S b)
  sl : SP.length ≤ a


variable {r : Run} {w0 w w' : World} {g4 g6 g9 g11 : Nat} {hb : Nat → Nat} {a gE : Nat} {tv : Value} {O : Nat} {am : List Value} {hx : Nat → Nat → Nat} {sv : Value} {SP : List Nat} {rw : Nat → Nat} {rc : Nat → Nat → Nat} {F : Nat → Nat}

theorem Cu.kept (h : Cu r w0 g4 g6 g9 g11 hb w a gE tv O sv am hx SP rw rc) (hg : w.grownBy w' none) : Cu r w0 g4 g6 g9 g11 hb w' a gE tv O sv am hx SP rw rc :=
  ⟨h.m.kept hg, h.e.grown hg (by simp), h.rl, h.sl⟩
theorem Cu.own (h : Cu r w0 g4 g6 g9 g11 hb w a gE tv O sv am hx SP rw rc) (F : Nat → Nat) (hF : rc (r.P a) = F) : Cu r w0 g4 g6 g9 g11 hb w a gE tv O sv am hx SP rw (upd rc (r.P a) F) := by
  subst hF
  rw [upd_self]
  exact h
theorem Cu.setC (h : Cu r w0 g4 g6 g9 g11 hb w a gE tv O sv am hx SP rw rc) (O' : Nat) {z : Int} (hz : z = (O' : Int)) : Cu r w0 g4 g6 g9 g11 hb (w.setCell ⟨g6, 0, none⟩ (.int .u64 z)) a gE tv O' sv am hx SP rw rc :=
  ⟨h.m.setC O' hz, h.e.other (h.m.A6.ne h.e (by decide)) _, h.rl, h.sl⟩
theorem Cu.setRow (h : Cu r w0 g4 g6 g9 g11 hb w a gE tv O sv am hx SP rw (upd rc (r.P a) F)) (j x : Nat) {z : Int} (hz : z = (x : Int)) : Cu r w0 g4 g6 g9 g11 hb (w.setCell ⟨rw (r.P a), j, none⟩ (.int .i64 z)) a gE tv O sv am hx SP rw (upd rc (r.P a) (upd F j x)) := by
  have G := h.m.setRow (p := r.P a) (.inl rfl) j x hz
  rw [upd_upd, upd_at] at G
  exact ⟨G, h.e.other ((h.m.rows (r.P a) (.inl rfl)).2.2.2.1.ne h.e (by decide)) _, fun b hb hne => by
    have := h.rl b hb hne
    rw [upd_ne _ _ hne] at this ⊢
    exact this, h.sl⟩
theorem Cu.rowc (h : Cu r w0 g4 g6 g9 g11 hb w a gE tv O sv am hx SP rw (upd rc (r.P a) F)) (j : Nat) (hj : j < r.nc) : w.cell? ⟨rw (r.P a), j, none⟩ = some (.int .i64 (F j : Nat)) := by
  have := (h.m.rows (r.P a) (.inl rfl)).2.2.2.1
  rw [upd_at] at this
  rw [this.cell, intsV_get _ _ _ hj]
theorem Cu.rowf (h : Cu r w0 g4 g6 g9 g11 hb w a gE tv O sv am hx SP rw rc) (j : Nat) : w.frozen? ⟨rw (r.P a), j, none⟩ = false := (h.m.rows (r.P a) (.inl rfl)).2.2.2.1.free j
theorem Cu.c6 (h : Cu r w0 g4 g6 g9 g11 hb w a gE tv O sv am hx SP rw rc) : w.cell? ⟨g6, 0, none⟩ = some (.int .u64 (O : Nat)) := h.m.A6.cell 0
theorem Cu.f6 (h : Cu r w0 g4 g6 g9 g11 hb w a gE tv O sv am hx SP rw rc) : w.frozen? ⟨g6, 0, none⟩ = false := h.m.A6.free 0
theorem Cu.e2 (h : Cu r w0 g4 g6 g9 g11 hb w a gE tv O sv am hx SP rw rc) : w.cell? ⟨gE, 2, none⟩ = some (.int .i64 (r.K a : Nat)) := h.e.cell 2
theorem Cu.c9 (h : Cu r w0 g4 g6 g9 g11 hb w a gE tv O sv am hx SP rw rc) : w.cell? ⟨g9, r.P a, none⟩ = some (.slice (some ⟨rw (r.P a), 0, none⟩) r.nc r.nc) := by
  rw [h.m.A9.cell, (h.m.rows (r.P a) (.inl rfl)).2.2.2.2]; rfl
theorem Cu.f9 (h : Cu r w0 g4 g6 g9 g11 hb w a gE tv O sv am hx SP rw rc) : w.frozen? ⟨g9, r.P a, none⟩ = false := h.m.A9.free _
theorem Cu.c11 (h : Cu r w0 g4 g6 g9 g11 hb w a gE tv O sv am hx SP rw rc) (j : Nat) (hj : j < r.nc) : w.cell? ⟨g11, j, none⟩ = some (.slice (some ⟨hb j, 0, none⟩) (r.L j) (r.L j)) := by
  rw [h.m.A11.cell]
  simp [List.getElem?_map, List.getElem?_range hj, rowV]
theorem Cu.hc (h : Cu r w0 g4 g6 g9 g11 hb w a gE tv O sv am hx SP rw rc) (j k : Nat) (hj : j < r.nc) (hk : k < r.L j) : w.cell? ⟨hb j, k, none⟩ = some (.int .u64 (hx j k : Nat)) := by
  rw [(h.m.AH j hj).cell, u64V_get _ _ _ hk]
theorem Cu.hf (h : Cu r w0 g4 g6 g9 g11 hb w a gE tv O sv am hx SP rw rc) (j k : Nat) (hj : j < r.nc) : w.frozen? ⟨hb j, k, none⟩ = false := (h.m.AH j hj).free k

/-- The bounds of the two sums. -/
theorem sumN_bd (f : Nat → Nat) {n c N : Nat} (h : ∀ k, k < n → f k ≤ c) (hn : n ≤ N) : sumN f n ≤ c * N := Nat.le_trans (sumN_le f c n h) (Nat.mul_le_mul_left c hn)
theorem D_bd (r : Run) (hnc : r.nc ≤ 4096) (hL : ∀ j, r.L j ≤ 4096) (a : Nat) : r.D a ≤ 16777216 := sumN_bd (c := 4096) _ (fun j _ => Nat.le_trans (r.bl_le j a) (hL j)) hnc
theorem SD_bd (r : Run) (hnc : r.nc ≤ 4096) (hL : ∀ j, r.L j ≤ 4096) (a : Nat) (ha : a ≤ 4096) : sumN r.D a ≤ 68719476736 := sumN_bd (c := 16777216) _ (fun j _ => D_bd r hnc hL j) ha
theorem SQ_bd (r : Run) (ok : r.Ok) (hnc : r.nc ≤ 4096) (a : Nat) (ha : a ≤ 4096) : sumN r.Q a ≤ 16777216 := sumN_bd (c := 4096) _ (fun j _ => Nat.le_trans (Run.Q_le ok j) hnc) ha
theorem sb_bd (r : Run) (hL : ∀ j, r.L j ≤ 4096) (a j : Nat) (hj : j ≤ 4096) : sumN (fun i => if i = r.P a then 0 else r.bl i a) j ≤ 16777216 := sumN_bd (c := 4096) _ (fun i _ => by
  show (if i = r.P a then 0 else r.bl i a) ≤ 4096
  split
  · omega
  · exact Nat.le_trans (r.bl_le i a) (hL i)) hj
theorem sq_bd (r : Run) (ok : r.Ok) (a j : Nat) (hj : j ≤ r.nc) (hnc : r.nc ≤ 4096) : sumN (fun i => if i = r.P a then 0 else r.ql i a) j ≤ 4096 := by
  have := sumN_bd (c := 1) (N := 4096) (fun i => if i = r.P a then 0 else r.ql i a) (n := j) (fun i hi => by
    show (if i = r.P a then 0 else r.ql i a) ≤ 1
    split
    · omega
    · exact ok.ql_le (by omega)) (by omega)
  omega

theorem Cu.setH (h : Cu r w0 g4 g6 g9 g11 hb w a gE tv O sv am hx SP rw rc) (hp : r.P a < r.nc) (x : Nat) {z : Int} (hz : z = (x : Int)) : Cu r w0 g4 g6 g9 g11 hb (w.setCell ⟨hb (r.P a), r.K a, none⟩ (.int .u64 z)) a gE tv O sv am (upd hx (r.P a) (upd (hx (r.P a)) (r.K a) x)) SP rw rc :=
  ⟨h.m.setH hp (r.K a) x hz, h.e.other ((h.m.AH _ hp).ne h.e (by decide)) _, h.rl, h.sl⟩

theorem hh_next (ok : r.Ok) (ha : a < r.N) (hh : ∀ b, b < a → hx (r.P b) (r.K b) = r.h b) : ∀ b, b < a + 1 → (upd hx (r.P a) (upd (hx (r.P a)) (r.K a) (r.h a))) (r.P b) (r.K b) = r.h b := by
  intro b hb
  by_cases e : b = a
  · subst e
    rw [upd_at, upd_at]
  · have hlt : b < a := by omega
    by_cases e2 : r.P b = r.P a
    · have e3 : r.K b ≠ r.K a := fun e4 => e (ok.inj b a (by omega) ha e2 e4)
      rw [e2, upd_at, upd_ne _ _ e3, ← e2]
      exact hh b hlt
    · rw [upd_ne _ _ e2]
      exact hh b hlt

theorem O_next (ok : r.Ok) (ha : a < r.N) : sumN r.D a + r.K a + sumN (fun i => if i = r.P a then 0 else r.bl i a) r.nc = sumN r.D (a + 1) := by
  show _ = sumN r.D a + r.D a
  rw [ok.D_eq ha]
  omega

/-- The round's end where the chain goes on. -/
theorem Cu.toHd (ok : r.Ok) (ha : a < r.N) (h : Cu r w0 g4 g6 g9 g11 hb w a gE tv (sumN r.D (a + 1)) sv am hx SP rw (upd rc (r.P a) (mix r a F r.nc))) (hh : ∀ b, b < a + 1 → hx (r.P b) (r.K b) = r.h b) :
    Hd r w0 g4 g6 g9 g11 hb w (a + 1) sv am hx SP rw (upd rc (r.P a) (mix r a F r.nc)) := by
  refine ⟨h.m.acts ?_, hh, ?_, Nat.le_succ_of_le h.sl⟩
  · rintro q ⟨b, hb, rfl⟩
    rcases ok.nxt_succ ha hb with h1 | h1
    · exact .inl h1.1
    · exact .inr ⟨b, h1.2, rfl⟩
  · intro b hb
    rcases ok.nxt_succ ha hb with h1 | h1
    · have := RowL.next ok ha hb.2.1 h1.1 h1.2 F
      rw [h1.1, upd_at]
      rw [h1.1] at this
      exact this
    · exact h.rl b h1.2 h1.1

/-- The round's end where the chain ends. -/
theorem Cu.toHdP (ok : r.Ok) (ha : a < r.N) (h : Cu r w0 g4 g6 g9 g11 hb w a gE tv (sumN r.D (a + 1)) sv am hx SP rw rc) (hh : ∀ b, b < a + 1 → hx (r.P b) (r.K b) = r.h b) (hl : r.K a + 1 = r.L (r.P a))
    {w1 : World} {v' : Value} (hown : w1.ownsRow (g9 + 1) 30 1 v' (SP.length + 1) ((SP.map fun g => rowV g r.nc) ++ [rowV (rw (r.P a)) r.nc])) (hg : w.grownBy w1 sv.ownBlock) :
    Hd r w0 g4 g6 g9 g11 hb (w1.setCell ⟨g9, r.P a, none⟩ (.slice none 0 0)) (a + 1) v' (am.set (r.P a) (.slice none 0 0)) hx (SP ++ [rw (r.P a)]) rw rc := by
  have key : ∀ b, r.Nxt (a + 1) b → r.P b ≠ r.P a ∧ r.Nxt a b := by
    intro b hb
    rcases ok.nxt_succ ha hb with h1 | h1
    · have := (ok.inn b hb.2.1).2
      rw [h1.1] at this
      omega
    · exact h1
  refine ⟨(h.m.push (.inl rfl) hown hg).acts ?_, hh, ?_, ?_⟩
  · rintro q ⟨b, hb, rfl⟩
    exact ⟨.inr ⟨b, (key b hb).2, rfl⟩, (key b hb).1⟩
  · intro b hb
    exact h.rl b (key b hb).2 (key b hb).1
  · have := h.sl
    simp
    omega

/-- The number of concurrent pairs, as countChains reckons it. -/
def czOf (N D Q : Nat) : Int := IntKind.u64.wrap (IntKind.u64.wrap (IntKind.u64.wrap ((IntKind.u64.wrap ((N : Int) * IntKind.u64.wrap ((N : Int) - 1))).tdiv 2) - (D : Int)) - (Q : Int) / 2)
def CountP (r : Run) (w : World) (e : Ending) (w' : World) : Prop :=
  e = .returned (.tuple #[.agg #[.int .u64 (sumN r.D r.N : Nat), .int .u64 (czOf r.N (sumN r.D r.N) (sumN r.Q r.N)), .int .u64 ((sumN r.Q r.N : Nat) / 2 : Int)], .int .u64 (maxN r.h r.N : Nat)]) ∧ Below w.heap.size w w'
end Go.Proofs.Qxb6605431a.cc
