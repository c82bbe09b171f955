/- The argument as it came in, and its copy. -/
import Derived.Test.Qxb6605431aCountMem
namespace Go.Proofs.Qxb6605431a.cc
open Go.RowKit

theorem Seg.kept {w w' : World} {ao : Option Addr} {l : List Int} (h : Seg w ao l) (hb : Below w.heap.size w w') : Seg w' ao l := by
  rcases h with h | ⟨b, off, e, h⟩
  · exact .inl h
  · exact .inr ⟨b, off, e, fun j hj => cell_kept (h j hj) hb⟩

def In1 (w : World) (v : Value) (l : List Int) : Prop := ∃ ao n c, v = .slice ao n c ∧ l.length = n ∧ (ao = none → n = 0 ∧ c = 0) ∧ Seg w ao l ∧ U64 l ∧ n ≤ maxLen
def In2 (w : World) (v : Value) (ll : List (List Int)) : Prop := ∃ ao n c, v = .slice ao n c ∧ ll.length = n ∧ (ao = none → n = 0 ∧ c = 0) ∧ n ≤ maxLen ∧
  (ll = [] ∨ ∃ b off, ao = some ⟨b, off, none⟩ ∧ ∀ j, j < ll.length → ∃ tv, w.cell? ⟨b, off + j, none⟩ = some tv ∧ In1 w tv (ll.getD j []))
def In3 (w : World) (v : Value) (C : List (List (List Int))) : Prop := ∃ ao n c, v = .slice ao n c ∧ C.length = n ∧ (ao = none → n = 0 ∧ c = 0) ∧ n ≤ maxLen ∧
  (C = [] ∨ ∃ b off, ao = some ⟨b, off, none⟩ ∧ ∀ j, j < C.length → ∃ tv, w.cell? ⟨b, off + j, none⟩ = some tv ∧ In2 w tv (C.getD j []))

theorem In1.kept {w w' : World} {v : Value} {l : List Int} (h : In1 w v l) (hb : Below w.heap.size w w') : In1 w' v l := by
  obtain ⟨ao, n, c, h1, h2, h3, h4, h5, h6⟩ := h
  exact ⟨ao, n, c, h1, h2, h3, h4.kept hb, h5, h6⟩
theorem In2.kept {w w' : World} {v : Value} {l : List (List Int)} (h : In2 w v l) (hb : Below w.heap.size w w') : In2 w' v l := by
  obtain ⟨ao, n, c, h1, h2, h3, h4, h5⟩ := h
  refine ⟨ao, n, c, h1, h2, h3, h4, ?_⟩
  rcases h5 with h5 | ⟨b, off, h6, h7⟩
  · exact .inl h5
  · exact .inr ⟨b, off, h6, fun j hj => by obtain ⟨tv, h8, h9⟩ := h7 j hj; exact ⟨tv, cell_kept h8 hb, h9.kept hb⟩⟩
theorem In3.kept {w w' : World} {v : Value} {l : List (List (List Int))} (h : In3 w v l) (hb : Below w.heap.size w w') : In3 w' v l := by
  obtain ⟨ao, n, c, h1, h2, h3, h4, h5⟩ := h
  refine ⟨ao, n, c, h1, h2, h3, h4, ?_⟩
  rcases h5 with h5 | ⟨b, off, h6, h7⟩
  · exact .inl h5
  · exact .inr ⟨b, off, h6, fun j hj => by obtain ⟨tv, h8, h9⟩ := h7 j hj; exact ⟨tv, cell_kept h8 hb, h9.kept hb⟩⟩

def tsV (l : List Int) : List Value := l.map fun z => .int .u64 z
def TsA (w : World) (tv : Value) (l : List Int) : Prop := (tv = .slice none 0 0 ∧ l = []) ∨ ∃ g, tv = .slice (some ⟨g, 0, none⟩) l.length l.length ∧ Arr w g 32 (tsV l)
def RowA (w : World) (v : Value) (ll : List (List Int)) : Prop := (v = .slice none 0 0 ∧ ll = []) ∨
  ∃ g ys, v = .slice (some ⟨g, 0, none⟩) ll.length ll.length ∧ Arr w g 31 ys ∧ ys.length = ll.length ∧ ∀ k, k < ll.length → ∃ tv, ys[k]? = some tv ∧ TsA w tv (ll.getD k [])

theorem TsA.keep {w w' : World} {tv : Value} {l : List Int} (h : TsA w tv l) (hk : ∀ g xs, Arr w g 32 xs → Arr w' g 32 xs) : TsA w' tv l := by
  rcases h with h | ⟨g, h1, h2⟩
  · exact .inl h
  · exact .inr ⟨g, h1, hk g _ h2⟩
theorem RowA.keep {w w' : World} {v : Value} {ll : List (List Int)} (h : RowA w v ll) (hk : ∀ g e xs, (e = 31 ∨ e = 32) → Arr w g e xs → Arr w' g e xs) : RowA w' v ll := by
  rcases h with h | ⟨g, ys, h1, h2, h3, h4⟩
  · exact .inl h
  · exact .inr ⟨g, ys, h1, hk g _ _ (.inl rfl) h2, h3, fun k hk' => by obtain ⟨tv, h5, h6⟩ := h4 k hk'; exact ⟨tv, h5, h6.keep fun g xs => hk g 32 xs (.inr rfl)⟩⟩

theorem keep_below {w w' : World} (hb : Below w.heap.size w w') : ∀ g e xs, (e = 31 ∨ e = 32) → Arr w g e xs → Arr w' g e xs := fun _ _ _ _ h => h.below hb h.lt
theorem keep_set {w : World} {g0 : Nat} {e0 : TypeId} {xs0 : List Value} (h0 : Arr w g0 e0 xs0) (he : e0 ≠ 31 ∧ e0 ≠ 32) (j : Nat) (v : Value) : ∀ g e xs, (e = 31 ∨ e = 32) → Arr w g e xs → Arr (w.setCell ⟨g0, j, none⟩ v) g e xs := fun g e xs hh h =>
  h.other (a := ⟨g0, j, none⟩) (h0.ne h (fun e' => by subst e'; rcases hh with hh | hh <;> subst hh <;> simp at he)) v

theorem TsA.ts {w : World} {tv : Value} {l : List Int} (h : TsA w tv l) (hl : l.length ≤ 131072) (hu : U64 l) : Ts w tv l := by
  refine ⟨?_, hl, hu⟩
  rcases h with ⟨h1, h2⟩ | ⟨g, h1, h2⟩
  · subst h2
    exact ⟨none, 0, 0, h1, rfl, .inl ⟨rfl, rfl, rfl⟩, .inl rfl, fun _ _ h => by simp at h⟩
  · refine ⟨_, _, _, h1, rfl, .inr ⟨g, 0, rfl, Nat.le_refl _⟩, .inr ⟨g, 0, rfl, fun j hj => ?_⟩, fun b off e _ => ?_⟩
    · rw [Nat.zero_add, h2.cell]
      simp [tsV, List.getElem?_map, List.getElem?_eq_getElem hj, List.getD]
    · simp only [Option.some.injEq, Addr.mk.injEq] at e
      rw [← e.1]
      exact h2.lt

/-- What zzccCopy gives back. -/
def CopyP (C : List (List (List Int))) (w : World) (e : Ending) (w' : World) : Prop :=
  ∃ ac, e = .returned (.slice ac C.length C.length) ∧ Below w.heap.size w w' ∧ (0 < C.length → ∃ g xs, ac = some ⟨g, 0, none⟩ ∧ Arr w' g 29 xs ∧ xs.length = C.length ∧ ∀ j, j < C.length → ∃ v, xs[j]? = some v ∧ RowA w' v (C.getD j []))

structure CpO (C : List (List (List Int))) (w : World) (g : Nat) (wr : World) (p : Nat) : Prop where
  bel : Below w.heap.size w wr
  bg : w.heap.size ≤ g
  A : ∃ xs, Arr wr g 29 xs ∧ xs.length = C.length ∧ (∀ j, j < p → ∃ v, xs[j]? = some v ∧ RowA wr v (C.getD j [])) ∧ ∀ j, p ≤ j → j < C.length → xs[j]? = some (.slice none 0 0)
structure CpM (ll : List (List Int)) (w : World) (g : Nat) (wr : World) (k : Nat) : Prop where
  bel : Below w.heap.size w wr
  bg : w.heap.size ≤ g
  A : ∃ xs, Arr wr g 31 xs ∧ xs.length = ll.length ∧ (∀ j, j < k → ∃ v, xs[j]? = some v ∧ TsA wr v (ll.getD j [])) ∧ ∀ j, k ≤ j → j < ll.length → xs[j]? = some (.slice none 0 0)
structure CpQ (l : List Int) (w : World) (g : Nat) (wr : World) (q : Nat) : Prop where
  bel : Below w.heap.size w wr
  bg : w.heap.size ≤ g
  A : ∃ xs, Arr wr g 32 xs ∧ xs.length = l.length ∧ (∀ j, j < q → xs[j]? = some (.int .u64 (l.getD j 0)))

theorem CpO.start {C : List (List (List Int))} {w w1 : World} (A1 : Arr w1 w.heap.size 29 (List.replicate C.length (.slice none 0 0))) (G1 : w.grownBy w1 none) : CpO C w w.heap.size w1 0 :=
  ⟨(Below.refl _ _).grown G1 (Nat.le_refl _) (by simp), Nat.le_refl _, _, A1, by simp, fun j h => absurd h (by omega), fun j _ hj => by simp [hj]⟩
theorem CpM.start {C : List (List Int)} {w w1 : World} (A1 : Arr w1 w.heap.size 31 (List.replicate C.length (.slice none 0 0))) (G1 : w.grownBy w1 none) : CpM C w w.heap.size w1 0 :=
  ⟨(Below.refl _ _).grown G1 (Nat.le_refl _) (by simp), Nat.le_refl _, _, A1, by simp, fun j h => absurd h (by omega), fun j _ hj => by simp [hj]⟩
theorem CpQ.start {C : List Int} {w w1 : World} (A1 : Arr w1 w.heap.size 32 (List.replicate C.length (.int .u64 0))) (G1 : w.grownBy w1 none) : CpQ C w w.heap.size w1 0 :=
  ⟨(Below.refl _ _).grown G1 (Nat.le_refl _) (by simp), Nat.le_refl _, _, A1, by simp, fun j h => absurd h (by omega)⟩

theorem CpQ.step {l : List Int} {w wr : World} {g q : Nat} (h : CpQ l w g wr q) (hq : q < l.length) : CpQ l w g (wr.setCell ⟨g, q, none⟩ (.int .u64 (l.getD q 0))) (q + 1) := by
  obtain ⟨xs, h1, h2, h3⟩ := h.A
  refine ⟨h.bel.setCell h.bg _, h.bg, _, h1.set q _, by simp [h2], fun j hj => ?_⟩
  by_cases e : j = q
  · subst e
    rw [List.getElem?_set_self (by omega)]
  · rw [List.getElem?_set_ne (by omega)]
    exact h3 j (by omega)
theorem CpQ.done {l : List Int} {w wr : World} {g : Nat} (h : CpQ l w g wr l.length) : TsA wr (.slice (some ⟨g, 0, none⟩) l.length l.length) l := by
  obtain ⟨xs, h1, h2, h3⟩ := h.A
  refine .inr ⟨g, rfl, ?_⟩
  have : xs = tsV l := by
    apply List.ext_getElem?
    intro i
    by_cases hi : i < l.length
    · rw [h3 i hi]
      simp [tsV, List.getElem?_map, List.getElem?_eq_getElem hi, List.getD]
    · rw [List.getElem?_eq_none (by omega), List.getElem?_eq_none (by simp [tsV]; omega)]
  rw [← this]
  exact h1

/-- A timestamp that is nil: its place stays. -/
theorem CpM.skip {ll : List (List Int)} {w wr : World} {g k : Nat} (h : CpM ll w g wr k) (hk : k < ll.length) (he : ll.getD k [] = []) : CpM ll w g wr (k + 1) := by
  obtain ⟨xs, h1, h2, h3, h4⟩ := h.A
  refine ⟨h.bel, h.bg, xs, h1, h2, fun j hj => ?_, fun j hj hl => h4 j (by omega) hl⟩
  by_cases e : j = k
  · subst e
    exact ⟨_, h4 j (Nat.le_refl _) hk, .inl ⟨rfl, he⟩⟩
  · exact h3 j (by omega)
/-- A timestamp has been copied (world wq) and is stored. -/
theorem CpM.step {ll : List (List Int)} {w wr wq : World} {g k : Nat} (h : CpM ll w g wr k) (hb : Below wr.heap.size wr wq) {v : Value} (hv : TsA wq v (ll.getD k [])) (hk : k < ll.length) : CpM ll w g (wq.setCell ⟨g, k, none⟩ v) (k + 1) := by
  obtain ⟨xs, h1, h2, h3, h4⟩ := h.A
  have g1 : Arr wq g 31 xs := h1.below hb h1.lt
  have kk : ∀ g' xs', Arr wq g' 32 xs' → Arr (wq.setCell ⟨g, k, none⟩ v) g' 32 xs' := fun g' xs' hh => hh.other (a := ⟨g, k, none⟩) (g1.ne hh (by decide)) v
  refine ⟨(h.bel.trans (hb.mono h.bel.size)).setCell h.bg _, h.bg, _, g1.set k v, by simp [h2], fun j hj => ?_, fun j hj hl => by rw [List.getElem?_set_ne (by omega)]; exact h4 j (by omega) hl⟩
  by_cases e : j = k
  · subst e
    exact ⟨v, by rw [List.getElem?_set_self (by omega)], hv.keep kk⟩
  · obtain ⟨v', h5, h6⟩ := h3 j (by omega)
    exact ⟨v', by rw [List.getElem?_set_ne (by omega)]; exact h5, (h6.keep fun g' xs' hh => hh.below hb hh.lt).keep kk⟩
theorem CpM.done {ll : List (List Int)} {w wr : World} {g : Nat} (h : CpM ll w g wr ll.length) : RowA wr (.slice (some ⟨g, 0, none⟩) ll.length ll.length) ll := by
  obtain ⟨xs, h1, h2, h3, _⟩ := h.A
  exact .inr ⟨g, xs, rfl, h1, h2, h3⟩

theorem CpO.skip {ll : List (List (List Int))} {w wr : World} {g k : Nat} (h : CpO ll w g wr k) (hk : k < ll.length) (he : ll.getD k [] = []) : CpO ll w g wr (k + 1) := by
  obtain ⟨xs, h1, h2, h3, h4⟩ := h.A
  refine ⟨h.bel, h.bg, xs, h1, h2, fun j hj => ?_, fun j hj hl => h4 j (by omega) hl⟩
  by_cases e : j = k
  · subst e
    exact ⟨_, h4 j (Nat.le_refl _) hk, .inl ⟨rfl, he⟩⟩
  · exact h3 j (by omega)
theorem CpO.step {ll : List (List (List Int))} {w wr wq : World} {g k : Nat} (h : CpO ll w g wr k) (hb : Below wr.heap.size wr wq) {v : Value} (hv : RowA wq v (ll.getD k [])) (hk : k < ll.length) : CpO ll w g (wq.setCell ⟨g, k, none⟩ v) (k + 1) := by
  obtain ⟨xs, h1, h2, h3, h4⟩ := h.A
  have g1 : Arr wq g 29 xs := h1.below hb h1.lt
  have kk := keep_set g1 (by decide) k v
  refine ⟨(h.bel.trans (hb.mono h.bel.size)).setCell h.bg _, h.bg, _, g1.set k v, by simp [h2], fun j hj => ?_, fun j hj hl => by rw [List.getElem?_set_ne (by omega)]; exact h4 j (by omega) hl⟩
  by_cases e : j = k
  · subst e
    exact ⟨v, by rw [List.getElem?_set_self (by omega)], hv.keep kk⟩
  · obtain ⟨v', h5, h6⟩ := h3 j (by omega)
    exact ⟨v', by rw [List.getElem?_set_ne (by omega)]; exact h5, (h6.keep (keep_below hb)).keep kk⟩
end Go.Proofs.Qxb6605431a.cc
