/- The order by sums: plain, and as memory. -/
import Derived.Test.Qxb6605431aEv
import Derived.Test.Qxb6605431aCountCu
namespace Go.Proofs.Qxb6605431a.cc
open Go.RowKit

structure Bij (o : Nat → Nat) (N : Nat) : Prop where
  lt : ∀ a, a < N → o a < N
  inj : ∀ a b, a < N → b < N → o a = o b → a = b
  sur : ∀ i, i < N → ∃ a, a < N ∧ o a = i

def swp (o : Nat → Nat) (j : Nat) : Nat → Nat := upd (upd o j (o (j - 1))) (j - 1) (o j)

theorem swp_j (o : Nat → Nat) {j : Nat} (hj : 0 < j) : swp o j j = o (j - 1) := by
  unfold swp
  rw [upd_ne _ _ (by omega), upd_at]
theorem swp_p (o : Nat → Nat) (j : Nat) : swp o j (j - 1) = o j := by
  unfold swp
  rw [upd_at]
theorem swp_o (o : Nat → Nat) {j i : Nat} (h1 : i ≠ j) (h2 : i ≠ j - 1) : swp o j i = o i := by
  unfold swp
  rw [upd_ne _ _ h2, upd_ne _ _ h1]

theorem Bij.swap {o : Nat → Nat} {N j : Nat} (h : Bij o N) (h0 : 0 < j) (hj : j < N) : Bij (swp o j) N := by
  have key : ∀ a, a < N → ∃ b, b < N ∧ swp o j a = o b ∧ (a = j → b = j - 1) ∧ (a = j - 1 → b = j) ∧ (a ≠ j → a ≠ j - 1 → b = a) := by
    intro a ha
    by_cases e1 : a = j
    · subst e1
      exact ⟨a - 1, by omega, swp_j o h0, fun _ => rfl, fun h => by omega, fun h => absurd rfl h⟩
    · by_cases e2 : a = j - 1
      · subst e2
        exact ⟨j, hj, swp_p o j, fun h => absurd h e1, fun _ => rfl, fun _ h => absurd rfl h⟩
      · exact ⟨a, ha, swp_o o e1 e2, fun h => absurd h e1, fun h => absurd h e2, fun _ _ => rfl⟩
  refine ⟨fun a ha => ?_, fun a b ha hb he => ?_, fun i hi => ?_⟩
  · obtain ⟨b, hb, e, _⟩ := key a ha
    rw [e]
    exact h.lt b hb
  · obtain ⟨a', ha', ea, a1, a2, a3⟩ := key a ha
    obtain ⟨b', hb', eb, b1, b2, b3⟩ := key b hb
    have := h.inj a' b' ha' hb' (by rw [← ea, ← eb]; exact he)
    by_cases x1 : a = j
    · have z1 := a1 x1
      by_cases y1 : b = j
      · omega
      · by_cases y2 : b = j - 1
        · have := b2 y2; omega
        · have := b3 y1 y2; omega
    · by_cases x2 : a = j - 1
      · have z1 := a2 x2
        by_cases y1 : b = j
        · have := b1 y1; omega
        · by_cases y2 : b = j - 1
          · omega
          · have := b3 y1 y2; omega
      · have z1 := a3 x1 x2
        by_cases y1 : b = j
        · have := b1 y1; omega
        · by_cases y2 : b = j - 1
          · have := b2 y2; omega
          · have := b3 y1 y2; omega
  · obtain ⟨a, ha, e⟩ := h.sur i hi
    by_cases e1 : a = j
    · subst e1
      exact ⟨a - 1, by omega, by rw [swp_p, e]⟩
    · by_cases e2 : a = j - 1
      · subst e2
        exact ⟨j, hj, by rw [swp_j o h0, e]⟩
      · exact ⟨a, ha, by rw [swp_o o e1 e2, e]⟩

def Srt (s : Nat → Int) (o : Nat → Nat) (a : Nat) : Prop := ∀ x y, x < y → y < a → s (o x) ≤ s (o y)
structure InvJ (s : Nat → Int) (o : Nat → Nat) (a j : Nat) : Prop where
  rest : ∀ x y, x < y → y ≤ a → x ≠ j → y ≠ j → s (o x) ≤ s (o y)
  up : ∀ y, j < y → y ≤ a → s (o j) < s (o y)

theorem InvJ.start {s : Nat → Int} {o : Nat → Nat} {a : Nat} (h : Srt s o a) : InvJ s o a a :=
  ⟨fun x y h1 h2 _ h4 => h x y h1 (by omega), fun y h1 h2 => by omega⟩
theorem InvJ.step {s : Nat → Int} {o : Nat → Nat} {a j : Nat} (h : InvJ s o a j) (h0 : 0 < j) (hj : j ≤ a) (hl : s (o j) < s (o (j - 1))) : InvJ s (swp o j) a (j - 1) := by
  refine ⟨fun x y hxy hy hx1 hy1 => ?_, fun y hy hya => ?_⟩
  · by_cases ey : y = j
    · subst ey
      rw [swp_j o h0, swp_o o (by omega) hx1]
      exact h.rest x (y - 1) (by omega) (by omega) (by omega) (by omega)
    · by_cases ex : x = j
      · subst ex
        rw [swp_j o h0, swp_o o ey hy1]
        exact h.rest (x - 1) y (by omega) hy (by omega) ey
      · rw [swp_o o ex hx1, swp_o o ey hy1]
        exact h.rest x y hxy hy ex ey
  · rw [swp_p]
    by_cases ey : y = j
    · subst ey
      rw [swp_j o h0]
      exact hl
    · rw [swp_o o ey (by omega)]
      exact h.up y (by omega) hya
theorem InvJ.done {s : Nat → Int} {o : Nat → Nat} {a j : Nat} (h : InvJ s o a j) (hj : j ≤ a) (hl : 0 < j → s (o (j - 1)) ≤ s (o j)) : Srt s o (a + 1) := by
  intro x y hxy hy
  by_cases ey : y = j
  · subst ey
    have h1 := hl (by omega)
    by_cases ex : x = y - 1
    · subst ex; exact h1
    · have := h.rest x (y - 1) (by omega) (by omega) (by omega) (by omega)
      omega
  · by_cases ex : x = j
    · subst ex
      have := h.up y hxy (by omega)
      omega
    · exact h.rest x y hxy (by omega) ex ey

/-! ### memory -/
theorem B5.grown {C : List (List (List Int))} {wb wr w' : World} {tvs : Nat → Value} {g13 g14 g15 g16 g17 m : Nat} (h : B5 C wb tvs wr g13 g14 g15 g16 g17 m) (hg : wr.grownBy w' none) : B5 C wb tvs w' g13 g14 g15 g16 g17 m :=
  ⟨h.bel.grown hg h.bel.size (by simp), h.ge, h.o1, h.o2, h.o3, h.o4, h.a13.grown hg, h.a14.grown hg, h.a15.grown hg, h.a16.grown hg, h.a17.grown hg⟩
theorem B5.below {C : List (List (List Int))} {wb wr w' : World} {tvs : Nat → Value} {g13 g14 g15 g16 g17 m : Nat} (h : B5 C wb tvs wr g13 g14 g15 g16 g17 m) (hg : Below wr.heap.size wr w') : B5 C wb tvs w' g13 g14 g15 g16 g17 m :=
  ⟨h.bel.trans (hg.mono h.bel.size), h.ge, h.o1, h.o2, h.o3, h.o4, h.a13.below hg h.a13.lt, h.a14.below hg h.a14.lt, h.a15.below hg h.a15.lt, h.a16.below hg h.a16.lt, h.a17.below hg h.a17.lt⟩
theorem B5.other {C : List (List (List Int))} {wb wr : World} {tvs : Nat → Value} {g13 g14 g15 g16 g17 m : Nat} (h : B5 C wb tvs wr g13 g14 g15 g16 g17 m) {g : Nat} (hg : g17 < g) (j : Nat) (v : Value) : B5 C wb tvs (wr.setCell ⟨g, j, none⟩ v) g13 g14 g15 g16 g17 m := by
  have := h.ge
  have := h.o1
  have := h.o2
  have := h.o3
  have := h.o4
  have n1 : (⟨g, j, none⟩ : Addr).block ≠ g13 := by simp; omega
  have n2 : (⟨g, j, none⟩ : Addr).block ≠ g14 := by simp; omega
  have n3 : (⟨g, j, none⟩ : Addr).block ≠ g15 := by simp; omega
  have n4 : (⟨g, j, none⟩ : Addr).block ≠ g16 := by simp; omega
  have n5 : (⟨g, j, none⟩ : Addr).block ≠ g17 := by simp; omega
  exact ⟨h.bel.setCell (by simp; omega) _, h.ge, h.o1, h.o2, h.o3, h.o4, h.a13.other n1 v, h.a14.other n2 v, h.a15.other n3 v, h.a16.other n4 v, h.a17.other n5 v⟩

theorem upd_comp {α β : Type} (F : α → β) (o : Nat → α) (j : Nat) (x : α) : upd (fun i => F (o i)) j (F x) = fun i => F (upd o j x i) := by
  funext i
  unfold upd
  split <;> rfl

/-- The five arrays, full, and the order. -/
structure Od (C : List (List (List Int))) (wb : World) (tvs : Nat → Value) (wr : World) (g13 g14 g15 g16 g17 g25 : Nat) (o : Nat → Nat) : Prop where
  b : B5 C wb tvs wr g13 g14 g15 g16 g17 (cN C)
  gt : g17 < g25
  a : FA wr g25 3 (cN C) (fun i => .int .i64 (o i : Nat))

theorem Od.grown {C : List (List (List Int))} {wb wr w' : World} {tvs : Nat → Value} {g13 g14 g15 g16 g17 g25 : Nat} {o : Nat → Nat} (h : Od C wb tvs wr g13 g14 g15 g16 g17 g25 o) (hg : wr.grownBy w' none) : Od C wb tvs w' g13 g14 g15 g16 g17 g25 o := ⟨h.b.grown hg, h.gt, h.a.grown hg⟩
theorem Od.below {C : List (List (List Int))} {wb wr w' : World} {tvs : Nat → Value} {g13 g14 g15 g16 g17 g25 : Nat} {o : Nat → Nat} (h : Od C wb tvs wr g13 g14 g15 g16 g17 g25 o) (hg : Below wr.heap.size wr w') : Od C wb tvs w' g13 g14 g15 g16 g17 g25 o := ⟨h.b.below hg, h.gt, h.a.below hg h.a.lt⟩
theorem Od.other {C : List (List (List Int))} {wb wr : World} {tvs : Nat → Value} {g13 g14 g15 g16 g17 g25 : Nat} {o : Nat → Nat} (h : Od C wb tvs wr g13 g14 g15 g16 g17 g25 o) {g : Nat} (hg : g25 < g) (j : Nat) (v : Value) : Od C wb tvs (wr.setCell ⟨g, j, none⟩ v) g13 g14 g15 g16 g17 g25 o :=
  ⟨h.b.other (by have := h.gt; omega) j v, h.gt, h.a.other (a := ⟨g, j, none⟩) (by simp; omega) v⟩
theorem Od.set {C : List (List (List Int))} {wb wr : World} {tvs : Nat → Value} {g13 g14 g15 g16 g17 g25 : Nat} {o : Nat → Nat} (h : Od C wb tvs wr g13 g14 g15 g16 g17 g25 o) (j x : Nat) {z : Int} (hz : z = (x : Int)) : Od C wb tvs (wr.setCell ⟨g25, j, none⟩ (.int .i64 z)) g13 g14 g15 g16 g17 g25 (upd o j x) := by
  subst hz
  refine ⟨h.b.other h.gt j _, h.gt, ?_⟩
  have := h.a.set j (.int .i64 (x : Nat))
  rw [upd_comp (fun x : Nat => Value.int .i64 (x : Int))] at this
  exact this
theorem Od.swap {C : List (List (List Int))} {wb wr : World} {tvs : Nat → Value} {g13 g14 g15 g16 g17 g25 : Nat} {o : Nat → Nat} (h : Od C wb tvs wr g13 g14 g15 g16 g17 g25 o) (j : Nat) : Od C wb tvs ((wr.setCell ⟨g25, j, none⟩ (.int .i64 (o (j - 1) : Nat))).setCell ⟨g25, j - 1, none⟩ (.int .i64 (o j : Nat))) g13 g14 g15 g16 g17 g25 (swp o j) :=
  (h.set j (o (j - 1)) rfl).set (j - 1) (o j) rfl

theorem less_iff (s t : Int) : decide (s / 18446744073709551616 < t / 18446744073709551616 ∨ s / 18446744073709551616 = t / 18446744073709551616 ∧ s % 18446744073709551616 < t % 18446744073709551616) = decide (s < t) := by
  by_cases h : s < t
  · rw [decide_eq_true h, decide_eq_true]
    omega
  · rw [decide_eq_false h, decide_eq_false]
    omega
end Go.Proofs.Qxb6605431a.cc
