/- countChains' first loop: the heights' rows are made. -/
import Derived.Test.Qxb6605431aCountMem
namespace Go.Proofs.Qxb6605431a.cc
open Go.RowKit

def hvL (r : Run) (hb : Nat → Nat) (k : Nat) : List Value := (List.range r.nc).map fun j => if j < k then rowV (hb j) (r.L j) else .slice none 0 0

theorem hvL_length (r : Run) (hb : Nat → Nat) (k : Nat) : (hvL r hb k).length = r.nc := by simp [hvL]
theorem hvL_get (r : Run) (hb : Nat → Nat) (k j : Nat) (hj : j < r.nc) : (hvL r hb k)[j]? = some (if j < k then rowV (hb j) (r.L j) else .slice none 0 0) := by
  simp [hvL, List.getElem?_map, List.getElem?_range hj]
theorem hvL_zero (r : Run) (hb : Nat → Nat) : List.replicate r.nc (Value.slice none 0 0) = hvL r hb 0 := by
  apply List.ext_getElem?
  intro i
  by_cases hi : i < r.nc
  · rw [hvL_get r hb 0 i hi]; simp [hi]
  · rw [List.getElem?_eq_none (by simp; omega), List.getElem?_eq_none (by rw [hvL_length]; omega)]
theorem hvL_step (r : Run) (hb : Nat → Nat) (k g : Nat) (hk : k < r.nc) : (hvL r hb k).set k (rowV g (r.L k)) = hvL r (upd hb k g) (k + 1) := by
  apply List.ext_getElem?
  intro i
  by_cases hi : i < r.nc
  · rw [hvL_get r _ (k + 1) i hi]
    by_cases e : i = k
    · subst e
      rw [List.getElem?_set_self (by rw [hvL_length]; exact hi)]
      simp [upd]
    · rw [List.getElem?_set_ne (fun h => e h.symm), hvL_get r hb k i hi]
      by_cases h2 : i < k
      · rw [if_pos h2, if_pos (by omega)]; simp [upd, e]
      · rw [if_neg h2, if_neg (by omega)]
  · rw [List.getElem?_eq_none (by rw [List.length_set, hvL_length]; omega), List.getElem?_eq_none (by rw [hvL_length]; omega)]

structure M0 (r : Run) (w0 : World) (g4 g6 g9 g11 : Nat) (hb : Nat → Nat) (w : World) (k : Nat) : Prop where
  bel : Below w0.heap.size w0 w
  b4 : w0.heap.size ≤ g4
  b6 : w0.heap.size ≤ g6
  b9 : w0.heap.size ≤ g9
  b11 : w0.heap.size ≤ g11
  n46 : g4 ≠ g6
  A4 : Arr w g4 37 [.int .u64 0, .int .u64 0, .int .u64 0]
  A6 : Arr w g6 37 [.int .u64 0, .int .u64 0, .int .u64 0]
  A9 : Arr w g9 30 (List.replicate r.nc (.slice none 0 0))
  A11 : Arr w g11 25 (hvL r hb k)
  AH : ∀ j, j < k → w0.heap.size ≤ hb j ∧ Arr w (hb j) 32 (List.replicate (r.L j) (.int .u64 0))
  inj : ∀ j j', j < k → j' < k → hb j = hb j' → j = j'

variable {r : Run} {w0 w w' : World} {g4 g6 g9 g11 : Nat} {hb : Nat → Nat} {k : Nat}

/-- Chain k's row has been made (block g, the last) and is stored. -/
theorem M0.step (h : M0 r w0 g4 g6 g9 g11 hb w k) (hk : k < r.nc) (hA : Arr w' w.heap.size 32 (List.replicate (r.L k) (.int .u64 0))) (hg : w.grownBy w' none) :
    M0 r w0 g4 g6 g9 g11 (upd hb k w.heap.size) (w'.setCell ⟨g11, k, none⟩ (rowV w.heap.size (r.L k))) (k + 1) := by
  have A11 : Arr w' g11 25 (hvL r hb k) := h.A11.grown hg (by simp)
  have kp : ∀ {g : Nat} {e : TypeId} {xs : List Value}, Arr w' g e xs → e ≠ 25 → Arr (w'.setCell ⟨g11, k, none⟩ (rowV w.heap.size (r.L k))) g e xs := fun hA he => hA.other (A11.ne hA (fun e' => he e'.symm)) _
  have hB := h.bel.size
  refine ⟨(h.bel.grown hg hB (by simp)).setCell h.b11 _, h.b4, h.b6, h.b9, h.b11, h.n46, kp (h.A4.grown hg (by simp)) (by decide), kp (h.A6.grown hg (by simp)) (by decide), kp (h.A9.grown hg (by simp)) (by decide), ?_, fun j hj => ?_, fun j j' hj hj' e => ?_⟩
  · have := A11.set k (rowV w.heap.size (r.L k))
    rwa [hvL_step r hb k _ hk] at this
  · by_cases e : j = k
    · subst e
      simp only [upd, if_pos]
      exact ⟨hB, kp hA (by decide)⟩
    · simp only [upd, if_neg e]
      obtain ⟨h1, h2⟩ := h.AH j (by omega)
      exact ⟨h1, kp (h2.grown hg (by simp)) (by decide)⟩
  · by_cases e1 : j = k
    · by_cases e2 : j' = k
      · omega
      · subst e1
        simp only [upd, if_pos, if_neg e2] at e
        have := (h.AH j' (by omega)).2.lt
        omega
    · by_cases e2 : j' = k
      · subst e2
        simp only [upd, if_pos, if_neg e1] at e
        have := (h.AH j (by omega)).2.lt
        omega
      · simp only [upd, if_neg e1, if_neg e2] at e
        exact h.inj j j' (by omega) (by omega) e

theorem M0.done (h : M0 r w0 g4 g6 g9 g11 hb w r.nc) : M r w0 g4 g6 g9 g11 hb w 0 (List.replicate r.nc (.slice none 0 0)) (fun _ _ => 0) (.slice none 0 0) [] (fun _ => 0) (fun _ => False) (fun _ _ => 0) := by
  refine ⟨h.bel, h.b6, h.b9, fun j hj => (h.AH j hj).1, h.A6, h.A4, h.n46, h.A9, by simp, ?_, fun j hj => by rw [← u64V_zero]; exact (h.AH j hj).2, fun j j' hj hj' => h.inj j j' hj hj', World.ownsRow_nil _ _ _ _, fun g hg => by simp at hg, List.nodup_nil, fun p hp => absurd hp id, fun p q hp => absurd hp id⟩
  have : hvL r hb r.nc = (List.range r.nc).map fun j => rowV (hb j) (r.L j) := by
    unfold hvL
    apply List.map_congr_left
    intro j hj
    rw [if_pos (List.mem_range.1 hj)]
  rw [← this]
  exact h.A11
end Go.Proofs.Qxb6605431a.cc
