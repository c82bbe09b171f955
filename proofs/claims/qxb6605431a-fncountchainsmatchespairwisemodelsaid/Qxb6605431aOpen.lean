/- The argument as the row hands it in. -/
import Derived.Test.Qxb6605431aIn
import Derived.Deep.Slices
namespace Go.Proofs.Qxb6605431a.cc
open Go.RowKit Go.ChangeShapes Go.WideShapes Go.Deep

theorem cells24 : Try.prog.cellsOf 24 = 1 := by kernel_rfl
theorem cells25 : Try.prog.cellsOf 25 = 1 := by kernel_rfl
theorem cells32 : Try.prog.cellsOf 32 = 1 := by kernel_rfl

variable {H : Type} {enc : TypeId × Value → H} {W : World}

theorem in1 {fuel : Nat} {v : Value} {x : DataW H × List MemPlace} (h : DataW.trod enc Try.prog W 0 (fun _ => true) true fuel 25 [v] = some x) : ∃ l, In1 W v l := by
  rcases open_slice1 Try.underlying25 cells32 h with ⟨hcs, _⟩ | ⟨a, len, cap, m, n, V, D, Pl, hcs, _, hl, hm, hmm, _, hx⟩
  · obtain rfl : v = .slice none 0 0 := by simpa using hcs
    exact ⟨[], none, 0, 0, rfl, rfl, fun _ => ⟨rfl, rfl⟩, .inl rfl, fun i => by simp, Nat.zero_le _⟩
  · obtain rfl : v = .slice (some a) len cap := by simpa using hcs
    simp only [if_true] at hmm
    subst hmm
    obtain ⟨f, hf⟩ := choose_lt (α := Int) (n := len) (p := fun i z => V i = .int .u64 z ∧ 0 ≤ z ∧ z ≤ 18446744073709551615) (fun i hi => by
      obtain ⟨z, h1, _, h3⟩ := DataW.trod_int Try.underlying32 (hx i (by omega)).2
      refine ⟨z, by simpa using h1, ?_⟩
      have e1 : IntKind.u64.min = 0 := by decide
      have e2 : IntKind.u64.max = 18446744073709551615 := by decide
      simp [Lit.wf] at h3
      rw [e1, e2] at h3
      omega)
    have hget : ∀ j, j < len → ((List.range len).map f).getD j 0 = f j := fun j hj => by
      simp [List.getD, List.getElem?_map, List.getElem?_range hj]
    refine ⟨(List.range len).map f, some a, len, m, rfl, by simp, fun h => by simp at h, ?_, ?_, by omega⟩
    · by_cases h0 : len = 0
      · left; rw [h0]; rfl
      · right
        obtain ⟨b, off, spot⟩ := a
        have hs : spot = none := by simpa [Addr.add] using World.cell?_spot (hx 0 (by omega)).1
        subst hs
        refine ⟨b, off, rfl, fun j hj => ?_⟩
        have hj' : j < len := by simpa using hj
        have := (hx j (by omega)).1
        rw [Addr.add_lit] at this
        rw [this, hget j hj', (hf j hj').1]
    · intro i
      by_cases hi : i < len
      · rw [hget i hi]
        exact (hf i hi).2
      · rw [List.getD_eq_getElem?_getD, List.getElem?_eq_none (by simp; omega)]
        simp

theorem in2 {fuel : Nat} {v : Value} {x : DataW H × List MemPlace} (h : DataW.trod enc Try.prog W 0 (fun _ => true) true fuel 24 [v] = some x) : ∃ l, In2 W v l := by
  rcases open_slice1 Try.underlying24 cells25 h with ⟨hcs, _⟩ | ⟨a, len, cap, m, n, V, D, Pl, hcs, _, hl, hm, hmm, _, hx⟩
  · obtain rfl : v = .slice none 0 0 := by simpa using hcs
    exact ⟨[], none, 0, 0, rfl, rfl, fun _ => ⟨rfl, rfl⟩, Nat.zero_le _, .inl rfl⟩
  · obtain rfl : v = .slice (some a) len cap := by simpa using hcs
    simp only [if_true] at hmm
    subst hmm
    obtain ⟨f, hf⟩ := choose_lt (α := List Int) (n := len) (p := fun i l => In1 W (V i) l) (fun i hi => in1 (hx i (by omega)).2)
    have hget : ∀ j, j < len → ((List.range len).map f).getD j [] = f j := fun j hj => by
      simp [List.getD, List.getElem?_map, List.getElem?_range hj]
    refine ⟨(List.range len).map f, some a, len, m, rfl, by simp, fun h => by simp at h, by omega, ?_⟩
    by_cases h0 : len = 0
    · left; rw [h0]; rfl
    · right
      obtain ⟨b, off, spot⟩ := a
      have hs : spot = none := by simpa [Addr.add] using World.cell?_spot (hx 0 (by omega)).1
      subst hs
      refine ⟨b, off, rfl, fun j hj => ?_⟩
      have hj' : j < len := by simpa using hj
      have := (hx j (by omega)).1
      rw [Addr.add_lit] at this
      exact ⟨V j, this, by rw [hget j hj']; exact hf j hj'⟩

theorem in3 {fuel : Nat} {v : Value} {x : DataW H × List MemPlace} (h : DataW.trod enc Try.prog W 0 (fun _ => true) true fuel 22 [v] = some x) : ∃ l, In3 W v l := by
  rcases open_slice1 Try.underlying22 cells24 h with ⟨hcs, _⟩ | ⟨a, len, cap, m, n, V, D, Pl, hcs, _, hl, hm, hmm, _, hx⟩
  · obtain rfl : v = .slice none 0 0 := by simpa using hcs
    exact ⟨[], none, 0, 0, rfl, rfl, fun _ => ⟨rfl, rfl⟩, Nat.zero_le _, .inl rfl⟩
  · obtain rfl : v = .slice (some a) len cap := by simpa using hcs
    simp only [if_true] at hmm
    subst hmm
    obtain ⟨f, hf⟩ := choose_lt (α := List (List Int)) (n := len) (p := fun i l => In2 W (V i) l) (fun i hi => in2 (hx i (by omega)).2)
    have hget : ∀ j, j < len → ((List.range len).map f).getD j [] = f j := fun j hj => by
      simp [List.getD, List.getElem?_map, List.getElem?_range hj]
    refine ⟨(List.range len).map f, some a, len, m, rfl, by simp, fun h => by simp at h, by omega, ?_⟩
    by_cases h0 : len = 0
    · left; rw [h0]; rfl
    · right
      obtain ⟨b, off, spot⟩ := a
      have hs : spot = none := by simpa [Addr.add] using World.cell?_spot (hx 0 (by omega)).1
      subst hs
      refine ⟨b, off, rfl, fun j hj => ?_⟩
      have hj' : j < len := by simpa using hj
      have := (hx j (by omega)).1
      rw [Addr.add_lit] at this
      exact ⟨V j, this, by rw [hget j hj']; exact hf j hj'⟩
end Go.Proofs.Qxb6605431a.cc
