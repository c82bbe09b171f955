/- The events in a row: plain, and as memory. -/
import Derived.Test.Qxb6605431aIn
namespace Go.Proofs.Qxb6605431a.cc
open Go.RowKit

/-! ### plain -/
def locN (L : Nat → Nat) : Nat → Nat → Nat × Nat
  | 0, i => (0, i)
  | p + 1, i => if sumN L p ≤ i then (p, i - sumN L p) else locN L p i

theorem locN_at (L : Nat → Nat) : ∀ m p k, p < m → k < L p → locN L m (sumN L p + k) = (p, k) := by
  intro m
  induction m with
  | zero => intro p k h; omega
  | succ m ih =>
    intro p k hp hk
    unfold locN
    by_cases e : p = m
    · subst e
      rw [if_pos (by omega)]
      congr 1
      omega
    · have h1 : sumN L (p + 1) ≤ sumN L m := sumN_mono L (by omega)
      have h2 : sumN L (p + 1) = sumN L p + L p := rfl
      rw [if_neg (by omega)]
      exact ih p k (by omega) hk

theorem locN_ex (L : Nat → Nat) : ∀ m i, i < sumN L m → ∃ p k, p < m ∧ k < L p ∧ i = sumN L p + k := by
  intro m
  induction m with
  | zero => intro i h; exact absurd h (by simp [sumN])
  | succ m ih =>
    intro i h
    by_cases e : sumN L m ≤ i
    · have h2 : sumN L (m + 1) = sumN L m + L m := rfl
      exact ⟨m, i - sumN L m, by omega, by omega, by omega⟩
    · obtain ⟨p, k, h1, h2, h3⟩ := ih i (by omega)
      exact ⟨p, k, by omega, h2, h3⟩

def cL (C : List (List (List Int))) (j : Nat) : Nat := (C.getD j []).length
def cS (C : List (List (List Int))) (j k : Nat) : List Int := (C.getD j []).getD k []
def cN (C : List (List (List Int))) : Nat := sumN (cL C) C.length
def eP (C : List (List (List Int))) (i : Nat) : Nat := (locN (cL C) C.length i).1
def eK (C : List (List (List Int))) (i : Nat) : Nat := (locN (cL C) C.length i).2
def eS (C : List (List (List Int))) (i : Nat) : List Int := cS C (eP C i) (eK C i)

theorem e_at {C : List (List (List Int))} {p k : Nat} (hp : p < C.length) (hk : k < cL C p) : eP C (sumN (cL C) p + k) = p ∧ eK C (sumN (cL C) p + k) = k := by
  unfold eP eK
  rw [locN_at _ _ p k hp hk]
  exact ⟨rfl, rfl⟩
theorem e_lt {C : List (List (List Int))} {p k : Nat} (hp : p < C.length) (hk : k < cL C p) : sumN (cL C) p + k < cN C := by
  have h1 : sumN (cL C) (p + 1) ≤ cN C := sumN_mono (cL C) (by omega)
  have h2 : sumN (cL C) (p + 1) = sumN (cL C) p + cL C p := rfl
  omega
theorem e_in {C : List (List (List Int))} {i : Nat} (hi : i < cN C) : eP C i < C.length ∧ eK C i < cL C (eP C i) ∧ i = sumN (cL C) (eP C i) + eK C i := by
  obtain ⟨p, k, h1, h2, h3⟩ := locN_ex (cL C) C.length i hi
  obtain ⟨h4, h5⟩ := e_at h1 h2
  rw [← h3] at h4 h5
  rw [h4, h5]
  exact ⟨h1, h2, h3⟩

/-! ### arrays by functions -/
def fV (n : Nat) (f : Nat → Value) : List Value := (List.range n).map f
theorem fV_length (n : Nat) (f : Nat → Value) : (fV n f).length = n := by simp [fV]
theorem fV_get (n : Nat) (f : Nat → Value) (j : Nat) (h : j < n) : (fV n f)[j]? = some (f j) := by
  simp [fV, List.getElem?_map, List.getElem?_range h]
theorem fV_set (n : Nat) (f : Nat → Value) (j : Nat) (x : Value) : (fV n f).set j x = fV n (upd f j x) := by
  apply List.ext_getElem?
  intro i
  by_cases hi : i < n
  · rw [fV_get n _ i hi]
    by_cases e : i = j
    · subst e
      rw [List.getElem?_set_self (by rw [fV_length]; exact hi)]
      simp [upd]
    · rw [List.getElem?_set_ne (fun h => e h.symm), fV_get n f i hi]
      simp [upd, e]
  · rw [List.getElem?_eq_none (by simp [fV_length]; omega), List.getElem?_eq_none (by simp [fV_length]; omega)]
theorem fV_rep (n : Nat) (v : Value) : List.replicate n v = fV n (fun _ => v) := by
  apply List.ext_getElem?
  intro i
  by_cases hi : i < n
  · rw [fV_get n _ i hi]; simp [hi]
  · rw [List.getElem?_eq_none (by simp; omega), List.getElem?_eq_none (by simp [fV_length]; omega)]
theorem fV_congr (n : Nat) {f g : Nat → Value} (h : ∀ i, i < n → f i = g i) : fV n f = fV n g := by
  apply List.ext_getElem?
  intro i
  by_cases hi : i < n
  · rw [fV_get n _ i hi, fV_get n _ i hi, h i hi]
  · rw [List.getElem?_eq_none (by simp [fV_length]; omega), List.getElem?_eq_none (by simp [fV_length]; omega)]

/-- An array of n elements of one cell, by a function. -/
def FA (w : World) (g : Nat) (e : TypeId) (n : Nat) (f : Nat → Value) : Prop := Arr w g e (fV n f)
theorem FA.cell {w : World} {g n : Nat} {e : TypeId} {f : Nat → Value} (h : FA w g e n f) (j : Nat) (hj : j < n) : w.cell? ⟨g, j, none⟩ = some (f j) := by
  rw [Arr.cell h, fV_get n f j hj]
theorem FA.free {w : World} {g n : Nat} {e : TypeId} {f : Nat → Value} (h : FA w g e n f) (j : Nat) : w.frozen? ⟨g, j, none⟩ = false := Arr.free h j
theorem FA.lt {w : World} {g n : Nat} {e : TypeId} {f : Nat → Value} (h : FA w g e n f) : g < w.heap.size := Arr.lt h
theorem FA.set {w : World} {g n : Nat} {e : TypeId} {f : Nat → Value} (h : FA w g e n f) (j : Nat) (v : Value) : FA (w.setCell ⟨g, j, none⟩ v) g e n (upd f j v) := by
  have := Arr.set h j v
  rw [fV_set] at this
  exact this
theorem FA.other {w : World} {g n : Nat} {e : TypeId} {f : Nat → Value} (h : FA w g e n f) {a : Addr} (hne : a.block ≠ g) (v : Value) : FA (w.setCell a v) g e n f := Arr.other h hne v
theorem FA.grown {w w' : World} {g n : Nat} {e : TypeId} {f : Nat → Value} (h : FA w g e n f) (hg : w.grownBy w' none) : FA w' g e n f := Arr.grown h hg (by simp)
theorem FA.below {B : Nat} {w w' : World} {g n : Nat} {e : TypeId} {f : Nat → Value} (h : FA w g e n f) (hb : Below B w w') (hB : g < B) : FA w' g e n f := Arr.below h hb hB
theorem FA.made {w : World} {g n : Nat} {e : TypeId} {v : Value} (h : Arr w g e (List.replicate n v)) : FA w g e n (fun _ => v) := by
  rw [fV_rep] at h
  exact h

/-- The value of stamp i, where the copies lie in world wb: chosen. -/
def Stv (C : List (List (List Int))) (wb : World) (tvs : Nat → Value) : Prop := ∀ i, i < cN C → TsA wb (tvs i) (eS C i)

/-- The five arrays, m of them filled. -/
structure B5 (C : List (List (List Int))) (wb : World) (tvs : Nat → Value) (wr : World) (g13 g14 g15 g16 g17 m : Nat) : Prop where
  bel : Below wb.heap.size wb wr
  ge : wb.heap.size ≤ g13
  o1 : g13 < g14
  o2 : g14 < g15
  o3 : g15 < g16
  o4 : g16 < g17
  a13 : FA wr g13 31 (cN C) (fun i => if i < m then tvs i else .slice none 0 0)
  a14 : FA wr g14 3 (cN C) (fun i => if i < m then .int .i64 (eP C i : Nat) else .int .i64 0)
  a15 : FA wr g15 3 (cN C) (fun i => if i < m then .int .i64 (eK C i : Nat) else .int .i64 0)
  a16 : FA wr g16 32 (cN C) (fun i => if i < m then .int .u64 (sumZ (eS C i) / 18446744073709551616) else .int .u64 0)
  a17 : FA wr g17 32 (cN C) (fun i => if i < m then .int .u64 (sumZ (eS C i) % 18446744073709551616) else .int .u64 0)

theorem upd_fill {α : Type} (f : Nat → α) (z : α) (m : Nat) : upd (fun i => if i < m then f i else z) m (f m) = fun i => if i < m + 1 then f i else z := by
  funext i
  unfold upd
  by_cases e : i = m
  · subst e; simp
  · rw [if_neg e]
    show (if i < m then f i else z) = _
    by_cases h : i < m
    · rw [if_pos h, if_pos (by omega)]
    · rw [if_neg h, if_neg (by omega)]

theorem B5.step {C : List (List (List Int))} {wb wr : World} {tvs : Nat → Value} {g13 g14 g15 g16 g17 m : Nat} (h : B5 C wb tvs wr g13 g14 g15 g16 g17 m) {v : Value} {z1 z2 z3 z4 : Int} (hv : v = tvs m)
    (h1 : z1 = (eP C m : Int)) (h2 : z2 = (eK C m : Int)) (h3 : z3 = sumZ (eS C m) / 18446744073709551616) (h4 : z4 = sumZ (eS C m) % 18446744073709551616) :
    B5 C wb tvs (((((wr.setCell ⟨g13, m, none⟩ v).setCell ⟨g14, m, none⟩ (.int .i64 z1)).setCell ⟨g15, m, none⟩ (.int .i64 z2)).setCell ⟨g16, m, none⟩ (.int .u64 z3)).setCell ⟨g17, m, none⟩ (.int .u64 z4)) g13 g14 g15 g16 g17 (m + 1) := by
  subst hv h1 h2 h3 h4
  have := h.ge
  have := h.o1
  have := h.o2
  have := h.o3
  have := h.o4
  have n1 : g13 ≠ g14 := by omega
  have n2 : g13 ≠ g15 := by omega
  have n3 : g13 ≠ g16 := by omega
  have n4 : g13 ≠ g17 := by omega
  have n5 : g14 ≠ g15 := by omega
  have n6 : g14 ≠ g16 := by omega
  have n7 : g14 ≠ g17 := by omega
  have n8 : g15 ≠ g16 := by omega
  have n9 : g15 ≠ g17 := by omega
  have n0 : g16 ≠ g17 := by omega
  refine ⟨((((h.bel.setCell (by simpa using h.ge) _).setCell (by simp; omega) _).setCell (by simp; omega) _).setCell (by simp; omega) _).setCell (by simp; omega) _, h.ge, h.o1, h.o2, h.o3, h.o4, ?_, ?_, ?_, ?_, ?_⟩
  · have := ((((h.a13.set m (tvs m)).other (a := ⟨g14, m, none⟩) n1.symm (.int .i64 (eP C m : Int))).other (a := ⟨g15, m, none⟩) n2.symm (.int .i64 (eK C m : Int))).other (a := ⟨g16, m, none⟩) n3.symm (.int .u64 (sumZ (eS C m) / 18446744073709551616))).other (a := ⟨g17, m, none⟩) n4.symm (.int .u64 (sumZ (eS C m) % 18446744073709551616))
    rw [upd_fill] at this
    exact this
  · have := ((((h.a14.other (a := ⟨g13, m, none⟩) n1 (tvs m)).set m (.int .i64 (eP C m : Int))).other (a := ⟨g15, m, none⟩) n5.symm (.int .i64 (eK C m : Int))).other (a := ⟨g16, m, none⟩) n6.symm (.int .u64 (sumZ (eS C m) / 18446744073709551616))).other (a := ⟨g17, m, none⟩) n7.symm (.int .u64 (sumZ (eS C m) % 18446744073709551616))
    rw [upd_fill (fun i => Value.int .i64 (eP C i : Nat))] at this
    exact this
  · have := ((((h.a15.other (a := ⟨g13, m, none⟩) n2 (tvs m)).other (a := ⟨g14, m, none⟩) n5 (.int .i64 (eP C m : Int))).set m (.int .i64 (eK C m : Int))).other (a := ⟨g16, m, none⟩) n8.symm (.int .u64 (sumZ (eS C m) / 18446744073709551616))).other (a := ⟨g17, m, none⟩) n9.symm (.int .u64 (sumZ (eS C m) % 18446744073709551616))
    rw [upd_fill (fun i => Value.int .i64 (eK C i : Nat))] at this
    exact this
  · have := ((((h.a16.other (a := ⟨g13, m, none⟩) n3 (tvs m)).other (a := ⟨g14, m, none⟩) n6 (.int .i64 (eP C m : Int))).other (a := ⟨g15, m, none⟩) n8 (.int .i64 (eK C m : Int))).set m (.int .u64 (sumZ (eS C m) / 18446744073709551616))).other (a := ⟨g17, m, none⟩) n0.symm (.int .u64 (sumZ (eS C m) % 18446744073709551616))
    rw [upd_fill (fun i => Value.int .u64 (sumZ (eS C i) / 18446744073709551616))] at this
    exact this
  · have := ((((h.a17.other (a := ⟨g13, m, none⟩) n4 (tvs m)).other (a := ⟨g14, m, none⟩) n7 (.int .i64 (eP C m : Int))).other (a := ⟨g15, m, none⟩) n9 (.int .i64 (eK C m : Int))).other (a := ⟨g16, m, none⟩) n0 (.int .u64 (sumZ (eS C m) / 18446744073709551616))).set m (.int .u64 (sumZ (eS C m) % 18446744073709551616))
    rw [upd_fill (fun i => Value.int .u64 (sumZ (eS C i) % 18446744073709551616))] at this
    exact this

/-! ### what the copy is -/
def CpF (C : List (List (List Int))) (wb : World) (ac : Option Addr) (tvs : Nat → Value) : Prop :=
  0 < C.length → ∃ g, ac = some ⟨g, 0, none⟩ ∧ ∀ p, p < C.length → ∃ aj, wb.cell? ⟨g, p, none⟩ = some (.slice aj (cL C p) (cL C p)) ∧
    (0 < cL C p → ∃ gj, aj = some ⟨gj, 0, none⟩ ∧ ∀ k, k < cL C p → wb.cell? ⟨gj, k, none⟩ = some (tvs (sumN (cL C) p + k)) ∧ TsA wb (tvs (sumN (cL C) p + k)) (cS C p k))

def rowTv (wb : World) (v : Value) (k : Nat) : Value :=
  match v with
  | .slice (some a) _ _ => (wb.cell? ⟨a.block, k, none⟩).getD (.slice none 0 0)
  | _ => .slice none 0 0

theorem CopyP.facts {C : List (List (List Int))} {w w' : World} {e : Ending} (h : CopyP C w e w') : ∃ ac tvs, e = .returned (.slice ac C.length C.length) ∧ Below w.heap.size w w' ∧ CpF C w' ac tvs := by
  obtain ⟨ac, he, hb, hc⟩ := h
  by_cases h0 : 0 < C.length
  · obtain ⟨g, xs, hac, hA, hl, hr⟩ := hc h0
    refine ⟨ac, fun i => rowTv w' ((w'.cell? ⟨g, eP C i, none⟩).getD (.slice none 0 0)) (eK C i), he, hb, fun _ => ⟨g, hac, fun p hp => ?_⟩⟩
    obtain ⟨v, hv, hrow⟩ := hr p hp
    have hcell : w'.cell? ⟨g, p, none⟩ = some v := by rw [hA.cell, hv]
    rcases hrow with ⟨h1, h2⟩ | ⟨gj, ys, h1, h2, h3, h4⟩
    · have hL : cL C p = 0 := by unfold cL; rw [h2]; rfl
      refine ⟨none, ?_, fun h => absurd h (by omega)⟩
      rw [hcell, h1, hL]
    · refine ⟨some ⟨gj, 0, none⟩, by rw [hcell, h1]; rfl, fun hL => ⟨gj, rfl, fun k hk => ?_⟩⟩
      obtain ⟨tv, h5, h6⟩ := h4 k hk
      obtain ⟨e1, e2⟩ := e_at hp hk
      have e3 : rowTv w' ((w'.cell? ⟨g, eP C (sumN (cL C) p + k), none⟩).getD (.slice none 0 0)) (eK C (sumN (cL C) p + k)) = tv := by
        rw [e1, e2, hcell, h1]
        show (w'.cell? ⟨gj, k, none⟩).getD _ = tv
        rw [h2.cell, h5]
        rfl
      refine ⟨?_, ?_⟩
      · show _ = some (rowTv w' _ _)
        rw [e3, h2.cell, h5]
      · show TsA w' (rowTv w' _ _) _
        rw [e3]
        exact h6
  · exact ⟨ac, fun _ => .slice none 0 0, he, hb, fun h => absurd h h0⟩

theorem CpF.stv {C : List (List (List Int))} {wb : World} {ac : Option Addr} {tvs : Nat → Value} (h : CpF C wb ac tvs) : Stv C wb tvs := by
  intro i hi
  obtain ⟨h1, h2, h3⟩ := e_in hi
  obtain ⟨g, _, hg⟩ := h (by omega)
  obtain ⟨aj, _, ha⟩ := hg _ h1
  obtain ⟨gj, _, hgj⟩ := ha (by omega)
  obtain ⟨_, h4⟩ := hgj _ h2
  rw [← h3] at h4
  exact h4

theorem CpF.chn {C : List (List (List Int))} {wb : World} {ac : Option Addr} {tvs : Nat → Value} (h : CpF C wb ac tvs) {r : Run} (hr : r.C = C) (hl : ∀ j k, (cS C j k).length ≤ 131072) (hu : ∀ j k, U64 (cS C j k)) : Chn r wb (.slice ac C.length C.length) := by
  subst hr
  refine ⟨ac, _, rfl, fun h0 => ?_⟩
  obtain ⟨g, hg, hp⟩ := h h0
  refine ⟨g, hg, fun j hj => ?_⟩
  obtain ⟨aj, h1, h2⟩ := hp j hj
  refine ⟨aj, h1, fun hL => ?_⟩
  obtain ⟨gj, h3, h4⟩ := h2 hL
  refine ⟨gj, h3, fun k hk => ?_⟩
  obtain ⟨h5, h6⟩ := h4 k hk
  exact ⟨_, h5, h6.ts (hl j k) (hu j k)⟩

theorem B5.start {C : List (List (List Int))} {wb w1 w2 w3 w4 w5 : World} (tvs : Nat → Value)
    (A1 : Arr w1 wb.heap.size 31 (List.replicate (cN C) (.slice none 0 0))) (G1 : wb.grownBy w1 none)
    (A2 : Arr w2 w1.heap.size 3 (List.replicate (cN C) (.int .i64 0))) (G2 : w1.grownBy w2 none)
    (A3 : Arr w3 w2.heap.size 3 (List.replicate (cN C) (.int .i64 0))) (G3 : w2.grownBy w3 none)
    (A4 : Arr w4 w3.heap.size 32 (List.replicate (cN C) (.int .u64 0))) (G4 : w3.grownBy w4 none)
    (A5 : Arr w5 w4.heap.size 32 (List.replicate (cN C) (.int .u64 0))) (G5 : w4.grownBy w5 none) :
    B5 C wb tvs w5 wb.heap.size w1.heap.size w2.heap.size w3.heap.size w4.heap.size 0 := by
  have b1 : Below wb.heap.size wb w1 := (Below.refl _ _).grown G1 (Nat.le_refl _) (by simp)
  have b2 : Below wb.heap.size wb w2 := b1.grown G2 b1.size (by simp)
  have b3 : Below wb.heap.size wb w3 := b2.grown G3 b2.size (by simp)
  have b4 : Below wb.heap.size wb w4 := b3.grown G4 b3.size (by simp)
  have b5 : Below wb.heap.size wb w5 := b4.grown G5 b4.size (by simp)
  have e : ∀ (f : Nat → Value) (z : Value), (fun i => if i < 0 then f i else z) = fun _ => z := fun f z => by funext i; simp
  refine ⟨b5, Nat.le_refl _, A1.lt, A2.lt, A3.lt, A4.lt, ?_, ?_, ?_, ?_, ?_⟩
  · rw [e]; exact ((((FA.made A1).grown G2).grown G3).grown G4).grown G5
  · rw [e]; exact (((FA.made A2).grown G3).grown G4).grown G5
  · rw [e]; exact ((FA.made A3).grown G4).grown G5
  · rw [e]; exact (FA.made A4).grown G5
  · rw [e]; exact FA.made A5

theorem In3.u {w : World} {v : Value} {C : List (List (List Int))} (h : In3 w v C) : ∀ j k, U64 (cS C j k) := by
  intro j k
  have nilU : U64 [] := fun i => by simp
  unfold cS
  obtain ⟨_, _, _, _, _, _, _, h⟩ := h
  by_cases hj : j < C.length
  · rcases h with h | ⟨b, off, _, h⟩
    · subst h; simp at hj
    · obtain ⟨tv, _, h2⟩ := h j hj
      obtain ⟨_, _, _, _, _, _, _, h2⟩ := h2
      by_cases hk : k < (C.getD j []).length
      · rcases h2 with h2 | ⟨b, off, _, h2⟩
        · rw [h2] at hk; simp at hk
        · obtain ⟨tv, _, h3⟩ := h2 k hk
          obtain ⟨_, _, _, _, _, _, _, h3, _⟩ := h3
          exact h3
      · rw [List.getD_eq_getElem?_getD (l := C.getD j []), List.getElem?_eq_none (by omega)]
        exact nilU
  · rw [List.getD_eq_getElem?_getD (l := C), List.getElem?_eq_none (by omega)]
    simpa using nilU
end Go.Proofs.Qxb6605431a.cc
