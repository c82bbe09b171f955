/- What countChains' memory holds at a round's head, and how each store turns it. -/
import Derived.Test.Qxb6605431aTake
import Derived.Test.Qxb6605431aRun3
namespace Go.Proofs.Qxb6605431a.cc
open Go.RowKit

def rowV (g nc : Nat) : Value := .slice (some ⟨g, 0, none⟩) nc nc
def intsV (nc : Nat) (f : Nat → Nat) : List Value := (List.range nc).map fun j => .int .i64 (f j : Nat)
def upd {α : Type} (f : Nat → α) (p : Nat) (x : α) : Nat → α := fun q => if q = p then x else f q

theorem intsV_length (nc : Nat) (f : Nat → Nat) : (intsV nc f).length = nc := by simp [intsV]
theorem intsV_get (nc : Nat) (f : Nat → Nat) (j : Nat) (h : j < nc) : (intsV nc f)[j]? = some (.int .i64 (f j : Nat)) := by
  simp [intsV, List.getElem?_map, List.getElem?_range h]
theorem intsV_set (nc : Nat) (f : Nat → Nat) (j x : Nat) : (intsV nc f).set j (.int .i64 (x : Nat)) = intsV nc (upd f j x) := by
  apply List.ext_getElem?
  intro i
  by_cases hi : i < nc
  · rw [intsV_get nc _ i hi]
    by_cases e : i = j
    · subst e
      rw [List.getElem?_set_self (by rw [intsV_length]; exact hi)]
      simp [upd]
    · rw [List.getElem?_set_ne (fun h => e h.symm), intsV_get nc f i hi]
      simp [upd, e]
  · rw [List.getElem?_eq_none (by simp [intsV_length]; omega), List.getElem?_eq_none (by simp [intsV_length]; omega)]
theorem intsV_zero (nc : Nat) : List.replicate nc (Value.int .i64 0) = intsV nc (fun _ => 0) := by
  apply List.ext_getElem?
  intro i
  by_cases hi : i < nc
  · rw [intsV_get nc _ i hi]; simp [hi]
  · rw [List.getElem?_eq_none (by simp; omega), List.getElem?_eq_none (by simp [intsV_length]; omega)]

def u64V (n : Nat) (f : Nat → Nat) : List Value := (List.range n).map fun k => .int .u64 (f k : Nat)
theorem u64V_length (n : Nat) (f : Nat → Nat) : (u64V n f).length = n := by simp [u64V]
theorem u64V_get (n : Nat) (f : Nat → Nat) (j : Nat) (h : j < n) : (u64V n f)[j]? = some (.int .u64 (f j : Nat)) := by
  simp [u64V, List.getElem?_map, List.getElem?_range h]
theorem u64V_set (n : Nat) (f : Nat → Nat) (j x : Nat) : (u64V n f).set j (.int .u64 (x : Nat)) = u64V n (upd f j x) := by
  apply List.ext_getElem?
  intro i
  by_cases hi : i < n
  · rw [u64V_get n _ i hi]
    by_cases e : i = j
    · subst e
      rw [List.getElem?_set_self (by rw [u64V_length]; exact hi)]
      simp [upd]
    · rw [List.getElem?_set_ne (fun h => e h.symm), u64V_get n f i hi]
      simp [upd, e]
  · rw [List.getElem?_eq_none (by simp [u64V_length]; omega), List.getElem?_eq_none (by simp [u64V_length]; omega)]
theorem u64V_zero (n : Nat) : List.replicate n (Value.int .u64 0) = u64V n (fun _ => 0) := by
  apply List.ext_getElem?
  intro i
  by_cases hi : i < n
  · rw [u64V_get n _ i hi]; simp [hi]
  · rw [List.getElem?_eq_none (by simp; omega), List.getElem?_eq_none (by simp [u64V_length]; omega)]

structure M (r : Run) (w0 : World) (g4 g6 g9 g11 : Nat) (hb : Nat → Nat) (w : World) (O : Nat) (am : List Value) (hx : Nat → Nat → Nat) (sv : Value) (SP : List Nat) (rw : Nat → Nat) (act : Nat → Prop) (rc : Nat → Nat → Nat) : Prop where
  bel : Below w0.heap.size w0 w
  b6 : w0.heap.size ≤ g6
  b9 : w0.heap.size ≤ g9
  bh : ∀ j, j < r.nc → w0.heap.size ≤ hb j
  A6 : Arr w g6 37 [.int .u64 (O : Nat), .int .u64 0, .int .u64 0]
  A4 : Arr w g4 37 [.int .u64 0, .int .u64 0, .int .u64 0]
  n46 : g4 ≠ g6
  A9 : Arr w g9 30 am
  aml : am.length = r.nc
  A11 : Arr w g11 25 ((List.range r.nc).map fun j => rowV (hb j) (r.L j))
  AH : ∀ j, j < r.nc → Arr w (hb j) 32 (u64V (r.L j) (hx j))
  hinj : ∀ j j', j < r.nc → j' < r.nc → hb j = hb j' → j = j'
  own : w.ownsRow (g9 + 1) 30 1 sv SP.length (SP.map fun g => rowV g r.nc)
  sp : ∀ g, g ∈ SP → w0.heap.size ≤ g ∧ ∃ zs : List Value, zs.length = r.nc ∧ Arr w g 3 zs
  nd : SP.Nodup
  rows : ∀ p, act p → p < r.nc ∧ w0.heap.size ≤ rw p ∧ rw p ∉ SP ∧ Arr w (rw p) 3 (intsV r.nc (rc p)) ∧ am[p]? = some (rowV (rw p) r.nc)
  dis : ∀ p q, act p → act q → p ≠ q → rw p ≠ rw q

variable {r : Run} {w0 w w' : World} {g4 g6 g9 g11 : Nat} {hb : Nat → Nat} {O : Nat} {am : List Value} {hx : Nat → Nat → Nat} {sv : Value} {SP : List Nat} {rw : Nat → Nat} {act : Nat → Prop} {rc : Nat → Nat → Nat}

/-- The spare's block has elements of another type than rows, heights and counts. -/
theorem M.own_ne (h : M r w0 g4 g6 g9 g11 hb w O am hx sv SP rw act rc) {g : Nat} {e : TypeId} {xs : List Value} (hA : Arr w g e xs) (he : e ≠ 30) : sv.ownBlock = none ∨ sv.ownBlock ≠ some g := by
  right
  intro hs
  rcases h.own.2 with ⟨rfl, _⟩ | ⟨g', cap, cur, rfl, _, hh, _⟩
  · simp [Value.ownBlock] at hs
  · simp [Value.ownBlock] at hs
    subst hs
    unfold Arr at hA
    rw [hh] at hA
    simp at hA
    exact he hA.2.symm

theorem M.ns (h : M r w0 g4 g6 g9 g11 hb w O am hx sv SP rw act rc) : sv.ownBlock ≠ some g9 := by
  intro hs
  have := (h.own.lt g9 hs).1
  omega

theorem M.kept (h : M r w0 g4 g6 g9 g11 hb w O am hx sv SP rw act rc) (hg : w.grownBy w' none) : M r w0 g4 g6 g9 g11 hb w' O am hx sv SP rw act rc :=
  ⟨h.bel.grown hg h.bel.size (by simp), h.b6, h.b9, h.bh, h.A6.grown hg (by simp), h.A4.grown hg (by simp), h.n46, h.A9.grown hg (by simp), h.aml, h.A11.grown hg (by simp), fun j hj => (h.AH j hj).grown hg (by simp), h.hinj,
    h.own.kept hg (by cases sv.ownBlock <;> simp), fun g hgm => ⟨(h.sp g hgm).1, by obtain ⟨zs, h1, h2⟩ := (h.sp g hgm).2; exact ⟨zs, h1, h2.grown hg (by simp)⟩⟩, h.nd,
    fun p hp => by obtain ⟨h1, h2, h3, h4, h5⟩ := h.rows p hp; exact ⟨h1, h2, h3, h4.grown hg (by simp), h5⟩, h.dis⟩

/-- A store into the counts. -/
theorem M.setC (h : M r w0 g4 g6 g9 g11 hb w O am hx sv SP rw act rc) (O' : Nat) {z : Int} (hz : z = (O' : Int)) : M r w0 g4 g6 g9 g11 hb (w.setCell ⟨g6, 0, none⟩ (.int .u64 z)) O' am hx sv SP rw act rc := by
  subst hz
  have hg := grownBy_setCell w ⟨g6, 0, none⟩ (.int .u64 (O' : Int))
  have k : ∀ {g : Nat} {e : TypeId} {xs : List Value}, Arr w g e xs → e ≠ 37 → Arr (w.setCell ⟨g6, 0, none⟩ (.int .u64 (O' : Int))) g e xs := fun hA he => hA.other (h.A6.ne hA (fun e' => he e'.symm)) _
  exact ⟨h.bel.setCell h.b6 _, h.b6, h.b9, h.bh, h.A6.set 0 _, h.A4.other (fun e => h.n46 e.symm) _, h.n46, k h.A9 (by decide), h.aml, k h.A11 (by decide), fun j hj => k (h.AH j hj) (by decide), h.hinj,
    h.own.kept hg (h.own_ne h.A6 (by decide)), fun g hgm => ⟨(h.sp g hgm).1, by obtain ⟨zs, h1, h2⟩ := (h.sp g hgm).2; exact ⟨zs, h1, k h2 (by decide)⟩⟩, h.nd,
    fun p hp => by obtain ⟨h1, h2, h3, h4, h5⟩ := h.rows p hp; exact ⟨h1, h2, h3, k h4 (by decide), h5⟩, h.dis⟩

/-- A store into a row that is under way. -/
theorem M.setRow (h : M r w0 g4 g6 g9 g11 hb w O am hx sv SP rw act rc) {p : Nat} (hp : act p) (j x : Nat) {z : Int} (hz : z = (x : Int)) : M r w0 g4 g6 g9 g11 hb (w.setCell ⟨rw p, j, none⟩ (.int .i64 z)) O am hx sv SP rw act (upd rc p (upd (rc p) j x)) := by
  subst hz
  obtain ⟨p1, p2, p3, p4, p5⟩ := h.rows p hp
  have hg := grownBy_setCell w ⟨rw p, j, none⟩ (.int .i64 (x : Int))
  have k : ∀ {g : Nat} {e : TypeId} {xs : List Value}, Arr w g e xs → e ≠ 3 → Arr (w.setCell ⟨rw p, j, none⟩ (.int .i64 (x : Int))) g e xs := fun hA he => hA.other (p4.ne hA (fun e' => he e'.symm)) _
  refine ⟨h.bel.setCell p2 _, h.b6, h.b9, h.bh, k h.A6 (by decide), k h.A4 (by decide), h.n46, k h.A9 (by decide), h.aml, k h.A11 (by decide), fun j hj => k (h.AH j hj) (by decide), h.hinj,
    h.own.kept hg (h.own_ne p4 (by decide)), fun g hgm => ⟨(h.sp g hgm).1, ?_⟩, h.nd, fun q hq => ?_, h.dis⟩
  · obtain ⟨zs, h1, h2⟩ := (h.sp g hgm).2
    exact ⟨zs, h1, h2.other (fun e => p3 (by rw [show rw p = g from e]; exact hgm)) _⟩
  · obtain ⟨h1, h2, h3, h4, h5⟩ := h.rows q hq
    refine ⟨h1, h2, h3, ?_, h5⟩
    by_cases e : q = p
    · subst e
      have := p4.set j (.int .i64 (x : Int))
      rw [intsV_set] at this
      simpa [upd] using this
    · have := h4.other (a := ⟨rw p, j, none⟩) (h.dis p q hp hq (fun e' => e e'.symm)) (.int .i64 (x : Int))
      simpa [upd, e] using this

/-- A store into a heights' row. -/
theorem M.setH (h : M r w0 g4 g6 g9 g11 hb w O am hx sv SP rw act rc) {p : Nat} (hp : p < r.nc) (k x : Nat) {z : Int} (hz : z = (x : Int)) : M r w0 g4 g6 g9 g11 hb (w.setCell ⟨hb p, k, none⟩ (.int .u64 z)) O am (upd hx p (upd (hx p) k x)) sv SP rw act rc := by
  subst hz
  have p4 := h.AH p hp
  have hg := grownBy_setCell w ⟨hb p, k, none⟩ (.int .u64 (x : Int))
  have kk : ∀ {g : Nat} {e : TypeId} {xs : List Value}, Arr w g e xs → e ≠ 32 → Arr (w.setCell ⟨hb p, k, none⟩ (.int .u64 (x : Int))) g e xs := fun hA he => hA.other (p4.ne hA (fun e' => he e'.symm)) _
  refine ⟨h.bel.setCell (h.bh p hp) _, h.b6, h.b9, h.bh, kk h.A6 (by decide), kk h.A4 (by decide), h.n46, kk h.A9 (by decide), h.aml, kk h.A11 (by decide), fun j hj => ?_, h.hinj,
    h.own.kept hg (h.own_ne p4 (by decide)), fun g hgm => ⟨(h.sp g hgm).1, ?_⟩, h.nd, fun q hq => ?_, h.dis⟩
  · by_cases e : j = p
    · subst e
      have := p4.set k (.int .u64 (x : Int))
      rw [u64V_set] at this
      simpa [upd] using this
    · have := (h.AH j hj).other (a := ⟨hb p, k, none⟩) (fun e' => e (h.hinj p j hp hj e').symm) (.int .u64 (x : Int))
      simpa [upd, e] using this
  · obtain ⟨zs, h1, h2⟩ := (h.sp g hgm).2
    exact ⟨zs, h1, kk h2 (by decide)⟩
  · obtain ⟨h1, h2, h3, h4, h5⟩ := h.rows q hq
    exact ⟨h1, h2, h3, kk h4 (by decide), h5⟩

/-- A row is given out: it is stored into atMost[p]. The row is no spare any more, and nobody else's. -/
theorem M.give (h : M r w0 g4 g6 g9 g11 hb w O am hx sv SP rw act rc) {p gr : Nat} (hp : p < r.nc) (hna : ¬ act p) (hgr : w0.heap.size ≤ gr) (hsp : gr ∉ SP) (hA : Arr w gr 3 (intsV r.nc fun _ => 0)) (hd : ∀ q, act q → rw q ≠ gr) :
    M r w0 g4 g6 g9 g11 hb (w.setCell ⟨g9, p, none⟩ (rowV gr r.nc)) O (am.set p (rowV gr r.nc)) hx sv SP (upd rw p gr) (fun q => q = p ∨ act q) (upd rc p fun _ => 0) := by
  have hg := grownBy_setCell w ⟨g9, p, none⟩ (rowV gr r.nc)
  have k : ∀ {g : Nat} {e : TypeId} {xs : List Value}, Arr w g e xs → e ≠ 30 → Arr (w.setCell ⟨g9, p, none⟩ (rowV gr r.nc)) g e xs := fun hA he => hA.other (h.A9.ne hA (fun e' => he e'.symm)) _
  refine ⟨h.bel.setCell h.b9 _, h.b6, h.b9, h.bh, k h.A6 (by decide), k h.A4 (by decide), h.n46, h.A9.set p _, by rw [List.length_set]; exact h.aml, k h.A11 (by decide), fun j hj => k (h.AH j hj) (by decide), h.hinj,
    h.own.kept hg (.inr h.ns), fun g hgm => ⟨(h.sp g hgm).1, by obtain ⟨zs, h1, h2⟩ := (h.sp g hgm).2; exact ⟨zs, h1, k h2 (by decide)⟩⟩, h.nd, ?_, ?_⟩
  · intro q hq
    by_cases e : q = p
    · subst e
      simp only [upd, if_pos]
      exact ⟨hp, hgr, hsp, k hA (by decide), by rw [List.getElem?_set_self (by rw [h.aml]; exact hp)]⟩
    · rcases hq with hq | hq
      · exact absurd hq e
      · obtain ⟨h1, h2, h3, h4, h5⟩ := h.rows q hq
        simp only [upd, if_neg e]
        exact ⟨h1, h2, h3, k h4 (by decide), by rw [List.getElem?_set_ne (fun e' => e e'.symm)]; exact h5⟩
  · intro q q' hq hq' hne
    by_cases e : q = p
    · subst e
      rcases hq' with hq' | hq'
      · exact absurd hq'.symm hne
      · simp only [upd, if_pos, if_neg (fun e' : q' = q => hne e'.symm)]
        exact fun e' => hd q' hq' e'.symm
    · rcases hq with hq | hq
      · exact absurd hq e
      · by_cases e2 : q' = p
        · subst e2
          simp only [upd, if_pos, if_neg e]
          exact hd q hq
        · rcases hq' with hq' | hq'
          · exact absurd hq' e2
          · simp only [upd, if_neg e, if_neg e2]
            exact h.dis q q' hq hq' hne

/-- The spare's shape. -/
theorem M.spare0 (h : M r w0 g4 g6 g9 g11 hb w O am hx sv [] rw act rc) : ∃ ao c, sv = .slice ao 0 c := by
  rcases h.own.2 with ⟨h1, _⟩ | ⟨g, cap, cur, h1, _⟩
  · exact ⟨none, 0, h1⟩
  · exact ⟨_, cap, h1⟩
theorem M.spare1 {gr : Nat} (h : M r w0 g4 g6 g9 g11 hb w O am hx sv (SP ++ [gr]) rw act rc) : ∃ gs cs, sv = .slice (some ⟨gs, 0, none⟩) (SP.length + 1) cs ∧ SP.length < cs ∧ w.cell? ⟨gs, SP.length, none⟩ = some (rowV gr r.nc) := by
  have hown := h.own
  rw [show (SP ++ [gr]).length = SP.length + 1 by simp] at hown
  rcases hown.2 with ⟨_, h1⟩ | ⟨g, cap, cur, h1, _, _, hn, _⟩
  · omega
  · subst h1
    refine ⟨g, cap, rfl, by omega, ?_⟩
    rw [hown.cellAt SP.length (by omega)]
    simp

/-- The last spare row is taken and cleared. -/
theorem M.pop {gr gs cs : Nat} (h : M r w0 g4 g6 g9 g11 hb w O am hx (.slice (some ⟨gs, 0, none⟩) (SP.length + 1) cs) (SP ++ [gr]) rw act rc) (hg : w.grownBy w' (some gr)) :
    M r w0 g4 g6 g9 g11 hb w' O am hx (.slice (some ⟨gs, 0, none⟩) SP.length cs) SP rw act rc := by
  obtain ⟨z1, zs, z2, z3⟩ := h.sp gr (by simp)
  have k : ∀ {g : Nat} {e : TypeId} {xs : List Value}, Arr w g e xs → e ≠ 3 → Arr w' g e xs := fun hA he => hA.grown hg (fun e' => z3.ne hA (fun e'' => he e''.symm) (by simpa using e'))
  have hnd := h.nd
  rw [List.nodup_append] at hnd
  have hnot : ∀ g, g ∈ SP → gr ≠ g := fun g hgm e => hnd.2.2 g hgm gr (by simp) e.symm
  refine ⟨h.bel.grown hg h.bel.size (fun k hk => by simp at hk; omega), h.b6, h.b9, h.bh, k h.A6 (by decide), k h.A4 (by decide), h.n46, k h.A9 (by decide), h.aml, k h.A11 (by decide), fun j hj => k (h.AH j hj) (by decide), h.hinj, ?_, ?_, hnd.1, ?_, h.dis⟩
  · have hown := h.own
    rw [show (SP ++ [gr]).length = SP.length + 1 by simp, List.map_append] at hown
    have h1 := ownsRow_pop (xs := SP.map fun g => rowV g r.nc) (last := [gr].map fun g => rowV g r.nc) (by simp) hown
    exact h1.kept hg (h.own_ne z3 (by decide))
  · intro g hgm
    obtain ⟨y1, ys, y2, y3⟩ := h.sp g (by simp [hgm])
    exact ⟨y1, ys, y2, y3.grown hg (fun e => hnot g hgm (by simpa using e))⟩
  · intro q hq
    obtain ⟨h1, h2, h3, h4, h5⟩ := h.rows q hq
    exact ⟨h1, h2, fun hm => h3 (by simp [hm]), h4.grown hg (fun e => h3 (by simp at e; simp [e])), h5⟩

/-- The row of a chain that is done goes to the spare ones. 'wA': behind the block of the one element, 'w1': behind the append. -/
theorem M.push (h : M r w0 g4 g6 g9 g11 hb w O am hx sv SP rw act rc) {p : Nat} (hp : act p) {w1 : World} {v' : Value} (hown : w1.ownsRow (g9 + 1) 30 1 v' (SP.length + 1) ((SP.map fun g => rowV g r.nc) ++ [rowV (rw p) r.nc])) (hg : w.grownBy w1 sv.ownBlock) :
    M r w0 g4 g6 g9 g11 hb (w1.setCell ⟨g9, p, none⟩ (.slice none 0 0)) O (am.set p (.slice none 0 0)) hx v' (SP ++ [rw p]) rw (fun q => act q ∧ q ≠ p) rc := by
  obtain ⟨p1, p2, p3, p4, p5⟩ := h.rows p hp
  have hsn : ∀ {g : Nat} {e : TypeId} {xs : List Value}, Arr w g e xs → e ≠ 30 → Arr w1 g e xs := fun hA he => hA.grown hg (by
    rcases h.own_ne hA he with e | e
    · rw [e]; simp
    · exact e)
  have A9 : Arr w1 g9 30 am := h.A9.grown hg h.ns
  have hg2 := grownBy_setCell w1 ⟨g9, p, none⟩ (.slice none 0 0)
  have k : ∀ {g : Nat} {e : TypeId} {xs : List Value}, Arr w g e xs → e ≠ 30 → Arr (w1.setCell ⟨g9, p, none⟩ (.slice none 0 0)) g e xs := fun hA he => (hsn hA he).other (A9.ne (hsn hA he) (fun e' => he e'.symm)) _
  have bel1 : Below w0.heap.size w0 w1 := h.bel.grown hg h.bel.size (fun k hk => by have := (h.own.lt k hk).1; have := h.b9; omega)
  refine ⟨bel1.setCell h.b9 _, h.b6, h.b9, h.bh, k h.A6 (by decide), k h.A4 (by decide), h.n46, A9.set p _, by rw [List.length_set]; exact h.aml, k h.A11 (by decide), fun j hj => k (h.AH j hj) (by decide), h.hinj, ?_, ?_, ?_, ?_, ?_⟩
  · have e1 : (SP ++ [rw p]).length = SP.length + 1 := by simp
    have e2 : ((SP ++ [rw p]).map fun g => rowV g r.nc) = (SP.map fun g => rowV g r.nc) ++ [rowV (rw p) r.nc] := by simp
    rw [e1, e2]
    refine hown.kept hg2 (.inr ?_)
    intro hs
    have := (hown.lt g9 hs).1
    omega
  · intro g hgm
    rcases List.mem_append.1 hgm with hgm | hgm
    · obtain ⟨y1, ys, y2, y3⟩ := h.sp g hgm
      exact ⟨y1, ys, y2, k y3 (by decide)⟩
    · obtain rfl : g = rw p := by simpa using hgm
      exact ⟨p2, _, intsV_length _ _, k p4 (by decide)⟩
  · rw [List.nodup_append]
    refine ⟨h.nd, by simp, fun a ha b hb e => ?_⟩
    obtain rfl : b = rw p := by simpa using hb
    exact p3 (e ▸ ha)
  · rintro q ⟨hq, hqp⟩
    obtain ⟨h1, h2, h3, h4, h5⟩ := h.rows q hq
    refine ⟨h1, h2, ?_, k h4 (by decide), by rw [List.getElem?_set_ne (fun e' => hqp e'.symm)]; exact h5⟩
    intro hm
    rcases List.mem_append.1 hm with hm | hm
    · exact h3 hm
    · exact h.dis q p hq hp hqp (by simpa using hm)
  · intro q q' hq hq' hne
    exact h.dis q q' hq.1 hq'.1 hne

/-- Who is under way may be told otherwise. -/
theorem M.acts (h : M r w0 g4 g6 g9 g11 hb w O am hx sv SP rw act rc) {act' : Nat → Prop} (hs : ∀ q, act' q → act q) : M r w0 g4 g6 g9 g11 hb w O am hx sv SP rw act' rc :=
  ⟨h.bel, h.b6, h.b9, h.bh, h.A6, h.A4, h.n46, h.A9, h.aml, h.A11, h.AH, h.hinj, h.own, h.sp, h.nd, fun p hp => h.rows p (hs p hp), fun p q hp hq => h.dis p q (hs p hp) (hs q hq)⟩

/-- The chains, as a value. -/
def Chn (r : Run) (w : World) (v : Value) : Prop :=
  ∃ ac cc, v = .slice ac r.nc cc ∧ (0 < r.nc → ∃ g, ac = some ⟨g, 0, none⟩ ∧ ∀ j, j < r.nc → ∃ aj, w.cell? ⟨g, j, none⟩ = some (.slice aj (r.L j) (r.L j)) ∧ (0 < r.L j → ∃ gj, aj = some ⟨gj, 0, none⟩ ∧ ∀ k, k < r.L j → ∃ tv, w.cell? ⟨gj, k, none⟩ = some tv ∧ Ts w tv (r.st j k)))

/-- The events, in a block of structs of five cells. -/
def Evs (r : Run) (w : World) (ge : Nat) : Prop :=
  ∀ a, a < r.N → ∃ tv, Ts w tv (r.S a) ∧ w.cell? ⟨ge, a * 5, none⟩ = some tv ∧ w.cell? ⟨ge, a * 5 + 1, none⟩ = some (.int .i64 (r.P a : Nat)) ∧ w.cell? ⟨ge, a * 5 + 2, none⟩ = some (.int .i64 (r.K a : Nat)) ∧ w.cell? ⟨ge, a * 5 + 3, none⟩ = some (.int .u64 0) ∧ w.cell? ⟨ge, a * 5 + 4, none⟩ = some (.int .u64 0)

theorem lt_of_cell {w : World} {b o : Nat} {v : Value} (h : w.cell? ⟨b, o, none⟩ = some v) : b < w.heap.size := by
  unfold World.cell? at h
  by_cases hb : b < w.heap.size
  · exact hb
  · have e : w.heap[b]? = none := by simp; omega
    simp only [e] at h
    cases h

theorem cell_kept {w w' : World} {b o : Nat} {v : Value} (h : w.cell? ⟨b, o, none⟩ = some v) (hb : Below w.heap.size w w') : w'.cell? ⟨b, o, none⟩ = some v := (hb.cell (p := ⟨b, o, none⟩) (lt_of_cell h)).trans h

theorem Chn.kept {r : Run} {w w' : World} {v : Value} (h : Chn r w v) (hb : Below w.heap.size w w') : Chn r w' v := by
  obtain ⟨ac, cc, hv, h⟩ := h
  refine ⟨ac, cc, hv, fun hn => ?_⟩
  obtain ⟨g, hg, h⟩ := h hn
  refine ⟨g, hg, fun j hj => ?_⟩
  obtain ⟨aj, hc, h⟩ := h j hj
  refine ⟨aj, cell_kept hc hb, fun hl => ?_⟩
  obtain ⟨gj, hgj, h⟩ := h hl
  refine ⟨gj, hgj, fun k hk => ?_⟩
  obtain ⟨tv, h1, h2⟩ := h k hk
  exact ⟨tv, cell_kept h1 hb, h2.kept hb⟩

theorem Evs.kept {r : Run} {w w' : World} {ge : Nat} (h : Evs r w ge) (hb : Below w.heap.size w w') : Evs r w' ge := by
  intro a ha
  obtain ⟨tv, h1, h2, h3, h4, h5, h6⟩ := h a ha
  exact ⟨tv, h1.kept hb, cell_kept h2 hb, cell_kept h3 hb, cell_kept h4 hb, cell_kept h5 hb, cell_kept h6 hb⟩
end Go.Proofs.Qxb6605431a.cc
