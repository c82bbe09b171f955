import Derived.Test.Qxb6605431aTri
namespace Go.Proofs.Qxb6605431a.cc
open Go.RowKit

theorem drew_seg {w : World} {ao : Option Addr} {l : List Int} (h : Seg w ao l) (m : Nat) : Seg (w.drewN m) ao l := h.kept ((Below.refl _ _).grown (grownBy_drewN w m none) (Nat.le_refl _) (by simp))

/-- The arrays, and what ZZcountChains said. -/
structure S4 (C : List (List (List Int))) (wb : World) (tvs : Nat → Value) (wr : World) (g13 g14 g15 g16 g17 g25 : Nat) (o : Nat → Nat) (g30 g31 g32 g34 : Nat) : Prop where
  s : S3 C wb tvs wr g13 g14 g15 g16 g17 g25 o g30 g31 g32 (cN C)
  gt : g32 < g34
  a34 : Arr wr g34 37 [.int .u64 (Tn C pO (cN C) : Nat), .int .u64 (Tn C pC (cN C) : Nat), .int .u64 (Tn C pE (cN C) : Nat)]

structure S5 (C : List (List (List Int))) (wb : World) (tvs : Nat → Value) (wr : World) (g13 g14 g15 g16 g17 g25 : Nat) (o : Nat → Nat) (g30 g31 g32 g34 g43 a : Nat) : Prop where
  s : S4 C wb tvs wr g13 g14 g15 g16 g17 g25 o g30 g31 g32 g34
  gt : g34 < g43
  a43 : FA wr g43 32 (cN C) (fun i => if i < a then .int .u64 ((rOf C o).h i : Nat) else .int .u64 0)

variable {C : List (List (List Int))} {wb wr w' : World} {tvs : Nat → Value} {g13 g14 g15 g16 g17 g25 : Nat} {o : Nat → Nat} {g30 g31 g32 g34 g43 a : Nat}

theorem S4.grown (h : S4 C wb tvs wr g13 g14 g15 g16 g17 g25 o g30 g31 g32 g34) (hg : wr.grownBy w' none) : S4 C wb tvs w' g13 g14 g15 g16 g17 g25 o g30 g31 g32 g34 := ⟨h.s.grown hg, h.gt, h.a34.grown hg (by simp)⟩
theorem S5.grown (h : S5 C wb tvs wr g13 g14 g15 g16 g17 g25 o g30 g31 g32 g34 g43 a) (hg : wr.grownBy w' none) : S5 C wb tvs w' g13 g14 g15 g16 g17 g25 o g30 g31 g32 g34 g43 a := ⟨h.s.grown hg, h.gt, h.a43.grown hg⟩
theorem S5.start {w1 : World} (h : S4 C wb tvs wr g13 g14 g15 g16 g17 g25 o g30 g31 g32 g34) (A1 : Arr w1 wr.heap.size 32 (List.replicate (cN C) (.int .u64 0))) (G1 : wr.grownBy w1 none) : S5 C wb tvs w1 g13 g14 g15 g16 g17 g25 o g30 g31 g32 g34 wr.heap.size 0 := by
  have e : ∀ (f : Nat → Value) (z : Value), (fun i => if i < 0 then f i else z) = fun _ => z := fun f z => by funext i; simp
  refine ⟨h.grown G1, h.a34.lt, ?_⟩
  rw [e]
  exact FA.made A1
theorem S5.step (h : S5 C wb tvs wr g13 g14 g15 g16 g17 g25 o g30 g31 g32 g34 g43 a) {z : Int} (hz : z = ((rOf C o).h a : Int)) : S5 C wb tvs (wr.setCell ⟨g43, a, none⟩ (.int .u64 z)) g13 g14 g15 g16 g17 g25 o g30 g31 g32 g34 g43 (a + 1) := by
  subst hz
  have := h.gt
  have := h.s.gt
  refine ⟨⟨h.s.s.other (by omega) a _, h.s.gt, h.s.a34.other (a := ⟨g43, a, none⟩) (by simp; omega) _⟩, h.gt, ?_⟩
  have := h.a43.set a (.int .u64 ((rOf C o).h a : Int))
  rw [upd_fill (fun i => Value.int .u64 ((rOf C o).h i : Nat))] at this
  exact this

theorem S4.st (h : S4 C wb tvs wr g13 g14 g15 g16 g17 g25 o g30 g31 g32 g34) {i : Nat} (hi : i < cN C) {a1 : Option Addr} {n1 c1 : Nat} (hv : tvs i = .slice a1 n1 c1) : wr.cell? ⟨g13, i, none⟩ = some (.slice a1 n1 c1) := by
  have := h.s.od.b.a13.cell i hi
  rw [if_pos hi, hv] at this
  exact this
theorem S4.so (h : S4 C wb tvs wr g13 g14 g15 g16 g17 g25 o g30 g31 g32 g34) {i : Nat} (hi : i < cN C) {a1 : Option Addr} {n1 c1 : Nat} (hv : tvs (o i) = .slice a1 n1 c1) : wr.cell? ⟨g30, i, none⟩ = some (.slice a1 n1 c1) := by
  have := h.s.a30.cell i hi
  rw [if_pos hi, hv] at this
  exact this

theorem S4.leq (h : S4 C wb tvs wr g13 g14 g15 g16 g17 g25 o g30 g31 g32 g34) (hs : Stv C wb tvs) (hl : ∀ j k, (cS C j k).length ≤ 131072) (hu : ∀ j k, U64 (cS C j k)) {i j : Nat} (hi : i < cN C) (hj : j < cN C) {a1 a2 : Option Addr} {n1 c1 n2 c2 : Nat} (hv1 : tvs i = .slice a1 n1 c1) (hv2 : tvs j = .slice a2 n2 c2) (m : Nat) :
    Calls Try.prog 10 #[.slice a1 n1 c1, .slice a2 n2 c2] (wr.drewN m) fun e w' => e = .returned (.bool (leqB (eS C i) (eS C j))) ∧ w' = wr.drewN m := by
  have t1 := ((hs i hi).ts (hl _ _) (hu _ _)).kept h.s.od.b.bel
  have t2 := ((hs j hj).ts (hl _ _) (hu _ _)).kept h.s.od.b.bel
  obtain ⟨b1, m1, d1, e1, l1, _, s1, _⟩ := t1.ex
  obtain ⟨b2, m2, d2, e2, l2, _, s2, _⟩ := t2.ex
  rw [hv1] at e1
  rw [hv2] at e2
  simp only [Value.slice.injEq] at e1 e2
  obtain ⟨rfl, rfl, rfl⟩ := e1
  obtain ⟨rfl, rfl, rfl⟩ := e2
  exact (leq_any _ _ _ _ _ _ _ _ (wr.drewN m) l1 l2 (by have := t1.len; omega) (by have := t2.len; omega) (drew_seg s1 m) (drew_seg s2 m)).mono fun _ _ h => ⟨h.1, h.2.symm⟩
theorem S4.bef (h : S4 C wb tvs wr g13 g14 g15 g16 g17 g25 o g30 g31 g32 g34) (hs : Stv C wb tvs) (hl : ∀ j k, (cS C j k).length ≤ 131072) (hu : ∀ j k, U64 (cS C j k)) {i j : Nat} (hi : i < cN C) (hj : j < cN C) {a1 a2 : Option Addr} {n1 c1 n2 c2 : Nat} (hv1 : tvs i = .slice a1 n1 c1) (hv2 : tvs j = .slice a2 n2 c2) (m : Nat) :
    Calls Try.prog 5 #[.slice a1 n1 c1, .slice a2 n2 c2] (wr.drewN m) fun e w' => e = .returned (.bool (befB (eS C i) (eS C j))) ∧ w' = wr.drewN m := by
  have t1 := ((hs i hi).ts (hl _ _) (hu _ _)).kept h.s.od.b.bel
  have t2 := ((hs j hj).ts (hl _ _) (hu _ _)).kept h.s.od.b.bel
  obtain ⟨b1, m1, d1, e1, l1, _, s1, _⟩ := t1.ex
  obtain ⟨b2, m2, d2, e2, l2, _, s2, _⟩ := t2.ex
  rw [hv1] at e1
  rw [hv2] at e2
  simp only [Value.slice.injEq] at e1 e2
  obtain ⟨rfl, rfl, rfl⟩ := e1
  obtain ⟨rfl, rfl, rfl⟩ := e2
  exact (before_any _ _ _ _ _ _ _ _ (wr.drewN m) l1 l2 (by have := t1.len; omega) (by have := t2.len; omega) (drew_seg s1 m) (drew_seg s2 m)).mono fun _ _ h => ⟨h.1, h.2.symm⟩
theorem Stv.ex (hs : Stv C wb tvs) (hl : ∀ j k, (cS C j k).length ≤ 131072) (hu : ∀ j k, U64 (cS C j k)) {i : Nat} (hi : i < cN C) : ∃ a n c, tvs i = .slice a n c := by
  obtain ⟨a, n, c, h, _⟩ := ((hs i hi).ts (hl _ _) (hu _ _)).ex
  exact ⟨a, n, c, h⟩

/-- One more pair, however the two compare. -/
theorem tri_all (C : List (List (List Int))) {a b : Nat} (h : a < b) {ab ba : Bool} (h1 : leqB (eS C a) (eS C b) = ab) (h2 : leqB (eS C b) (eS C a) = ba) :
    tri C pO a (b + 1) = tri C pO a b + (if (!(ab && ba) && (ab || ba)) = true then 1 else 0) ∧ tri C pC a (b + 1) = tri C pC a b + (if (!(ab || ba)) = true then 1 else 0) ∧ tri C pE a (b + 1) = tri C pE a b + (if (ab && ba) = true then 1 else 0) :=
  ⟨tri_step C pO h (by unfold pO; rw [h1, h2]), tri_step C pC h (by unfold pC; rw [h1, h2]), tri_step C pE h (by unfold pE; rw [h1, h2])⟩
end Go.Proofs.Qxb6605431a.cc
