/- Blocks that the calls of this project have made: 'Arr w g e xs': block g holds the cells xs of type e, none frozen. Our own work over the kit's laws; no Go function is named here. -/
import Derived.Test.Qxb6605431aCmp
import Derived.Lib.SliceRun
import Derived.WalkSmall
namespace Go.Proofs.Qxb6605431a.cc
open Go.RowKit

def Arr (w : World) (g : Nat) (e : TypeId) (xs : List Value) : Prop := w.heap[g]? = some (.cells xs.toArray e (0, 0))

theorem Arr.cell {w : World} {g : Nat} {e : TypeId} {xs : List Value} (h : Arr w g e xs) (j : Nat) : w.cell? ⟨g, j, none⟩ = xs[j]? := by
  rw [cell_of_row w g j xs.toArray e (0, 0) h]
  simp
theorem Arr.free {w : World} {g : Nat} {e : TypeId} {xs : List Value} (h : Arr w g e xs) (j : Nat) : w.frozen? ⟨g, j, none⟩ = false := frozen_of_row w g j xs.toArray e h
theorem Arr.lt {w : World} {g : Nat} {e : TypeId} {xs : List Value} (h : Arr w g e xs) : g < w.heap.size := (Array.getElem?_eq_some_iff.1 h).1
theorem Arr.ne {w : World} {g g' : Nat} {e e' : TypeId} {xs xs' : List Value} (h : Arr w g e xs) (h' : Arr w g' e' xs') (hne : e ≠ e') : g ≠ g' := by
  intro eg
  subst eg
  unfold Arr at h h'
  rw [h] at h'
  simp at h'
  exact hne h'.2
theorem Arr.grown {w w' : World} {g : Nat} {e : TypeId} {xs : List Value} {row : Option Nat} (h : Arr w g e xs) (hg : w.grownBy w' row) (hne : row ≠ some g) : Arr w' g e xs := by
  unfold Arr
  rw [hg.block g h.lt (fun e => hne e.symm)]
  exact h
theorem Arr.alloc {w : World} {g : Nat} {e : TypeId} {xs : List Value} (h : Arr w g e xs) (o : Obj) : Arr (w.alloc o) g e xs := h.grown (World.grownBy_alloc w o none) (by simp)
theorem Arr.drewN {w : World} {g : Nat} {e : TypeId} {xs : List Value} (h : Arr w g e xs) (n : Nat) : Arr (w.drewN n) g e xs := h
theorem Arr.other {w : World} {g : Nat} {e : TypeId} {xs : List Value} (h : Arr w g e xs) {a : Addr} (hne : a.block ≠ g) (v : Value) : Arr (w.setCell a v) g e xs := by
  unfold Arr
  rw [heap_setCell_other w a g v (fun e => hne e.symm)]
  exact h
theorem Arr.set {w : World} {g : Nat} {e : TypeId} {xs : List Value} (h : Arr w g e xs) (j : Nat) (v : Value) : Arr (w.setCell ⟨g, j, none⟩ v) g e (xs.set j v) := by
  unfold Arr
  rw [heap_setCell_same w g j xs.toArray e v h]
  simp
theorem Arr.new (w : World) (cs : List Value) (e : TypeId) : Arr (w.alloc (.cells cs.toArray e)) w.heap.size e cs := heap_alloc_new w _
theorem Arr.below {B : Nat} {w w' : World} {g : Nat} {e : TypeId} {xs : List Value} (h : Arr w g e xs) (hb : Below B w w') (hg : g < B) : Arr w' g e xs := by
  unfold Arr
  rw [hb.block g hg]
  exact h

theorem Arr.ofOwn {w : World} {base g n : Nat} {e : TypeId} {xs : List Value} (h : w.ownsRow base e 1 (.slice (some ⟨g, 0, none⟩) n n) n xs) : Arr w g e xs ∧ base ≤ g := by
  rcases h.2 with ⟨h', _⟩ | ⟨g', cap', cur, h', hb, hg, _, _, hs, ht⟩
  · simp at h'
  · simp only [Value.slice.injEq, Option.some.injEq, Addr.mk.injEq, and_true, true_and] at h'
    obtain ⟨rfl, rfl⟩ := h'
    refine ⟨?_, hb⟩
    unfold Arr
    rw [hg]
    have : cur.toList = xs := by
      rw [← ht, List.take_of_length_le (by rw [Array.length_toList, hs]; exact Nat.le_refl _)]
    rw [← this]

theorem grownBy_setCell (w : World) (a : Addr) (u : Value) : w.grownBy (w.setCell a u) (some a.block) :=
  ⟨rfl, rfl, rfl, by simp, fun k _ hk => heap_setCell_other w a k u (fun e => hk (by simp [e]))⟩
theorem grownBy_drewN (w : World) (k : Nat) (row : Option Nat) : w.grownBy (w.drewN k) row := ⟨rfl, rfl, rfl, Nat.le_refl _, fun _ _ _ => rfl⟩

theorem made_list (z : Value) (hz : z.cells = #[z]) (n : Nat) : (madeCells z.cells (n * 1)).toList = List.replicate n z := by
  rw [hz, Nat.mul_one, toList_madeCells_one]

/-- 'make([]T, n)', T of one cell: a new block. -/
theorem wpList_mk {P : Program} {w : World} {ops : Array Oper} {rest : List Oper} {o : Oper} {a : Act} {Q : Exit → Act → World → Prop}
    (hg : o.guard = none) (l c : Operand) (t : TypeId) (hop : o.op = Op.makeSlice t l c) (e : TypeId) (z : Value) (bytes : Nat) (h1 : P.underlying t = some (.slice e))
    (hinfo : (P.info? e).map (fun i => (i.zero, i.size, i.bytes)) = some (some z, 1, bytes)) (hz : z.cells = #[z])
    (kl kc : IntKind) (L C : Int) (n : Nat) (hl : a.eval l = .int kl L) (hc : a.eval c = .int kc C) (hL : L = (n : Int)) (hC : C = (n : Int)) (b2 : bytes * n ≤ 281474976710656) (b3 : n ≤ maxLen)
    (hK : ∀ w', Arr w' w.heap.size e (List.replicate n z) → w.grownBy w' none → wpList P ops Q rest (a.put o.dst (.slice (some ⟨w.heap.size, 0, none⟩) n n)) w') :
    wpList P ops Q (o :: rest) a w := by
  obtain ⟨i0, hi, hz0, hz1, hz2⟩ := info_parts hinfo
  refine wpList_make_full w hg l c t hop w.heap.size e i0 z 1 h1 hi hz0 hz1 kl kc L C n hl hc hL hC (by rw [hz2]; exact b2) b3 (Nat.le_refl _) ?_
  intro w' hown hgrow
  refine hK w' ?_ hgrow
  have := (Arr.ofOwn hown).1
  rwa [made_list z hz n] at this

/-! ### timestamps -/
/-- The value v is a timestamp that reads as l. -/
structure Ts (w : World) (v : Value) (l : List Int) : Prop where
  ex : ∃ ao n c, v = .slice ao n c ∧ l.length = n ∧ Shp ao n c ∧ Seg w ao l ∧ (∀ b off, ao = some ⟨b, off, none⟩ → l ≠ [] → b < w.heap.size)
  len : l.length ≤ 131072
  u : U64 l

theorem Seg.below {B : Nat} {w w' : World} {ao : Option Addr} {l : List Int} (h : Seg w ao l) (hb : Below B w w') (hB : ∀ b off, ao = some ⟨b, off, none⟩ → l ≠ [] → b < B) : Seg w' ao l := by
  rcases h with h | ⟨b, off, rfl, h⟩
  · exact .inl h
  · by_cases hl : l = []
    · exact .inl hl
    · exact .inr ⟨b, off, rfl, fun j hj => (hb.cell (p := ⟨b, off + j, none⟩) (hB b off rfl hl)).trans (h j hj)⟩

theorem Ts.kept {w w' : World} {v : Value} {l : List Int} (h : Ts w v l) (hb : Below w.heap.size w w') : Ts w' v l := by
  obtain ⟨ao, n, c, hv, hl, hs, hg, hlt⟩ := h.ex
  exact ⟨⟨ao, n, c, hv, hl, hs, hg.below hb hlt, fun b off e hne => Nat.lt_of_lt_of_le (hlt b off e hne) hb.size⟩, h.len, h.u⟩
end Go.Proofs.Qxb6605431a.cc
