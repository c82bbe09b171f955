/- Byte slices that a call reads ('Seg') and byte slices that it has made ('Own'); 'append' as one law over both. Our own work over the kit's laws; no Go function of the program is named here. -/
import Derived.Test.Qxb6605233aRows
import Derived.WalkKit
import Derived.WalkLawsBesides
import Derived.WalkSpells
import Derived.Laws.AppendOwnNone
import Derived.Laws.CopyOwn
namespace Go.Proofs.Qxb6605233a.bs
open Go.RowKit

/-- The bytes l lie behind ao (an empty list asks nothing). -/
def Seg (w : World) (ao : Option Addr) (l : List Int) : Prop :=
  l = [] ∨ ∃ b off, ao = some ⟨b, off, none⟩ ∧ ∀ j, j < l.length → w.cell? ⟨b, off + j, none⟩ = some (.int .u8 (l.getD j 0))

/-- The slice (ao, n, cap) is the call's own (blocks from B on) and holds l; below B all is as in w0. -/
structure Own (B : Nat) (w0 w : World) (ao : Option Addr) (n cap : Nat) (l : List Int) : Prop where
  len : l.length = n
  row : w.ownsRow B 5 1 (.slice ao n cap) n (l.map (Value.int .u8))
  bel : Below B w0 w
  sz : B ≤ w.heap.size

theorem Seg.news {w : World} {b off : Nat} {l : List Int} (h : ∀ j, j < l.length → w.cell? ⟨b, off + j, none⟩ = some (.int .u8 (l.getD j 0))) :
    ∀ j u, (l.map (Value.int .u8))[j]? = some u → w.cell? ((⟨b, off, none⟩ : Addr).add j) = some u := by
  intro j u hu
  have hj : j < l.length := by simpa using (List.getElem?_eq_some_iff.1 hu).1
  rw [Addr.add_lit, h j hj]
  rw [← hu]
  simp [hj]

theorem Seg.lt {w : World} {b off : Nat} {l : List Int} (h : ∀ j, j < l.length → w.cell? ⟨b, off + j, none⟩ = some (.int .u8 (l.getD j 0))) (hl : l ≠ []) : b < w.heap.size := by
  have h0 := h 0 (List.length_pos_iff.2 hl)
  unfold World.cell? at h0
  by_cases hb : b < w.heap.size
  · exact hb
  · have e : w.heap[b]? = none := by simp; omega
    simp only [e] at h0
    cases h0

theorem Seg.below {B : Nat} {w w' : World} {ao : Option Addr} {l : List Int} (h : Seg w ao l) (hb : Below B w w') (hB : ∀ b off, ao = some ⟨b, off, none⟩ → l ≠ [] → b < B) : Seg w' ao l := by
  rcases h with h | ⟨b, off, rfl, h⟩
  · exact .inl h
  · by_cases hl : l = []
    · exact .inl hl
    · exact .inr ⟨b, off, rfl, fun j hj => (hb.cell (p := ⟨b, off + j, none⟩) (hB b off rfl hl)).trans (h j hj)⟩

theorem Seg.kept {w w' : World} {ao : Option Addr} {l : List Int} (h : Seg w ao l) (hb : Below w.heap.size w w') : Seg w' ao l :=
  h.below hb fun b off e hl => by
    rcases h with h | ⟨b', off', e', h⟩
    · exact absurd h hl
    · rw [e] at e'
      cases e'
      exact Seg.lt h hl

theorem Seg.drewN {w : World} {ao : Option Addr} {l : List Int} (h : Seg w ao l) (n : Nat) : Seg (w.drewN n) ao l := h

/-- A cut. -/
theorem Seg.cut {w : World} {b off : Nat} {l : List Int} (h : ∀ j, j < l.length → w.cell? ⟨b, off + j, none⟩ = some (.int .u8 (l.getD j 0))) (lo hi : Nat) {ao : Option Addr}
    (hao : lo < hi → lo < l.length → ao = some ⟨b, off + lo, none⟩) : Seg w ao ((l.take hi).drop lo) := by
  by_cases hc : lo < hi ∧ lo < l.length
  · refine .inr ⟨b, off + lo, hao hc.1 hc.2, fun j hj => ?_⟩
    simp only [List.length_drop, List.length_take] at hj
    rw [Nat.add_assoc, h (lo + j) (by omega)]
    simp [List.getD, List.getElem?_drop, show lo + j < hi by omega]
  · refine .inl ?_
    apply List.eq_nil_of_length_eq_zero
    simp only [List.length_drop, List.length_take]
    omega

theorem Own.seg {B : Nat} {w0 w : World} {ao : Option Addr} {n cap : Nat} {l : List Int} (h : Own B w0 w ao n cap l) : Seg w ao l := by
  by_cases hl : l = []
  · exact .inl hl
  · have hpos : 0 < l.length := List.length_pos_iff.2 hl
    have hlen := h.len
    rcases h.row.2 with ⟨h', h0⟩ | ⟨g, cap', cur, h', hb, hg, hn, hc, hs, ht⟩
    · omega
    · simp only [Value.slice.injEq] at h'
      obtain ⟨rfl, _, rfl⟩ := h'
      refine .inr ⟨g, 0, rfl, fun j hj => ?_⟩
      have := h.row.cellAt j (by omega)
      rw [Nat.zero_add, this]
      simp [hj]

/-- The shape of what is owned. -/
theorem Own.shape {B : Nat} {w0 w : World} {ao : Option Addr} {n cap : Nat} {l : List Int} (h : Own B w0 w ao n cap l) :
    (ao = none ∧ n = 0 ∧ cap = 0 ∧ l = []) ∨ ∃ g, ao = some ⟨g, 0, none⟩ ∧ B ≤ g ∧ n ≤ cap ∧ cap ≤ maxLen ∧ ∀ j, j < l.length → w.cell? ⟨g, 0 + j, none⟩ = some (.int .u8 (l.getD j 0)) := by
  have hlen := h.len
  rcases h.row.2 with ⟨h', h0⟩ | ⟨g, cap', cur, h', hb, hg, hn, hc, hs, ht⟩
  · simp only [Value.slice.injEq] at h'
    obtain ⟨rfl, _, rfl⟩ := h'
    exact .inl ⟨rfl, h0, rfl, List.eq_nil_of_length_eq_zero (by omega)⟩
  · simp only [Value.slice.injEq] at h'
    obtain ⟨rfl, _, rfl⟩ := h'
    refine .inr ⟨g, rfl, hb, hn, hc, fun j hj => ?_⟩
    have := h.row.cellAt j (by omega)
    rw [Nat.zero_add, this]
    simp [hj]

theorem Own.alloc {B : Nat} {w0 w : World} {ao : Option Addr} {n cap : Nat} {l : List Int} (h : Own B w0 w ao n cap l) (o : Obj) : Own B w0 (w.alloc o) ao n cap l :=
  ⟨h.len, h.row.alloc o, h.bel.alloc h.sz o, by have := h.sz; simp; omega⟩

theorem Own.drewN {B : Nat} {w0 w : World} {ao : Option Addr} {n cap : Nat} {l : List Int} (h : Own B w0 w ao n cap l) (k : Nat) : Own B w0 (w.drewN k) ao n cap l :=
  ⟨h.len, h.row, below_drewN h.bel k, h.sz⟩

theorem seg_one (w : World) (x : Int) (t : TypeId) : Seg (w.alloc (.cells #[.int .u8 x] t)) (some ⟨w.heap.size, 0, none⟩) [x] := by
  refine .inr ⟨_, _, rfl, fun j hj => ?_⟩
  have h0 : j = 0 := by simpa using hj
  subst h0
  exact cell_one_new w (.int .u8 x) t 0 (.int .u8 x) rfl

variable {P : Program}

/-- 'append(s, x...)', s the call's own. -/
theorem wpList_app {w : World} {ops : Array Oper} {rest : List Oper} {o : Oper} {a : Act} {Q : Exit → Act → World → Prop} (hgd : o.guard = none) (s x : Operand) (t : TypeId)
    (ho : o.op = .call { callee := .builtin .append, args := #[s, x], argTypes := #[t, t] }) (ht : P.underlying t = some (.slice 5))
    (hinfo : (P.info? 5).map (fun i => (i.zero, i.size, i.bytes)) = some (some (.int .u8 0), 1, 1))
    (ao : Option Addr) (n cap : Nat) (hs : a.eval s = .slice ao n cap) (ax : Option Addr) (m c : Nat) (hx : a.eval x = .slice ax m c)
    (B : Nat) (w0 : World) (l src : List Int) (hown : Own B w0 w ao n cap l) (hsrc : Seg w ax src) (hm : src.length = m) (hnil : ax = none → c = 0) (hb : n + m ≤ 2147483648)
    (hK : ∀ ao' n' cap' w', n' ≤ n + m → Own B w0 w' ao' n' cap' (l ++ src) → wpList P ops Q rest (a.put o.dst (.slice ao' n' cap')) w') : wpList P ops Q (o :: rest) a w := by
  obtain ⟨i0, hi, hz0, hz1, hz2⟩ := info_parts hinfo
  have key : ∀ (ad : Addr), ax = some ad → (∀ j u, (src.map (Value.int .u8))[j]? = some u → w.cell? (ad.add j) = some u) → wpList P ops Q (o :: rest) a w := by
    intro ad hax hnews
    subst hax
    refine wpList_append_own w hgd s x t ho B 5 i0 (.int .u8 0) 1 1 ht hi hz0 hz1 hz2 rfl (by decide) _ n _ hs hown.row ad m c (src.map (Value.int .u8)) hx (by simp [hm]) hnews (ints_oneCell _ _) (by unfold maxLen; omega) (by omega) hown.sz ?_
    intro v' w' hown' hgrow _
    have hbel : Below B w0 w' := hown.bel.grown hgrow hown.sz (fun k hk => (hown.row.lt k hk).1)
    have hsz : B ≤ w'.heap.size := Nat.le_trans hown.sz hgrow.size
    have hlen := hown.len
    rcases hown'.2 with ⟨h', h0⟩ | ⟨g, cap', cur, h', hbg, hg, hn, hc, hs', ht'⟩
    · subst h'
      refine hK none 0 0 w' (by omega) ⟨by rw [List.length_append]; omega, ?_, hbel, hsz⟩
      have e : n + m = 0 := h0
      rw [e] at hown'
      simpa using hown'
    · subst h'
      refine hK _ (n + m) cap' w' (Nat.le_refl _) ⟨by simp; omega, ?_, hbel, hsz⟩
      simpa using hown'
  cases hax : ax with
  | some ad =>
    rcases hsrc with h | ⟨b, off, e, h⟩
    · subst h
      exact key ad hax (fun j u hu => by simp at hu)
    · refine key ad hax ?_
      rw [hax] at e
      cases e
      exact Seg.news h
  | none =>
    have hsn : src = [] := by
      rcases hsrc with h | ⟨b, off, e, h⟩
      · exact h
      · rw [hax] at e; cases e
    subst hsn
    have hm0 : m = 0 := by simpa using hm.symm
    have hc0 := hnil hax
    subst hax; subst hm0; subst hc0
    refine wpList_append_own_none hgd s x t ho B 5 i0 1 ht hi _ n _ hs hown.row hx ?_
    refine hK ao n cap w (by omega) ?_
    rw [List.append_nil]
    exact hown

/-- 'append(s, x...)', s whatever, full, and something comes: a new row. -/
theorem wpList_app_new {w : World} {ops : Array Oper} {rest : List Oper} {o : Oper} {a : Act} {Q : Exit → Act → World → Prop} (hgd : o.guard = none) (s x : Operand) (t : TypeId)
    (ho : o.op = .call { callee := .builtin .append, args := #[s, x], argTypes := #[t, t] }) (ht : P.underlying t = some (.slice 5))
    (hinfo : (P.info? 5).map (fun i => (i.zero, i.size, i.bytes)) = some (some (.int .u8 0), 1, 1))
    (ao : Option Addr) (n : Nat) (hs : a.eval s = .slice ao n n) (ax : Option Addr) (m c : Nat) (hx : a.eval x = .slice ax m c)
    (l src : List Int) (hl : l.length = n) (hseg : Seg w ao l) (hsrc : Seg w ax src) (hm : src.length = m) (hpos : 0 < m) (hb : n + m ≤ 2147483648)
    (B : Nat) (w0 : World) (hbel : Below B w0 w) (hB : B ≤ w.heap.size)
    (hK : ∀ ao' n' cap' w', n' ≤ n + m → Own B w0 w' ao' n' cap' (l ++ src) → wpList P ops Q rest (a.put o.dst (.slice ao' n' cap')) w') : wpList P ops Q (o :: rest) a w := by
  obtain ⟨i0, hi, hz0, hz1, hz2⟩ := info_parts hinfo
  rcases hsrc with h | ⟨b, off, hax, h⟩
  · subst h; simp at hm; omega
  subst hax
  refine wpList_append_grows w hgd s x t ho 5 i0 (.int .u8 0) 1 1 ht hi hz0 hz1 hz2 rfl (by decide) ao n n (l.map (Value.int .u8)) hs ?_ (by simp [hl]) ?_ ⟨b, off, none⟩ m c (src.map (Value.int .u8)) hx (by simp [hm]) (Seg.news h) (ints_oneCell _ _) (by omega) (by unfold maxLen; omega) (by omega) ?_
  · intro e
    rcases hseg with h' | ⟨b', off', e', _⟩
    · subst h'; simp at hl; omega
    · rw [e] at e'; cases e'
  · intro b' e
    rcases hseg with h' | ⟨b2, off2, e', h2⟩
    · subst h'; intro j u hu; simp at hu
    · rw [e] at e'; cases e'
      exact Seg.news h2
  · intro v' w' hown' hgrow
    have hbel' : Below B w0 w' := hbel.grown hgrow hB (fun k hk => by cases hk)
    have hsz : B ≤ w'.heap.size := Nat.le_trans hB hgrow.size
    rcases hown'.2 with ⟨h', h0⟩ | ⟨g, cap', cur, h', hbg, hg, hn, hc, hs', ht'⟩
    · omega
    · subst h'
      refine hK _ (n + m) cap' w' (Nat.le_refl _) ⟨by simp; omega, ⟨by simp; omega, .inr ⟨g, cap', cur, rfl, Nat.le_trans hB hbg, hg, hn, hc, hs', ?_⟩⟩, hbel', hsz⟩
      simpa using ht'

/-- 'copy(c, b)', c a new row of b's length. -/
theorem copy_full {w w1 : World} {t ty : TypeId} {n cap : Nat} {ad : Addr} {l : List Int} (ht : P.underlying t = some (.slice 5)) (hsz : (P.info? 5).map (·.size) = some 1) {xs : List Value}
    (hown : w1.ownsRow w.heap.size 5 1 (.slice (some ⟨w.heap.size, 0, none⟩) n n) n xs) (hgrow : w.grownBy w1 none) (hl : l.length = n) (hseg : Seg w (some ad) l) :
    ∃ w2, (Builtin.copy_ #[t, t] ty #[.slice (some ⟨w.heap.size, 0, none⟩) n n, .slice (some ad) n cap]).run P w1 = .ok (goInt n) w2 ∧ Seg w2 (some ⟨w.heap.size, 0, none⟩) l ∧ Below w.heap.size w w2 := by
  have hb1 : Below w.heap.size w w1 := (Below.refl _ _).grown hgrow (Nat.le_refl _) (by simp)
  rcases hseg with h | ⟨b, off, e, h⟩
  · subst h
    have hn : n = 0 := by simpa using hl.symm
    subst hn
    exact ⟨w1, run_copy_none w1 t t ty 5 _ _ 0 0 0 cap ht hsz (by simp), .inl rfl, hb1⟩
  · cases e
    by_cases hle : l = []
    · subst hle
      have hn : n = 0 := by simpa using hl.symm
      subst hn
      exact ⟨w1, run_copy_none w1 t t ty 5 _ _ 0 0 0 cap ht hsz (by simp), .inl rfl, hb1⟩
    have hblt : b < w.heap.size := Seg.lt h hle
    rcases hown.2 with ⟨h', h0⟩ | ⟨g, cap', cur, h', hbg, hg, hn, hc, hs', ht'⟩
    · simp at h'
    · simp only [Value.slice.injEq, Option.some.injEq, Addr.mk.injEq, and_true, true_and] at h'
      obtain ⟨rfl, rfl⟩ := h'
      have hrun := run_copy_row (P := P) w1 t t ty 5 w.heap.size 0 n n ⟨b, off, none⟩ n cap cur 5 (l.map (Value.int .u8)) ht hsz hg (by simp [hl]) (fun j v hj => (hb1.cell (by rw [Addr.add_lit]; exact hblt)).trans (Seg.news h j v hj)) (by simp; omega) (ints_oneCell _ _)
      have e1 : (l.map (Value.int .u8)).length = n := by simp [hl]
      rw [e1] at hrun
      refine ⟨_, hrun, .inr ⟨w.heap.size, 0, rfl, fun j hj => ?_⟩, below_setRow hb1 (Nat.le_refl _) _⟩
      rw [Nat.zero_add, cell_of_row _ _ _ _ _ _ (setRow_heap w1 _ _ _ 5 _ hg)]
      simp only [List.take_zero, List.nil_append, List.getElem?_toArray]
      rw [List.getElem?_append_left (by simpa using hj)]
      simp [hj]
end Go.Proofs.Qxb6605233a.bs
