/- Byte slices that the calls of this project hold ('Buf': readable, writable up to the capacity, in a block of their own) and 'append(b, s...)', s a string, as one law. Our own work over the kit's laws; no Go function of the program is named here. -/
import Derived.Test.Qxb6605252aRows
import Derived.WalkKit
import Derived.WalkLawsBesides
import Derived.WalkSpells
import Derived.Laws.CopyOwn
import Derived.Laws.IdiomStrings
import Derived.Deep.AppendSrc
import Derived.Deep.Upon
namespace Go.Proofs.Qxb6605252a.bs
open Go.RowKit

/-- The slice (ao, n, cap) holds l; up to the capacity its cells are there and are not frozen. -/
structure Buf (w : World) (ao : Option Addr) (n cap : Nat) (l : List UInt8) : Prop where
  len : l.length = n
  row : (ao = none ∧ n = 0 ∧ cap = 0) ∨ ∃ g, ao = some ⟨g, 0, none⟩ ∧ n ≤ cap ∧ g < w.heap.size ∧ (∀ j (h : j < l.length), w.cell? ⟨g, j, none⟩ = some (.int .u8 (l[j].toNat : Nat))) ∧
    ∀ j, j < cap → (w.cell? ⟨g, j, none⟩).isSome = true ∧ w.frozen? ⟨g, j, none⟩ = false

def blk : Option Addr → Option Nat
  | some a => some a.block
  | none => none

/-- The new slice lies where the old one lay, or in a new block. -/
def Near (w : World) (ao ao' : Option Addr) : Prop := ao' = ao ∨ ∃ g, ao' = some ⟨g, 0, none⟩ ∧ w.heap.size ≤ g

theorem Buf.nil (w : World) : Buf w none 0 0 [] := ⟨rfl, .inl ⟨rfl, rfl, rfl⟩⟩

theorem Buf.kept {w w' : World} {ao : Option Addr} {n cap : Nat} {l : List UInt8} {row : Option Nat} (h : Buf w ao n cap l) (hg : w.grownBy w' row) (hne : blk ao = none ∨ blk ao ≠ row) : Buf w' ao n cap l := by
  refine ⟨h.len, ?_⟩
  rcases h.row with h0 | ⟨g, rfl, hn, hlt, hc, hf⟩
  · exact .inl h0
  · have hb : w'.heap[g]? = w.heap[g]? := hg.block g hlt (by simpa [blk] using hne)
    have e1 : ∀ j, w'.cell? ⟨g, j, none⟩ = w.cell? ⟨g, j, none⟩ := fun j => World.cell?_of_block (w := w) hb
    have e2 : ∀ j, w'.frozen? ⟨g, j, none⟩ = w.frozen? ⟨g, j, none⟩ := fun j => World.frozen?_of_block (w := w) hb
    refine .inr ⟨g, rfl, hn, Nat.lt_of_lt_of_le hlt hg.size, fun j hj => (e1 j).trans (hc j hj), fun j hj => ?_⟩
    rw [e1, e2]
    exact hf j hj

theorem Buf.alloc {w : World} {ao : Option Addr} {n cap : Nat} {l : List UInt8} (h : Buf w ao n cap l) (o : Obj) : Buf (w.alloc o) ao n cap l :=
  h.kept (World.grownBy_alloc w o none) (by cases ao <;> simp [blk])

theorem Buf.drewN {w : World} {ao : Option Addr} {n cap : Nat} {l : List UInt8} (h : Buf w ao n cap l) (k : Nat) : Buf (w.drewN k) ao n cap l := ⟨h.len, h.row⟩
theorem Buf.drew {w : World} {ao : Option Addr} {n cap : Nat} {l : List UInt8} (h : Buf w ao n cap l) : Buf w.drew ao n cap l := ⟨h.len, h.row⟩

theorem Buf.blk_lt {w : World} {ao : Option Addr} {n cap : Nat} {l : List UInt8} (h : Buf w ao n cap l) {k : Nat} (hk : blk ao = some k) : k < w.heap.size := by
  rcases h.row with ⟨rfl, _, _⟩ | ⟨g, rfl, _, hlt, _, _⟩
  · cases hk
  · simp [blk] at hk; subst hk; exact hlt

theorem grownBy_setCell (w : World) (a : Addr) (u : Value) : w.grownBy (w.setCell a u) (some a.block) :=
  ⟨rfl, rfl, rfl, by simp, fun k _ hk => heap_setCell_other w a k u (fun e => hk (by simp [e]))⟩

theorem grownBy_drewN (w : World) (k : Nat) (row : Option Nat) : w.grownBy (w.drewN k) row := ⟨rfl, rfl, rfl, Nat.le_refl _, fun _ _ _ => rfl⟩

/-- One behind the other: the second writes into the row of the first, or into what is new. -/
theorem grownBy_trans {w w1 w2 : World} {r1 r2 : Option Nat} (h1 : w.grownBy w1 r1) (h2 : w1.grownBy w2 r2) (hr : ∀ k, r2 = some k → r1 = some k ∨ w.heap.size ≤ k) : w.grownBy w2 r1 :=
  ⟨h2.os.trans h1.os, h2.tape.trans h1.tape, h2.output.trans h1.output, Nat.le_trans h1.size h2.size, fun k hk hne => by
    rw [h2.block k (Nat.lt_of_lt_of_le hk h1.size) (fun e => by
      rcases hr k e.symm with h | h
      · exact hne h.symm
      · omega)]
    exact h1.block k hk hne⟩

theorem grownBy_below {B : Nat} {w0 w w' : World} {row : Option Nat} (hb : Below B w0 w) (hg : w.grownBy w' row) (hB : B ≤ w.heap.size) (hr : ∀ k, row = some k → B ≤ k) : Below B w0 w' := hb.grown hg hB hr

/-- Every byte of a string, as a cell. -/
theorem byteCells_get (s : ByteArray) (j : Nat) (h : j < (byteCells s).length) : (byteCells s)[j] = .int .u8 ((s.data.toList[j]'(by simpa [byteCells] using h)).toNat : Nat) := by
  simp [byteCells]

theorem grownBy_setCells (g : Nat) : ∀ (vs : List Value) (o : Nat) (w : World), w.grownBy (w.setCells g o vs) (some g)
  | [], _, w => World.grownBy.refl w _
  | v :: r, o, w => grownBy_trans (grownBy_setCell w ⟨g, o, none⟩ v) (grownBy_setCells g r (o + 1) (w.setCell ⟨g, o, none⟩ v)) (fun _ hk => .inl hk)

variable {P : Program}

/-- 'append(b, s...)'. -/
theorem run_app_str (w : World) (t tx ty : TypeId) (ht : P.underlying t = some (.slice 5)) (htx : P.underlying tx = some .string)
    (hinfo : (P.info? 5).map (fun i => (i.zero, i.size, i.bytes)) = some (some (.int .u8 0), 1, 1)) {ao : Option Addr} {n cap : Nat} {l : List UInt8} (h : Buf w ao n cap l) (s : ByteArray) (hb : n + s.size ≤ 1073741824) :
    ∃ ao' n' cap' w', (Builtin.append_ #[t, tx] ty #[.slice ao n cap, .string s]).run P w = .ok (.slice ao' n' cap') w' ∧ Buf w' ao' n' cap' (l ++ s.data.toList) ∧ w.grownBy w' (blk ao) ∧ Near w ao ao' ∧ (ao' = none ↔ ao = none ∧ s.size = 0) := by
  obtain ⟨i0, hi, hz0, hz1, hz2⟩ := info_parts hinfo
  have hsrc : Src P i0.size tx (.string s) s.size (byteCells s) w := by rw [hz1]; exact Src.ofString w htx s
  have hsl : s.data.toList.length = s.size := by simp
  have hbl := byteCells_length s
  by_cases h0 : s.size = 0
  · -- nothing comes
    have hs0 : s.data.toList = [] := List.eq_nil_of_length_eq_zero (by omega)
    have hc0 : byteCells s = [] := List.eq_nil_of_length_eq_zero (by omega)
    rw [h0, hc0] at hsrc
    have hle : n ≤ cap := by
      rcases h.row with ⟨_, h1, h2⟩ | ⟨g, _, h1, _⟩
      · omega
      · exact h1
    refine ⟨ao, n, cap, w, run_append_nothing w t tx ty 5 i0 ht hi ao n cap hle _ hsrc, ?_, World.grownBy.refl _ _, .inl rfl, by simp [h0]⟩
    rw [hs0, List.append_nil]
    exact h
  by_cases hroom : n + s.size ≤ cap
  · rcases h.row with ⟨_, h1, h2⟩ | ⟨g, rfl, hn, hlt, hc, hf⟩
    · omega
    have hlen := h.len
    have hcs : ∀ j, j < (byteCells s).length → (w.cell? ⟨g, n + j, none⟩).isSome = true := fun j hj => (hf (n + j) (by omega)).1
    have hrun := run_append_room_src (P := P) w t tx ty 5 i0 ht hi g 0 n cap (.string s) s.size (byteCells s) hsrc hroom (fun j hj => by rw [hz1, Nat.mul_one, Nat.zero_add]; exact hcs j hj) (fun j hj => by rw [hz1, Nat.mul_one, Nat.zero_add]; exact (hf (n + j) (by omega)).2)
    rw [hz1, Nat.mul_one, Nat.zero_add] at hrun
    refine ⟨_, _, _, _, hrun, ⟨by rw [List.length_append]; omega, .inr ⟨g, rfl, hroom, ?_, ?_, ?_⟩⟩, ?_, .inl rfl, by simp⟩
    · have := (World.keptBut_setCells g (may := fun _ => True) (byteCells s) n w (fun _ _ => trivial)).size
      omega
    · intro j hj
      rw [List.length_append] at hj
      by_cases hjn : j < n
      · rw [World.cell?_setCells_out g _ _ _ _ (fun _ _ => .inl hjn), hc j (by omega), List.getElem_append_left (by omega)]
      · obtain ⟨k, rfl⟩ : ∃ k, j = n + k := ⟨j - n, by omega⟩
        rw [World.cell?_setCells_in g (byteCells s) n w hcs k (by omega), byteCells_get]
        simp [List.getElem_append_right (show l.length ≤ n + k by omega), hlen]
    · intro j hj
      rw [World.frozen?_setCells]
      refine ⟨?_, (hf j hj).2⟩
      by_cases hjn : j < n ∨ n + (byteCells s).length ≤ j
      · rw [World.cell?_setCells_out g _ _ _ _ (fun _ _ => hjn)]
        exact (hf j hj).1
      · obtain ⟨k, rfl⟩ : ∃ k, j = n + k := ⟨j - n, by omega⟩
        rw [World.cell?_setCells_in g (byteCells s) n w hcs k (by omega)]
        rfl
    · exact grownBy_setCells g (byteCells s) n w
  · -- a new row
    have hold : (Builtin.firstCells i0.size n (.slice ao n cap)).run P w.drew = .ok (l.map (fun b => Value.int .u8 (b.toNat : Nat))).toArray w.drew := by
      rcases h.row with ⟨rfl, h1, h2⟩ | ⟨g, rfl, hn, hlt, hc, hf⟩
      · have hl0 : l = [] := List.eq_nil_of_length_eq_zero (by have := h.len; omega)
        subst hl0
        exact run_firstCells_none w.drew _ _ _ _
      · refine run_firstCells_some w.drew _ _ _ _ _ _ (by simp [hz1, h.len]) ?_
        intro j v hv
        have hj : j < l.length := by simpa using (List.getElem?_eq_some_iff.1 hv).1
        rw [Addr.add_lit, Nat.zero_add]
        show w.cell? _ = _
        rw [hc j hj, ← hv]
        simp [hj]
    have hrun := run_append_grow_src (P := P) w t tx ty 5 i0 (.int .u8 0) ht hi hz0 ao n cap _ hold (.string s) s.size (byteCells s) hsrc (by omega) (by omega) (growslice_fits (by omega) (by rw [hz2]; omega))
    have hge := grownCap_ge w (n + s.size) cap 5
    have hlen := h.len
    refine ⟨_, _, _, _, hrun, ⟨by rw [List.length_append]; omega, .inr ⟨w.heap.size, rfl, hge, by simp, ?_, ?_⟩⟩, ⟨rfl, rfl, rfl, by simp, fun k hk _ => heap_alloc_old w.drew _ hk⟩, .inr ⟨_, rfl, Nat.le_refl _⟩, by simp; intro _; exact fun e => h0 (by rw [e]; rfl)⟩
    · intro j hj
      have hj' := hj
      rw [List.length_append] at hj'
      rw [show (w.heap.size) = w.drew.heap.size from rfl, World.cell?_alloc_mark]
      rw [Array.getElem?_append_left (by simp [byteCells_length]; omega)]
      have hj2 : j < (List.map (fun b => Value.int .u8 (b.toNat : Nat)) l ++ byteCells s).length := by rw [List.length_append, List.length_map]; omega
      rw [List.getElem?_toArray, List.getElem?_eq_getElem hj2]
      by_cases hjn : j < n
      · rw [List.getElem_append_left (by simp; omega), List.getElem_append_left (by omega)]
        simp
      · rw [List.getElem_append_right (by simp; omega), List.getElem_append_right (by omega)]
        simp [byteCells]
    · intro j hj
      rw [show (w.heap.size) = w.drew.heap.size from rfl, World.cell?_alloc_mark, World.frozen?_alloc_mark]
      refine ⟨?_, by simp⟩
      have hz : j < ((List.map (fun b => Value.int .u8 (b.toNat : Nat)) l ++ byteCells s).toArray ++ Builtin.zeroCells (Value.int .u8 0).cells (grownCap w (n + s.size) cap 5 - (n + s.size))).size := by
        rw [Array.size_append, List.size_toArray, List.length_append, List.length_map, size_zeroCells, byteCells_length]
        have : (Value.int .u8 0).cells.size = 1 := rfl
        rw [this]
        omega
      rw [Array.getElem?_eq_getElem hz]
      rfl

theorem wpList_app_str {w : World} {ops : Array Oper} {rest : List Oper} {o : Oper} {a : Act} {Q : Exit → Act → World → Prop} (hgd : o.guard = none) (s x : Operand) (t tx : TypeId)
    (ho : o.op = .call { callee := .builtin .append, args := #[s, x], argTypes := #[t, tx] }) (ht : P.underlying t = some (.slice 5)) (htx : P.underlying tx = some .string)
    (hinfo : (P.info? 5).map (fun i => (i.zero, i.size, i.bytes)) = some (some (.int .u8 0), 1, 1))
    (ao : Option Addr) (n cap : Nat) (hs : a.eval s = .slice ao n cap) (p : ByteArray) (hx : a.eval x = .string p) (l : List UInt8) (h : Buf w ao n cap l) (hb : n + p.size ≤ 1073741824)
    (hK : ∀ ao' n' cap' w', Buf w' ao' n' cap' (l ++ p.data.toList) → w.grownBy w' (blk ao) → Near w ao ao' → (ao' = none ↔ ao = none ∧ p.size = 0) → wpList P ops Q rest (a.put o.dst (.slice ao' n' cap')) w') : wpList P ops Q (o :: rest) a w := by
  obtain ⟨ao', n', cap', w', hrun, h1, h2, h3, h4⟩ := run_app_str w t tx o.type ht htx hinfo h p hb
  refine wpList_plain hgd fun K hK' => ?_
  unfold Oper.wp
  simp [execOp, ho, resolve, invoke, builtin, hs, hx, hrun, Result.andThen]
  exact hK' _ _ (hK ao' n' cap' w' h1 h2 h3 h4)

/-- '[]byte(s)'. -/
theorem run_bytes_buf (w : World) (src dst : TypeId) (s : ByteArray) (hs : P.underlying src = some .string) (hd : P.underlying dst = some (.slice 5)) (he : P.underlying 5 = some (.int .u8)) :
    ∃ cap' w', (convert src dst (.string s)).run P w = .ok (.slice (some ⟨w.heap.size, 0, none⟩) s.size cap') w' ∧ Buf w' (some ⟨w.heap.size, 0, none⟩) s.size cap' s.data.toList ∧ w.grownBy w' none := by
  have hge := grownCap_ge w s.size 0 5
  have hsz : (bytesRow s (grownCap w s.size 0 5)).size = grownCap w s.size 0 5 := by
    unfold bytesRow
    rw [Array.size_append, Array.size_map, Array.size_replicate]
    have : s.data.size = s.size := rfl
    omega
  refine ⟨_, _, run_bytes_of_string w src dst 5 s hs hd he, ⟨by simp, .inr ⟨w.heap.size, rfl, hge, by simp, ?_, ?_⟩⟩, ⟨rfl, rfl, rfl, by simp, fun k hk _ => heap_alloc_old w.drew _ hk⟩⟩
  · intro j hj
    have hj' : j < s.data.size := by simpa using hj
    rw [show (w.heap.size) = w.drew.heap.size from rfl, World.cell?_alloc_mark, bytesRow_at s _ j hj']
    simp
  · intro j hj
    rw [show (w.heap.size) = w.drew.heap.size from rfl, World.cell?_alloc_mark, World.frozen?_alloc_mark, hsz]
    refine ⟨?_, by simp; omega⟩
    rw [Array.getElem?_eq_getElem (by rw [hsz]; exact hj)]
    rfl

/-- 'string(b)'. -/
theorem run_string_buf (w : World) (src dst : TypeId) (hs : P.underlying src = some (.slice 5)) (he : P.underlying 5 = some (.int .u8)) (hd : P.underlying dst = some .string) {ao : Option Addr} {n cap : Nat} {l : List UInt8} (h : Buf w ao n cap l) :
    (convert src dst (.slice ao n cap)).run P w = .ok (.string ⟨l.toArray⟩) w := by
  have hlen := h.len
  rcases h.row with ⟨rfl, rfl, rfl⟩ | ⟨g, rfl, hn, hlt, hc, hf⟩
  · have hl : l = [] := List.eq_nil_of_length_eq_zero hlen
    subst hl
    rw [run_convert_bytes_string w src dst 5 none 0 0 hs he hd]
    simp [Conv.bytesToString, Sem.run_pure]
    rfl
  · have := run_convert_bytes_back (P := P) w src dst 5 ⟨g, 0, none⟩ cap l hs he hd (fun j hj => by rw [Addr.add_lit, Nat.zero_add]; exact hc j hj)
    rwa [hlen] at this
end Go.Proofs.Qxb6605252a.bs
