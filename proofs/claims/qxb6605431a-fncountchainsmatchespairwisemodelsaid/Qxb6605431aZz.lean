import Derived.Test.Qxb6605431aCount1
namespace Go.Proofs.Qxb6605431a.cc
open Go.RowKit

theorem Try.info42 : (Try.prog.info? 42).map (fun i => (i.zero, i.size, i.bytes)) = some (some (.agg #[.slice none 0 0, .int .i64 0, .int .i64 0, .int .u64 0, .int .u64 0]), 5, 56) := by kernel_rfl

theorem Arr.ofOwn5 {w : World} {base g n : Nat} {e : TypeId} {xs : List Value} (h : w.ownsRow base e 5 (.slice (some ⟨g, 0, none⟩) n n) n xs) : Arr w g e xs ∧ xs.length = n * 5 := by
  rcases h.2 with ⟨h', _⟩ | ⟨g', cap', cur, h', hb, hg, _, _, hs, ht⟩
  · simp at h'
  · simp only [Value.slice.injEq, Option.some.injEq, Addr.mk.injEq, and_true, true_and] at h'
    obtain ⟨rfl, rfl⟩ := h'
    refine ⟨?_, h.1⟩
    unfold Arr
    rw [hg]
    have : cur.toList = xs := by
      rw [← ht, List.take_of_length_le (by rw [Array.length_toList, hs]; exact Nat.le_refl _)]
    rw [← this]

/-- 'make([]event, n)'. -/
theorem wpList_mk5 {P : Program} {w : World} {ops : Array Oper} {rest : List Oper} {o : Oper} {a : Act} {Q : Exit → Act → World → Prop}
    (hg : o.guard = none) (l c : Operand) (t : TypeId) (hop : o.op = Op.makeSlice t l c) (e : TypeId) (z : Value) (bytes : Nat) (h1 : P.underlying t = some (.slice e))
    (hinfo : (P.info? e).map (fun i => (i.zero, i.size, i.bytes)) = some (some z, 5, bytes))
    (kl kc : IntKind) (L C : Int) (n : Nat) (hl : a.eval l = .int kl L) (hc : a.eval c = .int kc C) (hL : L = (n : Int)) (hC : C = (n : Int)) (b2 : bytes * n ≤ 281474976710656) (b3 : n ≤ maxLen)
    (hK : ∀ w' xs, xs.length = n * 5 → Arr w' w.heap.size e xs → w.grownBy w' none → wpList P ops Q rest (a.put o.dst (.slice (some ⟨w.heap.size, 0, none⟩) n n)) w') :
    wpList P ops Q (o :: rest) a w := by
  obtain ⟨i0, hi, hz0, hz1, hz2⟩ := info_parts hinfo
  refine wpList_make_full w hg l c t hop w.heap.size e i0 z 5 h1 hi hz0 hz1 kl kc L C n hl hc hL hC (by rw [hz2]; exact b2) b3 (Nat.le_refl _) ?_
  intro w' hown hgrow
  obtain ⟨h1, h2⟩ := Arr.ofOwn5 hown
  exact hK w' _ h2 h1 hgrow

structure Inp (r : Run) (w : World) (gs gp gk : Nat) : Prop where
  s : ∀ a, a < r.N → ∃ tv, w.cell? ⟨gs, a, none⟩ = some tv ∧ Ts w tv (r.S a)
  p : ∀ a, a < r.N → w.cell? ⟨gp, a, none⟩ = some (.int .i64 (r.P a : Nat))
  k : ∀ a, a < r.N → w.cell? ⟨gk, a, none⟩ = some (.int .i64 (r.K a : Nat))

structure EvI (r : Run) (w : World) (g8 ge : Nat) (wr : World) (a : Nat) : Prop where
  bel : Below w.heap.size w wr
  b8 : w.heap.size ≤ g8
  be : w.heap.size ≤ ge
  A8 : Arr wr g8 37 [.int .u64 0, .int .u64 0, .int .u64 0]
  A : ∃ xs, xs.length = r.N * 5 ∧ Arr wr ge 42 xs ∧ ∀ b, b < a → ∃ tv, Ts w tv (r.S b) ∧ xs[b * 5]? = some tv ∧ xs[b * 5 + 1]? = some (.int .i64 (r.P b : Nat)) ∧ xs[b * 5 + 2]? = some (.int .i64 (r.K b : Nat)) ∧ xs[b * 5 + 3]? = some (.int .u64 0) ∧ xs[b * 5 + 4]? = some (.int .u64 0)

theorem EvI.evs {r : Run} {w : World} {g8 ge : Nat} {wr : World} (h : EvI r w g8 ge wr r.N) : Evs r wr ge := by
  obtain ⟨xs, _, hA, hx⟩ := h.A
  intro a ha
  obtain ⟨tv, h0, h1, h2, h3, h4, h5⟩ := hx a ha
  exact ⟨tv, h0.kept h.bel, by rw [hA.cell, h1], by rw [hA.cell, h2], by rw [hA.cell, h3], by rw [hA.cell, h4], by rw [hA.cell, h5]⟩

theorem EvI.kept {r : Run} {w : World} {g8 ge : Nat} {wr w' : World} {a : Nat} (h : EvI r w g8 ge wr a) (hg : wr.grownBy w' none) : EvI r w g8 ge w' a := by
  obtain ⟨xs, hl, hA, hx⟩ := h.A
  exact ⟨h.bel.grown hg h.bel.size (by simp), h.b8, h.be, h.A8.grown hg (by simp), xs, hl, hA.grown hg (by simp), hx⟩

theorem EvI.step {r : Run} {w : World} {g8 ge : Nat} {wr : World} {a : Nat} (h : EvI r w g8 ge wr a) (ha : a < r.N) {tv : Value} (ht : Ts w tv (r.S a)) :
    EvI r w g8 ge (((((wr.setCell ⟨ge, a * 5, none⟩ tv).setCell ⟨ge, a * 5 + 1, none⟩ (.int .i64 (r.P a : Nat))).setCell ⟨ge, a * 5 + 2, none⟩ (.int .i64 (r.K a : Nat))).setCell ⟨ge, a * 5 + 3, none⟩ (.int .u64 0)).setCell ⟨ge, a * 5 + 4, none⟩ (.int .u64 0)) (a + 1) := by
  obtain ⟨xs, hl, hA, hx⟩ := h.A
  refine ⟨((((h.bel.setCell h.be _).setCell h.be _).setCell h.be _).setCell h.be _).setCell h.be _, h.b8, h.be, ?_, _, ?_, ((((hA.set _ _).set _ _).set _ _).set _ _).set _ _, ?_⟩
  · have hn : ge ≠ g8 := hA.ne h.A8 (by decide)
    exact ((((h.A8.other hn _).other hn _).other hn _).other hn _).other hn _
  · simpa using hl
  · intro b hb
    by_cases e : b = a
    · subst e
      refine ⟨tv, ht, ?_, ?_, ?_, ?_, ?_⟩ <;> repeat (first | rw [List.getElem?_set_self (by omega)] | rw [List.getElem?_set_self (by simp only [List.length_set]; omega)] | rw [List.getElem?_set_ne (by omega)])
    · obtain ⟨tv', h0, h1, h2, h3, h4, h5⟩ := hx b (by omega)
      refine ⟨tv', h0, ?_, ?_, ?_, ?_, ?_⟩ <;> (repeat rw [List.getElem?_set_ne (by omega)]) <;> assumption

set_option maxRecDepth 100000 in
set_option maxHeartbeats 4000000 in
theorem zz_any (r : Run) (ok : r.Ok) (gs gp gk : Nat) (ac : Option Addr) (cc : Nat) (w : World) (hN : r.N ≤ 4096) (hnc : r.nc ≤ 4096) (hI : Inp r w gs gp gk) (hC : Chn r w (.slice ac r.nc cc)) (hL : ∀ j, r.L j ≤ 4096) :
    Calls Try.prog 9 #[.slice (some ⟨gs, 0, none⟩) r.N r.N, .slice (some ⟨gp, 0, none⟩) r.N r.N, .slice (some ⟨gk, 0, none⟩) r.N r.N, .slice ac r.nc cc] w (CountP r w) := by
  have HI : Hid (Inp r w gs gp gk) := hI
  have HC : Hid (Chn r w (.slice ac r.nc cc)) := hC
  have HOK : Hid r.Ok := ok
  have HLL : Hid (∀ j, r.L j ≤ 4096) := hL
  clear hI hC ok hL
  have hm : r.N ≤ maxLen := by unfold maxLen; omega
  go_enter Try.func9, Try.ntmps9
  go_wp2_with (at_make; refine wpList_mk5 rfl (.tmp 13) (.tmp 13) 40 rfl 42 (.agg #[.slice none 0 0, .int .i64 0, .int .i64 0, .int .u64 0, .int .u64 0]) 56 Try.underlying40 Try.info42 _ _ _ _ r.N rfl rfl rfl rfl (by omega) hm ?_; intro w1 xs X1 A1 G1)
  have HE : Hid (EvI r w w.heap.size (w.heap.size + 1) w1 0) := by
    have b0 : Below w.heap.size w (w.alloc (.cells #[.int .u64 0, .int .u64 0, .int .u64 0] 37)) := (Below.refl _ _).alloc (Nat.le_refl _) _
    refine ⟨b0.grown G1 (by simp) (by simp), Nat.le_refl _, by omega, (Arr.new w [.int .u64 0, .int .u64 0, .int .u64 0] 37).grown G1 (by simp), xs, X1, ?_, fun b h => absurd h (by omega)⟩
    simpa using A1
  clear A1 G1 X1 hm
  generalize hgg4 : w.heap.size = g8 at *
  have HG8 : Hid (w.heap.size = g8) := hgg4
  clear hgg4
  go_loopw [17] (fun i wr => ∃ (a : Nat), a ≤ r.N ∧ i = .int .i64 a ∧ Hid (EvI r w g8 (g8 + 1) wr a)) (fun i _ => r.N - (intOf i).toNat)
  case atStart => exact ⟨0, Nat.zero_le _, rfl, HE⟩
  case round =>
    clear HE
    obtain ⟨a, hk, rfl, HE⟩ := hrel
    by_cases hlt : a < r.N
    · obtain ⟨tv, hs0, hts⟩ := HI.out.s a hlt
      have hs := cell_kept hs0 HE.out.bel
      have hp := cell_kept (HI.out.p a hlt) HE.out.bel
      have hkk := cell_kept (HI.out.k a hlt) HE.out.bel
      obtain ⟨at_, nt, ct, hv, _, _, _, _⟩ := hts.ex
      subst hv
      have HTS : Hid (Ts w (.slice at_ nt ct) (r.S a)) := hts
      clear hts hs0
      obtain ⟨xs1, hx1, hA1, hx2⟩ := HE.out.A
      have hai : (a : Int) < (r.N : Int) := by omega
      obtain ⟨y0, hc0⟩ : ∃ v, wr.cell? ⟨g8 + 1, a * 5, none⟩ = some v := ⟨_, by rw [hA1.cell, List.getElem?_eq_getElem (by omega)]⟩
      obtain ⟨y1, hc1⟩ : ∃ v, wr.cell? ⟨g8 + 1, a * 5 + 1, none⟩ = some v := ⟨_, by rw [hA1.cell, List.getElem?_eq_getElem (by omega)]⟩
      obtain ⟨y2, hc2⟩ : ∃ v, wr.cell? ⟨g8 + 1, a * 5 + 2, none⟩ = some v := ⟨_, by rw [hA1.cell, List.getElem?_eq_getElem (by omega)]⟩
      obtain ⟨y3, hc3⟩ : ∃ v, wr.cell? ⟨g8 + 1, a * 5 + 3, none⟩ = some v := ⟨_, by rw [hA1.cell, List.getElem?_eq_getElem (by omega)]⟩
      obtain ⟨y4, hc4⟩ : ∃ v, wr.cell? ⟨g8 + 1, a * 5 + 4, none⟩ = some v := ⟨_, by rw [hA1.cell, List.getElem?_eq_getElem (by omega)]⟩
      have hf0 := hA1.free (a * 5)
      have hf1 := hA1.free (a * 5 + 1)
      have hf2 := hA1.free (a * 5 + 2)
      have hf3 := hA1.free (a * 5 + 3)
      have hf4 := hA1.free (a * 5 + 4)
      have HXX : Hid (xs1.length = r.N * 5 ∧ Arr wr (g8 + 1) 42 xs1 ∧ ∀ b, b < a → ∃ tv, Ts w tv (r.S b) ∧ xs1[b * 5]? = some tv ∧ xs1[b * 5 + 1]? = some (.int .i64 (r.P b : Nat)) ∧ xs1[b * 5 + 2]? = some (.int .i64 (r.K b : Nat)) ∧ xs1[b * 5 + 3]? = some (.int .u64 0) ∧ xs1[b * 5 + 4]? = some (.int .u64 0)) := ⟨hx1, hA1, hx2⟩
      clear hx1 hA1 hx2
      go_wp2_with fail
      go_region
      all_goals (try go_wp2_with fail)
      go_roundw
      case rel => exact ⟨a + 1, by omega, by go_num, (by first | exact HE.out.step hlt HTS.out | exact (HE.out.step hlt HTS.out).kept (grownBy_drewN _ _ _))⟩
      case measure => simp [intOf]; omega
    · have han : a = r.N := by omega
      subst han
      have HEv : Hid (Evs r wr (g8 + 1)) := HE.out.evs
      have HCv : Hid (Chn r wr (.slice ac r.nc cc)) := HC.out.kept HE.out.bel
      go_wp2_with fail
      refine (count_any r HOK.out (g8 + 1) ac cc wr hN hnc HEv.out HCv.out HLL.out).mono ?_
      rintro e w3 ⟨rfl, hb3⟩
      have A8 := HE.out.A8.below hb3 HE.out.A8.lt
      have HB3 : Hid (Below w.heap.size w w3) := HE.out.bel.trans (hb3.mono HE.out.bel.size)
      have hg8 := HG8.out
      have c0 := A8.cell 0
      have c1 := A8.cell 1
      have c2 := A8.cell 2
      have f0 := A8.free 0
      have f1 := A8.free 1
      have f2 := A8.free 2
      simp only [List.getElem?_cons_zero, List.getElem?_cons_succ] at c0 c1 c2
      clear A8 hb3
      have e8 : w.heap.size ≤ g8 := by omega
      go_wp2_with fail
      refine bodyPost_ret (v := .tuple #[.agg #[.int .u64 (sumN r.D r.N : Nat), .int .u64 (czOf r.N (sumN r.D r.N) (sumN r.Q r.N)), .int .u64 ((sumN r.Q r.N : Nat) / 2 : Int)], .int .u64 (maxN r.h r.N : Nat)]) ?_ rfl ⟨rfl, ((HB3.out.setCell e8 _).setCell e8 _).setCell e8 _⟩
      simp [results, Try.results9, go_sem, c0, c1, c2]
end Go.Proofs.Qxb6605431a.cc
