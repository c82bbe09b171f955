import Derived.Test.Qxb6605252aAddWalks
namespace Go.Proofs.Qxb6605252a.add
open Go.RowKit Go.Proofs.Qxb6605252a.bs

/-- The bytes l lie behind ao. -/
def Seg (w : World) (ao : Option Addr) (l : List UInt8) : Prop :=
  l = [] ∨ ∃ b off, ao = some ⟨b, off, none⟩ ∧ ∀ j (h : j < l.length), w.cell? ⟨b, off + j, none⟩ = some (.int .u8 (l[j].toNat : Nat))

def cells8 (l : List UInt8) : List Value := l.map fun b => Value.int .u8 (b.toNat : Nat)

theorem seg_lt {w : World} {b off : Nat} {l : List UInt8} (h : ∀ j (h : j < l.length), w.cell? ⟨b, off + j, none⟩ = some (.int .u8 (l[j].toNat : Nat))) (hl : l ≠ []) : b < w.heap.size := by
  have h0 := h 0 (List.length_pos_iff.2 hl)
  unfold World.cell? at h0
  by_cases hb : b < w.heap.size
  · exact hb
  · have e : w.heap[b]? = none := by simp; omega
    simp only [e] at h0
    cases h0

theorem seg_news {w : World} {b off : Nat} {l : List UInt8} (h : ∀ j (h : j < l.length), w.cell? ⟨b, off + j, none⟩ = some (.int .u8 (l[j].toNat : Nat))) :
    ∀ j u, (cells8 l)[j]? = some u → w.cell? ((⟨b, off, none⟩ : Addr).add j) = some u := by
  intro j u hu
  have hj : j < l.length := by simpa [cells8] using (List.getElem?_eq_some_iff.1 hu).1
  rw [Addr.add_lit, h j hj, ← hu]
  simp [cells8, hj]

/-- 'copy(c, b)', c a new row of b's length. -/
theorem copy_buf {w w1 : World} {n cap : Nat} {ad : Addr} {l : List UInt8} {xs : List Value}
    (hown : w1.ownsRow w.heap.size 5 1 (.slice (some ⟨w.heap.size, 0, none⟩) n n) n xs) (hgrow : w.grownBy w1 none) (hl : l.length = n) (hseg : Seg w (some ad) l) :
    ∃ w2, (Builtin.copy_ #[22, 22] 3 #[.slice (some ⟨w.heap.size, 0, none⟩) n n, .slice (some ad) n cap]).run Try.prog w1 = .ok (goInt n) w2 ∧ Buf w2 (some ⟨w.heap.size, 0, none⟩) n n l ∧ Below w.heap.size w w2 := by
  have hb1 : Below w.heap.size w w1 := (Below.refl _ _).grown hgrow (Nat.le_refl _) (by simp)
  rcases hown.2 with ⟨h', h0⟩ | ⟨g, cap', cur, h', hbg, hg, hn, hc, hs', ht'⟩
  · simp at h'
  simp only [Value.slice.injEq, Option.some.injEq, Addr.mk.injEq, and_true, true_and] at h'
  obtain ⟨rfl, rfl⟩ := h'
  have hglt : w.heap.size < w1.heap.size := (Array.getElem?_eq_some_iff.1 hg).1
  by_cases hle : l = []
  · subst hle
    have hn0 : n = 0 := by simpa using hl.symm
    subst hn0
    exact ⟨w1, run_copy_none w1 22 22 3 5 _ _ 0 0 0 cap Try.underlying22 Try.size5 (by simp), ⟨rfl, .inr ⟨_, rfl, Nat.le_refl _, hglt, fun j hj => absurd hj (by simp), fun j hj => absurd hj (by omega)⟩⟩, hb1⟩
  · rcases hseg with h | ⟨b, off, e, h⟩
    · exact absurd h hle
    cases e
    have hblt : b < w.heap.size := seg_lt h hle
    have hrun := run_copy_row (P := Try.prog) w1 22 22 3 5 w.heap.size 0 n n ⟨b, off, none⟩ n cap cur 5 (cells8 l) Try.underlying22 Try.size5 hg (by simp [cells8, hl]) (fun j v hj => (hb1.cell (by rw [Addr.add_lit]; exact hblt)).trans (seg_news h j v hj)) (by simp [cells8]; omega) (by
      intro u hu
      obtain ⟨_, _, rfl⟩ := List.mem_map.1 hu
      rfl)
    have e1 : (cells8 l).length = n := by simp [cells8, hl]
    rw [e1] at hrun
    have hh := setRow_heap w1 w.heap.size cur (List.take 0 cur.toList ++ cells8 l ++ List.drop (0 + n) cur.toList).toArray 5 _ hg
    refine ⟨_, hrun, ⟨hl, .inr ⟨_, rfl, Nat.le_refl _, by simpa [World.setRow] using hglt, fun j hj => ?_, fun j hj => ?_⟩⟩, below_setRow hb1 (Nat.le_refl _) _⟩
    · rw [cell_of_row _ _ _ _ _ _ hh]
      simp only [List.take_zero, List.nil_append, List.getElem?_toArray]
      rw [List.getElem?_append_left (by rw [e1]; omega)]
      simp [cells8, hj]
    · rw [cell_of_row _ _ _ _ _ _ hh, frozen_of_row _ _ _ _ _ hh]
      refine ⟨?_, rfl⟩
      simp only [List.take_zero, List.nil_append, List.getElem?_toArray]
      rw [List.getElem?_append_left (by rw [e1]; omega), List.getElem?_eq_getElem (by rw [e1]; omega)]
      rfl

def CloneP (n : Nat) (l : List UInt8) (w : World) (ao : Option Addr) (e : Ending) (w' : World) : Prop :=
  ∃ ao', e = .returned (.slice ao' n n) ∧ Buf w' ao' n n l ∧ (ao' = none ↔ ao = none) ∧ (∀ k, blk ao' = some k → w.heap.size ≤ k) ∧ Below w.heap.size w w'

theorem clone_any (ao : Option Addr) (n cap : Nat) (l : List UInt8) (w : World) (hl : l.length = n) (hn : n ≤ 1048576) (hseg : Seg w ao l) :
    Calls Try.prog 7 #[.slice ao n cap] w (CloneP n l w ao) := by
  have hq := fun w => Go.Lib.run_eql_slice_nil (P := Try.prog) w 22 5 ao n cap 0 0 Try.underlying22
  cases ao with
  | none =>
    have hl0 : l = [] := by
      rcases hseg with h | ⟨_, _, h, _⟩
      · exact h
      · cases h
    subst hl0
    have hn0 : n = 0 := by simpa using hl.symm
    subst hn0
    clear hl hseg hn
    simp only [Option.isNone_none] at hq
    go_enter Try.func7, Try.ntmps7
    go_wp2
    go_ret
    exact ⟨none, rfl, Buf.nil _, Iff.rfl, by simp [blk], Below.refl _ _⟩
  | some ad =>
    simp only [Option.isNone_some] at hq
    obtain ⟨i0, hi, hz0, hz1, hz2⟩ := info_parts Try.info5
    have hm : n ≤ maxLen := by unfold maxLen; omega
    have hby : i0.bytes * n ≤ 281474976710656 := by rw [hz2]; omega
    go_enter Try.func7, Try.ntmps7
    go_wp2_with (at_make; refine wpList_make_full _ rfl _ _ 22 rfl w.heap.size 5 i0 (.int .u8 0) 1 Try.underlying22 hi hz0 hz1 _ _ _ _ n rfl rfl rfl rfl hby hm (Nat.le_refl _) ?_; intro w1 hown hgrow; obtain ⟨w2, hcp, hs2, hb2⟩ := copy_buf (cap := cap) hown hgrow hl hseg)
    go_ret
    exact ⟨_, rfl, hs2, by simp, by simp [blk], hb2⟩

theorem zz_yes (a : ByteArray) (b : Option Addr) (n c : Nat) (p : ByteArray) (h : a.size + n + p.size ≤ 1048576) (w : World) :
    Calls Try.prog 6 #[.string a, .slice b n c, .string p] w fun e w' => e = .returned (.bool true) ∧ w = w' := by
  go_enter Try.func6, Try.ntmps6
  go_wp2
  go_ret
  exact ⟨rfl, rfl⟩
theorem zz_no (a : ByteArray) (b : Option Addr) (n c : Nat) (p : ByteArray) (ha : a.size ≤ maxLen) (hb : n ≤ maxLen) (hp : p.size ≤ maxLen) (h : ¬ a.size + n + p.size ≤ 1048576) (w : World) :
    Calls Try.prog 6 #[.string a, .slice b n c, .string p] w fun e w' => e = .returned (.bool false) ∧ w = w' := by
  unfold maxLen at ha hb hp
  by_cases h1 : a.size ≤ 1048576
  · by_cases h2 : n ≤ 1048576
    · by_cases h3 : a.size + n ≤ 1048576
      · by_cases h4 : p.size ≤ 1048576
        all_goals
          go_enter Try.func6, Try.ntmps6
          go_wp2
          go_ret
          exact ⟨rfl, rfl⟩
      · go_enter Try.func6, Try.ntmps6
        go_wp2
        go_ret
        exact ⟨rfl, rfl⟩
    · go_enter Try.func6, Try.ntmps6
      go_wp2
      go_ret
      exact ⟨rfl, rfl⟩
  · go_enter Try.func6, Try.ntmps6
    go_wp2
    go_ret
    exact ⟨rfl, rfl⟩

theorem toList_app (a b : ByteArray) : (a ++ b).toList = a.toList ++ b.toList := by
  rw [ByteArray.toList_eq, ByteArray.toList_eq, ByteArray.toList_eq]
  simp

theorem toList_mk' (l : List UInt8) : (⟨l.toArray⟩ : ByteArray).toList = l := by
  rw [ByteArray.toList_eq]

theorem size_of_empty {p : ByteArray} (h : p.toList.isEmpty = true) : p.data.toList = [] := by
  rw [ByteArray.toList_eq] at h
  simpa using h

theorem law_nil (s : ByteArray) (p : ByteArray) (w : World) (hs : s.size + 0 + p.size ≤ 1048576) (h1 : s.size ≤ 65536) (h2 : p.size ≤ 65536) :
    Calls Try.prog 3 #[.string s, .slice none 0 0, .string p] w fun e w' => e = .returned (.bool true) ∧ Below w.heap.size w w' := by
  have hq := fun w a n c => Go.Lib.run_eql_slice_nil (P := Try.prog) w 22 5 a n c 0 0 Try.underlying22
  have hnq := fun w a n c => run_neq_slice_nil_any (P := Try.prog) w 22 5 a n c 0 0 Try.underlying22
  have fin : ∀ {w1 w2 : World}, Below w.heap.size w w1 → w1.grownBy w2 none → Below w.heap.size w w2 := fun h g => h.grown g h.size (by simp)
  have FIN : Hid (∀ {w1 w2 : World}, Below w.heap.size w w1 → w1.grownBy w2 none → Below w.heap.size w w2) := fin
  clear fin
  cases hpe : p.toList.isEmpty
  · cases hse : s.toList.isEmpty
    · have t1 : ((⟨(s.data.toList ++ p.data.toList).toArray⟩ : ByteArray).toList == (s ++ p).toList) = true := by
        rw [toList_mk', toList_app, ByteArray.toList_eq, ByteArray.toList_eq]; simp
      go_enter Try.func3, Try.ntmps3
      go_wp2_with (go_at_call 6; refine (zz_yes _ _ _ _ _ hs _).mono ?_; rintro e w' ⟨rfl, rfl⟩)
      refine (clone_any _ 0 _ [] _ rfl (by omega) (.inl rfl)).mono ?_
      rintro e w1 ⟨ao, rfl, B1, hnil, hblk, b1⟩
      have hao : ao = none := hnil.2 rfl
      subst hao
      go_wp2_with fail
      refine (zadd_copy _ _ _ hpe hse (by omega)).mono ?_
      rintro e w2 ⟨ao, n2, c2, rfl, B2, G2, N2, hne⟩
      obtain ⟨x, rfl⟩ : ∃ x, ao = some x := by cases ao with | none => exact absurd rfl hne | some x => exact ⟨x, rfl⟩
      have hcv := run_string_buf (P := Try.prog) w2 22 9 Try.underlying22 Try.underlying5 Try.underlying9 B2
      generalize (⟨(s.data.toList ++ p.data.toList).toArray⟩ : ByteArray) = T at *
      go_wp2_with fail
      go_ret
      exact ⟨rfl, FIN.out b1 G2⟩
    · have t1 : (p.toList == (s ++ p).toList) = true := by
        rw [toList_app, show s.toList = [] by simpa using hse]; simp
      go_enter Try.func3, Try.ntmps3
      go_wp2_with (go_at_call 6; refine (zz_yes _ _ _ _ _ hs _).mono ?_; rintro e w' ⟨rfl, rfl⟩)
      refine (clone_any _ 0 _ [] _ rfl (by omega) (.inl rfl)).mono ?_
      rintro e w1 ⟨ao, rfl, B1, hnil, hblk, b1⟩
      have hao : ao = none := hnil.2 rfl
      subst hao
      go_wp2_with fail
      refine (zadd_first _ _ _ hpe hse).mono ?_
      rintro e w2 ⟨rfl, G2⟩
      go_wp2_with fail
      go_ret
      exact ⟨rfl, FIN.out b1 G2⟩
  · have t1 : (s.toList == (s ++ p).toList) = true := by
      rw [toList_app, show p.toList = [] by simpa using hpe]; simp
    cases hse : s.toList.isEmpty
    all_goals
      go_enter Try.func3, Try.ntmps3
      go_wp2_with (go_at_call 6; refine (zz_yes _ _ _ _ _ hs _).mono ?_; rintro e w' ⟨rfl, rfl⟩)
      refine (clone_any _ 0 _ [] _ rfl (by omega) (.inl rfl)).mono ?_
      rintro e w1 ⟨ao, rfl, B1, hnil, hblk, b1⟩
      have hao : ao = none := hnil.2 rfl
      subst hao
      go_wp2_with fail
      refine (zadd_empty _ _ _ _ _ _ hpe).mono ?_
      rintro e w2 ⟨rfl, G2⟩
      go_wp2_with fail
      go_ret
      exact ⟨rfl, FIN.out b1 G2⟩

theorem law_some (s : ByteArray) (ad : Addr) (n cap : Nat) (l : List UInt8) (p : ByteArray) (w : World) (hl : l.length = n) (hseg : Seg w (some ad) l) (hs : s.size + n + p.size ≤ 1048576) (h1 : s.size ≤ 65536) (hn : n ≤ 65536) (h2 : p.size ≤ 65536) :
    Calls Try.prog 3 #[.string s, .slice (some ad) n cap, .string p] w fun e w' => e = .returned (.bool true) ∧ Below w.heap.size w w' := by
  have hq := fun w a n c => Go.Lib.run_eql_slice_nil (P := Try.prog) w 22 5 a n c 0 0 Try.underlying22
  have hnq := fun w a n c => run_neq_slice_nil_any (P := Try.prog) w 22 5 a n c 0 0 Try.underlying22
  have HL : Hid (l.length = n) := hl
  have HS : Hid (Seg w (some ad) l) := hseg
  clear hl hseg
  have t0 : (s.toList == s.toList) = true := by simp
  cases hpe : p.toList.isEmpty
  · have t1 : ((⟨(l ++ p.data.toList).toArray⟩ : ByteArray).toList == ((⟨l.toArray⟩ : ByteArray) ++ p).toList) = true := by
      rw [toList_mk', toList_app, toList_mk', ByteArray.toList_eq]; simp
    go_enter Try.func3, Try.ntmps3
    go_wp2_with (go_at_call 6; refine (zz_yes _ _ _ _ _ hs _).mono ?_; rintro e w' ⟨rfl, rfl⟩)
    refine (clone_any _ _ _ l _ HL.out (by omega) HS.out).mono ?_
    rintro e w1 ⟨ao, rfl, B1, hnil, hblk, b1⟩
    obtain ⟨g, rfl, hg⟩ : ∃ g, ao = some ⟨g, 0, none⟩ ∧ w.heap.size ≤ g := by
      rcases B1.row with ⟨h, _, _⟩ | ⟨g, h, _⟩
      · exact absurd (hnil.1 h) (by simp)
      · subst h; exact ⟨g, rfl, hblk g rfl⟩
    have hcv1 := run_string_buf (P := Try.prog) w1 22 9 Try.underlying22 Try.underlying5 Try.underlying9 B1
    have HB1 : Hid (Buf w1 (some ⟨g, 0, none⟩) n n l) := B1
    have HBL : Hid (Below w.heap.size w w1) := b1
    clear B1 hnil hblk b1
    have hts : (⟨l.toArray⟩ : ByteArray).size ≤ 65536 := by show l.toArray.size ≤ 65536; have := HL.out; simp; omega
    generalize (⟨l.toArray⟩ : ByteArray) = T1 at *
    go_wp2_with fail
    refine (zadd_more _ _ _ _ l _ _ hpe HB1.out (by omega)).mono ?_
    rintro e w2 ⟨ao, n2, c2, rfl, B2, G2, N2, hne⟩
    obtain ⟨x, rfl⟩ : ∃ x, ao = some x := by cases ao with | none => exact absurd rfl hne | some x => exact ⟨x, rfl⟩
    have hcv := run_string_buf (P := Try.prog) w2 22 9 Try.underlying22 Try.underlying5 Try.underlying9 B2
    have HG2 : Hid (w1.grownBy w2 (some g)) := G2
    clear B2 G2 N2 hne
    generalize (⟨(l ++ p.data.toList).toArray⟩ : ByteArray) = T at *
    go_wp2_with fail
    go_ret
    exact ⟨rfl, HBL.out.grown HG2.out HBL.out.size (by simpa using hg)⟩
  · have t1 : ((⟨l.toArray⟩ : ByteArray).toList == ((⟨l.toArray⟩ : ByteArray) ++ p).toList) = true := by
      rw [toList_app, show p.toList = [] by simpa using hpe]; simp
    go_enter Try.func3, Try.ntmps3
    go_wp2_with (go_at_call 6; refine (zz_yes _ _ _ _ _ hs _).mono ?_; rintro e w' ⟨rfl, rfl⟩)
    refine (clone_any _ _ _ l _ HL.out (by omega) HS.out).mono ?_
    rintro e w1 ⟨ao, rfl, B1, hnil, hblk, b1⟩
    obtain ⟨g, rfl, hg⟩ : ∃ g, ao = some ⟨g, 0, none⟩ ∧ w.heap.size ≤ g := by
      rcases B1.row with ⟨h, _, _⟩ | ⟨g, h, _⟩
      · exact absurd (hnil.1 h) (by simp)
      · subst h; exact ⟨g, rfl, hblk g rfl⟩
    have hcv1 := run_string_buf (P := Try.prog) w1 22 9 Try.underlying22 Try.underlying5 Try.underlying9 B1
    have HB1 : Hid (Buf w1 (some ⟨g, 0, none⟩) n n l) := B1
    have HBL : Hid (Below w.heap.size w w1) := b1
    clear B1 hnil hblk b1
    go_wp2_with fail
    refine (zadd_empty _ _ _ _ _ _ hpe).mono ?_
    rintro e w2 ⟨rfl, G2⟩
    have B2 : Buf w2 (some ⟨g, 0, none⟩) n n l := HB1.out.kept G2 (.inr (by simp [blk]))
    have hcv := run_string_buf (P := Try.prog) w2 22 9 Try.underlying22 Try.underlying5 Try.underlying9 B2
    have HG2 : Hid (w1.grownBy w2 none) := G2
    clear B2 G2
    have hts : (⟨l.toArray⟩ : ByteArray).size ≤ 65536 := by show l.toArray.size ≤ 65536; have := HL.out; simp; omega
    generalize (⟨l.toArray⟩ : ByteArray) = T at *
    go_wp2_with fail
    go_ret
    exact ⟨rfl, HBL.out.grown HG2.out HBL.out.size (by simp)⟩
end Go.Proofs.Qxb6605252a.add
