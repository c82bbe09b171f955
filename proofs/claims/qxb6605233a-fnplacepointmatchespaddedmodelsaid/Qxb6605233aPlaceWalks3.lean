import Derived.Test.Qxb6605233aPlaceWalks2
namespace Go.Proofs.Qxb6605233a.place
open Go.RowKit Go.Proofs.Qxb6605233a.bs

theorem seg_cells {w : World} {g off : Nat} {l : List Int} (h : Seg w (some ⟨g, off, none⟩) l) : ∀ j, j < l.length → w.cell? ⟨g, off + j, none⟩ = some (.int .u8 (l.getD j 0)) := by
  rcases h with h | ⟨b, o, e, h⟩
  · subst h; intro j hj; simp at hj
  · cases e; exact h

theorem place_any (ad : Option Addr) (nd : Nat) (ld : List Int) (ag : Option Addr) (ng : Nat) (lg : List Int) (p : Nat) (w : World) (hd : ld.length = nd) (hg : lg.length = ng) (hnd : nd ≤ 1048576) (hng : ng ≤ 1048576) (hp : p ≤ 65536)
    (hsd : Seg w ad ld) (hsg : Seg w ag lg) (hag : ag = none ∨ ∃ g, ag = some ⟨g, 0, none⟩) :
    Calls Try.prog 15 #[.slice ad nd nd, .slice ag ng ng, .int .i64 p] w (PlaceP w (ld ++ placed lg p)) := by
  have key : Calls Try.prog 24 #[.slice ad nd nd, .slice ag ng ng, .int .i64 p] w (PlaceP w (ld ++ placed lg p)) := by
    rcases hag with rfl | ⟨g, rfl⟩
    · have h0 : lg = [] := by
        rcases hsg with h | ⟨b, o, e, h⟩
        · exact h
        · cases e
      subst h0
      have hn0 : ng = 0 := by simpa using hg.symm
      subst hn0
      exact place_N ad nd ld p w hd hnd hp hsd
    · by_cases hle : ng ≤ p
      · exact place_A ad nd ld g 0 ng ng lg p w hd hg hnd hng hp hsd (Nat.le_refl _) (seg_cells hsg) hle
      · exact place_B ad nd ld g 0 ng ng lg p w hd hg hnd hng hp hsd (Nat.le_refl _) (seg_cells hsg) (by omega)
  have KEY : Hid (Calls Try.prog 24 #[.slice ad nd nd, .slice ag ng ng, .int .i64 p] w (PlaceP w (ld ++ placed lg p))) := key
  clear key hd hg hnd hng hp hsd hsg hag
  generalize ld ++ placed lg p = out at *
  go_enter Try.func15, Try.ntmps15
  go_wp2_with (go_at_call 24; refine KEY.out.mono ?_; rintro e w' ⟨ao', n', cap', rfl, O⟩)
  go_ret
  exact ⟨ao', n', cap', rfl, O⟩

theorem zz17_yes (a b : Option Addr) (n0 c0 n1 c1 : Nat) (p : Int) (h : n0 + n1 ≤ 1048576) (w : World) :
    Calls Try.prog 17 #[.slice a n0 c0, .slice b n1 c1, .int .i64 p] w fun e w' => e = .returned (.bool true) ∧ w = w' := by
  go_enter Try.func17, Try.ntmps17
  go_wp2
  go_ret
  exact ⟨rfl, rfl⟩
theorem zz17_no (a b : Option Addr) (n0 c0 n1 c1 : Nat) (p : Int) (ha : n0 ≤ maxLen) (hb : n1 ≤ maxLen) (h : ¬ n0 + n1 ≤ 1048576) (w : World) :
    Calls Try.prog 17 #[.slice a n0 c0, .slice b n1 c1, .int .i64 p] w fun e w' => e = .returned (.bool false) ∧ w' = w := by
  unfold maxLen at ha hb
  by_cases h1 : n0 ≤ 1048576
  · by_cases h2 : n1 ≤ 1048576
    · go_enter Try.func17, Try.ntmps17
      go_wp2
      go_ret
      exact ⟨rfl, rfl⟩
    · go_enter Try.func17, Try.ntmps17
      go_wp2
      go_ret
      exact ⟨rfl, rfl⟩
  · go_enter Try.func17, Try.ntmps17
    go_wp2
    go_ret
    exact ⟨rfl, rfl⟩

/-- What the text reads as, piece by piece. -/
theorem out_facts {w : World} {h : Nat} {l0 T : List Int} {n0 K D p co : Nat} (H0 : l0.length = n0) (hK : T.length = K) (hcell : ∀ j, j < (l0 ++ T).length → w.cell? ⟨h, 0 + j, none⟩ = some (.int .u8 ((l0 ++ T).getD j 0)))
    (hKD : K = D + p + 1) (hdot : T.getD D 0 = 46) (hco : n0 + K ≤ co) :
    Seg w (some ⟨h, 0, none⟩) l0 ∧ w.cell? ⟨h, n0 + D, none⟩ = some (.int .u8 46) ∧ Seg w (some ⟨h, n0, none⟩) (T.take D) ∧
    (∀ ao, (¬ co - n0 = D + 1 → ao = some ⟨h, n0 + (D + 1), none⟩) → Seg w ao (T.drop (D + 1))) ∧ (T.take D).length = D ∧ (T.drop (D + 1)).length = K - (D + 1) := by
  have cT : ∀ j, j < T.length → w.cell? ⟨h, n0 + j, none⟩ = some (.int .u8 (T.getD j 0)) := by
    intro j hj
    have := hcell (n0 + j) (by rw [List.length_append]; omega)
    rw [Nat.zero_add] at this
    rw [this]
    simp only [List.getD_eq_getElem?_getD]
    rw [List.getElem?_append_right (by omega), H0, Nat.add_sub_cancel_left]
  refine ⟨?_, ?_, ?_, ?_, ?_, ?_⟩
  · have := Seg.cut hcell 0 n0 (ao := some ⟨h, 0, none⟩) (fun _ _ => rfl)
    rwa [List.take_left' H0, List.drop_zero] at this
  · rw [cT D (by omega), hdot]
  · have := Seg.cut cT 0 D (ao := some ⟨h, n0, none⟩) (fun _ _ => rfl)
    rwa [List.drop_zero] at this
  · intro ao hao
    have := Seg.cut cT (D + 1) K (ao := ao) (fun _ _ => hao (by omega))
    rwa [List.take_of_length_le (by omega)] at this
  · rw [List.length_take]; omega
  · rw [List.length_drop]; omega

theorem own_of_make {w w' w0 : World} {B g N : Nat} (hown : w'.ownsRow B 5 1 (.slice (some ⟨g, 0, none⟩) 0 N) 0 []) (hgrow : w.grownBy w' none) (hb : Below B w0 w) (hB : B ≤ w.heap.size) : Own B w0 w' (some ⟨g, 0, none⟩) 0 N [] :=
  ⟨rfl, hown, hb.grown hgrow hB (by simp), Nat.le_trans hB hgrow.size⟩

theorem trim_any (ao : Option Addr) (n cap : Nat) (l : List Int) (w : World) (hl : l.length = n) (hsh : (ao = none ∧ n = 0 ∧ cap = 0) ∨ ∃ g, ao = some ⟨g, 0, none⟩ ∧ n ≤ cap ∧ cap ≤ maxLen) (hs : Seg w ao l) :
    Calls Try.prog 18 #[.slice ao n cap] w (TrimP l n w) := by
  rcases hsh with ⟨rfl, rfl, rfl⟩ | ⟨g, rfl, h1, h2⟩
  · have h0 : l = [] := List.eq_nil_of_length_eq_zero hl
    subst h0
    exact trim_nil w
  · exact trim_some g 0 n cap l w hl h1 h2 (seg_cells hs)

theorem Own.sh {B : Nat} {w0 w : World} {ao : Option Addr} {n cap : Nat} {l : List Int} (h : Own B w0 w ao n cap l) : (ao = none ∧ n = 0 ∧ cap = 0) ∨ ∃ g, ao = some ⟨g, 0, none⟩ ∧ n ≤ cap ∧ cap ≤ maxLen := by
  rcases h.shape with ⟨h1, h2, h3, _⟩ | ⟨g, h1, _, h3, h4, _⟩
  · exact .inl ⟨h1, h2, h3⟩
  · exact .inr ⟨g, h1, h3, h4⟩

theorem len_is {B : Nat} {w0 w : World} {ao : Option Addr} {n cap : Nat} {X Y : List Int} (h : Own B w0 w ao n cap ([] ++ X ++ Y)) {x y : Nat} (hx : X.length = x) (hy : Y.length = y) {z : Int} (hz : (x : Int) + (y : Int) = z) : ((n : Int) == z) = true := by
  have := h.len
  rw [List.nil_append, List.length_append] at this
  rw [beq_iff_eq]
  omega

/-- Inside the guards. -/
theorem round_in (a0 : Option Addr) (n0 c0 : Nat) (l0 : List Int) (a1 : Option Addr) (n1 c1 : Nat) (l1 : List Int) (p : Nat) (w : World) (h0 : l0.length = n0) (h1 : l1.length = n1) (hs : n0 + n1 ≤ 1048576) (hn0 : n0 ≤ 524288) (hn1 : n1 ≤ 524288) (hp : p ≤ 65536)
    (s0 : Seg w a0 l0) (s1 : Seg w a1 l1) :
    Calls Try.prog 6 #[.slice a0 n0 c0, .slice a1 n1 c1, .int .i64 p] w fun e w' => e = .returned (.bool true) ∧ Below w.heap.size w w' := by
  have H0 : Hid (l0.length = n0) := h0
  have H1 : Hid (l1.length = n1) := h1
  have S0 : Hid (Seg w a0 l0) := s0
  have S1 : Hid (Seg w a1 l1) := s1
  clear h0 h1 s0 s1
  go_enter Try.func6, Try.ntmps6
  go_wp2_with (go_at_call 17; refine (zz17_yes _ _ _ _ _ _ _ hs _).mono ?_; rintro e w' ⟨rfl, rfl⟩)
  refine (clone_any _ _ _ l0 _ H0.out (by omega) S0.out).mono ?_
  rintro e w1 ⟨d, rfl, sd, shd, b1⟩
  have SD1 : Hid (Seg w1 d l0) := sd
  have SG1 : Hid (Seg w1 a1 l1) := Seg.kept S1.out b1
  have B1 : Hid (Below w.heap.size w w1) := b1
  clear sd shd b1 S0 S1
  go_wp2_with fail
  refine (clone_any _ _ _ l1 _ H1.out (by omega) SG1.out).mono ?_
  rintro e w2 ⟨g, rfl, sg, shg, b2⟩
  have SD2 : Hid (Seg w2 d l0) := Seg.kept SD1.out b2
  have SG2 : Hid (Seg w2 g l1) := sg
  have HG : Hid (g = none ∨ ∃ b, g = some ⟨b, 0, none⟩) := shg
  have B2 : Hid (Below w.heap.size w w2) := B1.out.trans (b2.mono B1.out.size)
  clear sg shg b2 SD1 SG1 B1
  go_wp2_with fail
  refine (clone_any _ _ _ l0 _ H0.out (by omega) SD2.out).mono ?_
  rintro e w3 ⟨f, rfl, sf, _, b3⟩
  have SD3 : Hid (Seg w3 d l0) := Seg.kept SD2.out b3
  have SG3 : Hid (Seg w3 g l1) := Seg.kept SG2.out b3
  have SF3 : Hid (Seg w3 f l0) := sf
  have B3 : Hid (Below w.heap.size w w3) := B2.out.trans (b3.mono B2.out.size)
  clear sf b3 SD2 SG2 B2
  go_wp2_with fail
  refine (place_any _ _ l0 _ _ l1 p _ H0.out H1.out (by omega) (by omega) (by omega) SD3.out SG3.out HG.out).mono ?_
  rintro e w4 ⟨ao, no, co, rfl, O⟩
  obtain ⟨h, rfl, hh, hnc, hcm, hcell⟩ : ∃ h, ao = some ⟨h, 0, none⟩ ∧ w3.heap.size ≤ h ∧ no ≤ co ∧ co ≤ maxLen ∧ ∀ j, j < (l0 ++ placed l1 p).length → w4.cell? ⟨h, 0 + j, none⟩ = some (.int .u8 ((l0 ++ placed l1 p).getD j 0)) := by
    rcases O.shape with ⟨_, h0, _, hl⟩ | h
    · have := congrArg List.length hl
      rw [List.length_append, dot_length] at this
      simp at this
    · exact h
  have hlen := O.len
  rw [List.length_append, H0.out] at hlen
  have hdl := dot_length l1 p
  have hdp := dot_pos l1 p
  have hpl := placed_length l1 p
  have hdot := placed_dot l1 p
  have htr := trim_joined l1 p
  rw [H1.out] at hpl
  have b4 := O.bel
  clear O
  generalize dotAt l1 p = D at *
  generalize placed l1 p = T at *
  obtain ⟨K, hK⟩ : ∃ K, T.length = K := ⟨_, rfl⟩
  rw [hK] at hlen hdl hpl
  subst hlen
  unfold maxLen at hcm
  have HTL : Hid (T.length = K) := hK
  have HTR : Hid (trim (T.take D ++ T.drop (D + 1)) = trim l1) := htr
  obtain ⟨f0, hcd, f1, f2, f3, f4⟩ := out_facts H0.out hK hcell hdl hdot hnc
  have S0 : Hid (Seg w4 (some ⟨h, 0, none⟩) l0) := f0
  have ST1 : Hid (Seg w4 (some ⟨h, n0, none⟩) (T.take D)) := f1
  have ST2 : Hid (∀ ao, (¬ co - n0 = D + 1 → ao = some ⟨h, n0 + (D + 1), none⟩) → Seg w4 ao (T.drop (D + 1))) := f2
  have HL1 : Hid ((T.take D).length = D) := f3
  have HL2 : Hid ((T.drop (D + 1)).length = K - (D + 1)) := f4
  have SF4 : Hid (Seg w4 f l0) := Seg.kept SF3.out b4
  have SG4 : Hid (Seg w4 g l1) := Seg.kept SG3.out b4
  have B4 : Hid (Below w.heap.size w w4) := B3.out.trans (b4.mono B3.out.size)
  have HPL : Hid (K = if n1 ≤ p then p + 2 else n1 + 1) := hpl
  have hcn : ¬ co = n0 := by omega
  have hK1 : D + p + 1 ≤ K := by omega
  have hK2 : K ≤ D + p + 1 := by omega
  have hKb : K ≤ 600000 := by rw [hpl]; split <;> omega
  have hdi : (K : Int) - (p : Int) - 1 = (D : Int) := by omega
  clear hpl hK htr hdot f0 f1 f2 f3 f4 hcell hdl b4 SD3 SG3 SF3 B3 hh
  go_wp2_with fail
  refine (equal_any _ _ _ l0 _ _ _ l0 _ H0.out H0.out (by omega) (by omega) S0.out SF4.out).mono ?_
  rintro e w5 ⟨rfl, k5, rfl⟩
  obtain ⟨i0, hi, hz0, hz1, hz2⟩ := info_parts Try.info5
  have hby : i0.bytes * (K - 1) ≤ 281474976710656 := by rw [hz2]; omega
  have hmx : K - 1 ≤ maxLen := by unfold maxLen; omega
  have HGS : Hid ((g = none ∧ n1 = 0 ∧ n1 = 0) ∨ ∃ b, g = some ⟨b, 0, none⟩ ∧ n1 ≤ n1 ∧ n1 ≤ maxLen) := by
    rcases HG.out with hg | ⟨b, hg⟩
    · left
      have hl : l1 = [] := by
        rcases SG4.out with h | ⟨_, _, h, _⟩
        · exact h
        · rw [hg] at h; cases h
      have := H1.out
      rw [hl] at this
      exact ⟨hg, this.symm, this.symm⟩
    · exact .inr ⟨b, hg, Nat.le_refl _, by unfold maxLen; omega⟩
  by_cases hcc : co - n0 = D + 1
  · by_cases hnp : n1 ≤ p
    · have hw1 : K = p + 2 := by rw [HPL.out, if_pos hnp]
      have hw2 : K ≤ p + 2 := by omega
      have hw3 : p + 2 ≤ K := by omega
      clear hw1
      go_wp2_with (first | (at_make; refine wpList_make_own _ rfl _ _ 27 rfl w4.heap.size 5 i0 (.int .u8 0) 1 Try.underlying27 hi hz0 hz1 _ _ _ (K - 1) rfl rfl (by omega) hby hmx (Nat.le_refl _) ?_; intro w6 hown hgrow; have O6 : Own w4.heap.size w4 w6 (some ⟨w4.heap.size, 0, none⟩) 0 (K - 1) [] := own_of_make hown hgrow (below_drewN (Below.refl _ _) _) (Nat.le_refl _)) | (at_builtin; refine wpList_app rfl (.tmp 72) (.tmp 75) 27 rfl Try.underlying27 Try.info5 _ _ _ rfl _ _ _ rfl w4.heap.size w4 [] (T.take D) O6 (Seg.kept ST1.out O6.bel) HL1.out (by simp) (by omega) ?_; intro a7 n7 c7 w7 b7 O7) | (at_builtin; refine wpList_app rfl (.tmp 77) (.tmp 81) 27 rfl Try.underlying27 Try.info5 _ _ _ rfl _ _ _ rfl w4.heap.size w4 ([] ++ T.take D) (T.drop (D + 1)) O7 (Seg.kept (ST2.out _ (fun h => absurd hcc h)) O7.bel) HL2.out (by simp) (by omega) ?_; intro a8 n8 c8 w8 b8 O8; have e8 : ((n8 : Int) == (p : Int) + 1) = true := len_is O8 HL1.out HL2.out (by omega)))
      refine (trim_any _ _ _ _ _ O8.len (Own.sh O8) O8.seg).mono ?_
      rintro e w9 ⟨a9, n9, c9, rfl, l9, m9, s9, rfl⟩
      have S9 : Hid (Seg w8 a9 (trim ([] ++ T.take D ++ T.drop (D + 1)))) := s9
      have L9 : Hid ((trim ([] ++ T.take D ++ T.drop (D + 1))).length = n9) := l9
      have SG8 : Hid (Seg w8 g l1) := Seg.kept SG4.out O8.bel
      have B8 : Hid (Below w.heap.size w w8) := B4.out.trans (O8.bel.mono B4.out.size)
      clear s9 l9 O6 O7 O8
      go_wp2_with fail
      refine (trim_any _ _ _ l1 _ H1.out (HGS.out) SG8.out).mono ?_
      rintro e w10 ⟨a10, n10, c10, rfl, l10, m10, s10, rfl⟩
      have S10 : Hid (Seg w8 a10 (trim l1)) := s10
      have L10 : Hid ((trim l1).length = n10) := l10
      clear s10 l10
      go_wp2_with fail
      refine (equal_any _ _ _ _ _ _ _ _ _ L9.out L10.out (by omega) (by omega) S9.out S10.out).mono ?_
      rintro e w11 ⟨rfl, k11, rfl⟩
      have heq : trim ([] ++ T.take D ++ T.drop (D + 1)) = trim l1 := HTR.out
      rw [decide_eq_true heq]
      clear heq
      go_wp2
      go_ret
      exact ⟨rfl, below_drewN B8.out _⟩
    · have hw1 : K = n1 + 1 := by rw [HPL.out, if_neg hnp]
      have hw2 : K ≤ n1 + 1 := by omega
      have hw3 : n1 + 1 ≤ K := by omega
      clear hw1
      go_wp2_with (first | (at_make; refine wpList_make_own _ rfl _ _ 27 rfl w4.heap.size 5 i0 (.int .u8 0) 1 Try.underlying27 hi hz0 hz1 _ _ _ (K - 1) rfl rfl (by omega) hby hmx (Nat.le_refl _) ?_; intro w6 hown hgrow; have O6 : Own w4.heap.size w4 w6 (some ⟨w4.heap.size, 0, none⟩) 0 (K - 1) [] := own_of_make hown hgrow (below_drewN (Below.refl _ _) _) (Nat.le_refl _)) | (at_builtin; refine wpList_app rfl (.tmp 72) (.tmp 75) 27 rfl Try.underlying27 Try.info5 _ _ _ rfl _ _ _ rfl w4.heap.size w4 [] (T.take D) O6 (Seg.kept ST1.out O6.bel) HL1.out (by simp) (by omega) ?_; intro a7 n7 c7 w7 b7 O7) | (at_builtin; refine wpList_app rfl (.tmp 77) (.tmp 81) 27 rfl Try.underlying27 Try.info5 _ _ _ rfl _ _ _ rfl w4.heap.size w4 ([] ++ T.take D) (T.drop (D + 1)) O7 (Seg.kept (ST2.out _ (fun h => absurd hcc h)) O7.bel) HL2.out (by simp) (by omega) ?_; intro a8 n8 c8 w8 b8 O8; have e8 : ((n8 : Int) == (n1 : Int)) = true := len_is O8 HL1.out HL2.out (by omega)))
      refine (trim_any _ _ _ _ _ O8.len (Own.sh O8) O8.seg).mono ?_
      rintro e w9 ⟨a9, n9, c9, rfl, l9, m9, s9, rfl⟩
      have S9 : Hid (Seg w8 a9 (trim ([] ++ T.take D ++ T.drop (D + 1)))) := s9
      have L9 : Hid ((trim ([] ++ T.take D ++ T.drop (D + 1))).length = n9) := l9
      have SG8 : Hid (Seg w8 g l1) := Seg.kept SG4.out O8.bel
      have B8 : Hid (Below w.heap.size w w8) := B4.out.trans (O8.bel.mono B4.out.size)
      clear s9 l9 O6 O7 O8
      go_wp2_with fail
      refine (trim_any _ _ _ l1 _ H1.out (HGS.out) SG8.out).mono ?_
      rintro e w10 ⟨a10, n10, c10, rfl, l10, m10, s10, rfl⟩
      have S10 : Hid (Seg w8 a10 (trim l1)) := s10
      have L10 : Hid ((trim l1).length = n10) := l10
      clear s10 l10
      go_wp2_with fail
      refine (equal_any _ _ _ _ _ _ _ _ _ L9.out L10.out (by omega) (by omega) S9.out S10.out).mono ?_
      rintro e w11 ⟨rfl, k11, rfl⟩
      have heq : trim ([] ++ T.take D ++ T.drop (D + 1)) = trim l1 := HTR.out
      rw [decide_eq_true heq]
      clear heq
      go_wp2
      go_ret
      exact ⟨rfl, below_drewN B8.out _⟩
  · by_cases hnp : n1 ≤ p
    · have hw1 : K = p + 2 := by rw [HPL.out, if_pos hnp]
      have hw2 : K ≤ p + 2 := by omega
      have hw3 : p + 2 ≤ K := by omega
      clear hw1
      go_wp2_with (first | (at_make; refine wpList_make_own _ rfl _ _ 27 rfl w4.heap.size 5 i0 (.int .u8 0) 1 Try.underlying27 hi hz0 hz1 _ _ _ (K - 1) rfl rfl (by omega) hby hmx (Nat.le_refl _) ?_; intro w6 hown hgrow; have O6 : Own w4.heap.size w4 w6 (some ⟨w4.heap.size, 0, none⟩) 0 (K - 1) [] := own_of_make hown hgrow (below_drewN (Below.refl _ _) _) (Nat.le_refl _)) | (at_builtin; refine wpList_app rfl (.tmp 72) (.tmp 75) 27 rfl Try.underlying27 Try.info5 _ _ _ rfl _ _ _ rfl w4.heap.size w4 [] (T.take D) O6 (Seg.kept ST1.out O6.bel) HL1.out (by simp) (by omega) ?_; intro a7 n7 c7 w7 b7 O7) | (at_builtin; refine wpList_app rfl (.tmp 77) (.tmp 81) 27 rfl Try.underlying27 Try.info5 _ _ _ rfl _ _ _ rfl w4.heap.size w4 ([] ++ T.take D) (T.drop (D + 1)) O7 (Seg.kept (ST2.out _ (fun _ => rfl)) O7.bel) HL2.out (by simp) (by omega) ?_; intro a8 n8 c8 w8 b8 O8; have e8 : ((n8 : Int) == (p : Int) + 1) = true := len_is O8 HL1.out HL2.out (by omega)))
      refine (trim_any _ _ _ _ _ O8.len (Own.sh O8) O8.seg).mono ?_
      rintro e w9 ⟨a9, n9, c9, rfl, l9, m9, s9, rfl⟩
      have S9 : Hid (Seg w8 a9 (trim ([] ++ T.take D ++ T.drop (D + 1)))) := s9
      have L9 : Hid ((trim ([] ++ T.take D ++ T.drop (D + 1))).length = n9) := l9
      have SG8 : Hid (Seg w8 g l1) := Seg.kept SG4.out O8.bel
      have B8 : Hid (Below w.heap.size w w8) := B4.out.trans (O8.bel.mono B4.out.size)
      clear s9 l9 O6 O7 O8
      go_wp2_with fail
      refine (trim_any _ _ _ l1 _ H1.out (HGS.out) SG8.out).mono ?_
      rintro e w10 ⟨a10, n10, c10, rfl, l10, m10, s10, rfl⟩
      have S10 : Hid (Seg w8 a10 (trim l1)) := s10
      have L10 : Hid ((trim l1).length = n10) := l10
      clear s10 l10
      go_wp2_with fail
      refine (equal_any _ _ _ _ _ _ _ _ _ L9.out L10.out (by omega) (by omega) S9.out S10.out).mono ?_
      rintro e w11 ⟨rfl, k11, rfl⟩
      have heq : trim ([] ++ T.take D ++ T.drop (D + 1)) = trim l1 := HTR.out
      rw [decide_eq_true heq]
      clear heq
      go_wp2
      go_ret
      exact ⟨rfl, below_drewN B8.out _⟩
    · have hw1 : K = n1 + 1 := by rw [HPL.out, if_neg hnp]
      have hw2 : K ≤ n1 + 1 := by omega
      have hw3 : n1 + 1 ≤ K := by omega
      clear hw1
      go_wp2_with (first | (at_make; refine wpList_make_own _ rfl _ _ 27 rfl w4.heap.size 5 i0 (.int .u8 0) 1 Try.underlying27 hi hz0 hz1 _ _ _ (K - 1) rfl rfl (by omega) hby hmx (Nat.le_refl _) ?_; intro w6 hown hgrow; have O6 : Own w4.heap.size w4 w6 (some ⟨w4.heap.size, 0, none⟩) 0 (K - 1) [] := own_of_make hown hgrow (below_drewN (Below.refl _ _) _) (Nat.le_refl _)) | (at_builtin; refine wpList_app rfl (.tmp 72) (.tmp 75) 27 rfl Try.underlying27 Try.info5 _ _ _ rfl _ _ _ rfl w4.heap.size w4 [] (T.take D) O6 (Seg.kept ST1.out O6.bel) HL1.out (by simp) (by omega) ?_; intro a7 n7 c7 w7 b7 O7) | (at_builtin; refine wpList_app rfl (.tmp 77) (.tmp 81) 27 rfl Try.underlying27 Try.info5 _ _ _ rfl _ _ _ rfl w4.heap.size w4 ([] ++ T.take D) (T.drop (D + 1)) O7 (Seg.kept (ST2.out _ (fun _ => rfl)) O7.bel) HL2.out (by simp) (by omega) ?_; intro a8 n8 c8 w8 b8 O8; have e8 : ((n8 : Int) == (n1 : Int)) = true := len_is O8 HL1.out HL2.out (by omega)))
      refine (trim_any _ _ _ _ _ O8.len (Own.sh O8) O8.seg).mono ?_
      rintro e w9 ⟨a9, n9, c9, rfl, l9, m9, s9, rfl⟩
      have S9 : Hid (Seg w8 a9 (trim ([] ++ T.take D ++ T.drop (D + 1)))) := s9
      have L9 : Hid ((trim ([] ++ T.take D ++ T.drop (D + 1))).length = n9) := l9
      have SG8 : Hid (Seg w8 g l1) := Seg.kept SG4.out O8.bel
      have B8 : Hid (Below w.heap.size w w8) := B4.out.trans (O8.bel.mono B4.out.size)
      clear s9 l9 O6 O7 O8
      go_wp2_with fail
      refine (trim_any _ _ _ l1 _ H1.out (HGS.out) SG8.out).mono ?_
      rintro e w10 ⟨a10, n10, c10, rfl, l10, m10, s10, rfl⟩
      have S10 : Hid (Seg w8 a10 (trim l1)) := s10
      have L10 : Hid ((trim l1).length = n10) := l10
      clear s10 l10
      go_wp2_with fail
      refine (equal_any _ _ _ _ _ _ _ _ _ L9.out L10.out (by omega) (by omega) S9.out S10.out).mono ?_
      rintro e w11 ⟨rfl, k11, rfl⟩
      have heq : trim ([] ++ T.take D ++ T.drop (D + 1)) = trim l1 := HTR.out
      rw [decide_eq_true heq]
      clear heq
      go_wp2
      go_ret
      exact ⟨rfl, below_drewN B8.out _⟩
end Go.Proofs.Qxb6605233a.place
