import Derived.Test.Qxb6605431aLeaf
namespace Go.Proofs.Qxb6605431a.cc
open Go.RowKit

theorem drewN_more {w wr : World} (h : ∃ n, wr = w.drewN n) (m : Nat) : ∃ n, wr.drewN m = w.drewN n := by
  obtain ⟨n, rfl⟩ := h
  exact ⟨n + m, by simp⟩

/-- What Compare answers. -/
def CmpP (r : Int) (w : World) (e : Ending) (w' : World) : Prop := e = .returned (.int .i64 r) ∧ ∃ n, w' = w.drewN n

theorem rel_lt {a b : List Int} {k : Nat} (hall : ∀ j, j < k → a.getD j 0 = b.getD j 0) (h : a.getD k 0 < b.getD k 0) : relZ a b = if leqB (a.drop (k + 1)) (b.drop (k + 1)) then 1 else 3 := by
  rw [relZ, leqB_bad b a k h, leqB_split a b k hall (by omega)]
  rfl

theorem rel_gt {a b : List Int} {k : Nat} (hall : ∀ j, j < k → a.getD j 0 = b.getD j 0) (h : b.getD k 0 < a.getD k 0) : relZ a b = if leqB (b.drop (k + 1)) (a.drop (k + 1)) then 2 else 3 := by
  rw [relZ, leqB_bad a b k h, leqB_split b a k (fun j hj => (hall j hj).symm) (by omega)]
  rfl

theorem rel_eq {a b : List Int} {m : Nat} (hm : m = min a.length b.length) (ha : Nn a) (hb : Nn b) (hall : ∀ j, j < m → a.getD j 0 = b.getD j 0) : relZ a b = if nzB (a.drop m) then 2 else if nzB (b.drop m) then 1 else 4 := by
  rw [relZ, leqB_tail a b m hm hb ha hall, leqB_tail b a m (by omega) ha hb (fun j hj => (hall j hj).symm)]
  rcases nz_one a b m hm with h | h <;> rw [h] <;> cases nzB (a.drop m) <;> cases nzB (b.drop m) <;> simp_all

theorem drewN_trans {w wr wv : World} (h : ∃ n, wr = w.drewN n) (h2 : ∃ n, wv = wr.drewN n) : ∃ n, wv = w.drewN n := by
  obtain ⟨n, rfl⟩ := h
  obtain ⟨m, rfl⟩ := h2
  exact ⟨n + m, by simp⟩

theorem Nn.drop {l : List Int} (h : Nn l) (k : Nat) : Nn (l.drop k) := fun i => by rw [getD_drop]; exact h _

/-- 'exceeds' at two cuts. -/
theorem exceeds_cut (ba oa na ca : Nat) (la : List Int) (bb ob nb cb : Nat) (lb : List Int) (w : World) (k : Nat) (ha : la.length = na) (hb : lb.length = nb) (hna : na ≤ 1048576) (hnb : nb ≤ 1048576) (hca : na ≤ ca) (hcb : nb ≤ cb) (ua : Nn la) (ub : Nn lb) (hka : k ≤ na) (hkb : k ≤ nb)
    (sa : ∀ j, j < la.length → w.cell? ⟨ba, oa + j, none⟩ = some (.int .u64 (la.getD j 0))) (sb : ∀ j, j < lb.length → w.cell? ⟨bb, ob + j, none⟩ = some (.int .u64 (lb.getD j 0)))
    (oa' ob' n1 c1 n2 c2 : Nat) (e1 : n1 = na - k) (e2 : n2 = nb - k) (f1 : n1 ≤ c1) (f2 : n2 ≤ c2) (h1 : ca = k ∨ oa' = oa + k) (h2 : cb = k ∨ ob' = ob + k) :
    ∀ wv, (∃ n, wv = w.drewN n) → ∀ n, Calls Try.prog 15 #[.slice (some ⟨ba, oa', none⟩) n1 c1, .slice (some ⟨bb, ob', none⟩) n2 c2] (wv.drewN n) fun e w' => e = .returned (.bool (!leqB (la.drop k) (lb.drop k))) ∧ w' = wv.drewN n := by
  rintro wv ⟨n0, rfl⟩ n
  refine (exceeds_some ba oa' n1 c1 (la.drop k) bb ob' n2 c2 (lb.drop k) ((w.drewN n0).drewN n) (by rw [List.length_drop, ha, e1]) (by rw [List.length_drop, hb, e2]) (by omega) (by omega) (by omega) (by omega) (ua.drop k) (ub.drop k) ?_ ?_).mono ?_
  · intro j hj
    rw [List.length_drop] at hj
    rcases h1 with h | h
    · omega
    · rw [h, Nat.add_assoc, getD_drop]
      exact sa (k + j) (by omega)
  · intro j hj
    rw [List.length_drop] at hj
    rcases h2 with h | h
    · omega
    · rw [h, Nat.add_assoc, getD_drop]
      exact sb (k + j) (by omega)
  · rintro e w' ⟨rfl, rfl⟩
    exact ⟨rfl, rfl⟩

set_option maxHeartbeats 1600000 in
theorem cmp_some (ba oa na ca : Nat) (la : List Int) (bb ob nb cb : Nat) (lb : List Int) (w : World) (ha : la.length = na) (hb : lb.length = nb) (_hna : na ≤ 1048576) (_hnb : nb ≤ 1048576) (_hca : na ≤ ca) (_hcb : nb ≤ cb) (ua : Nn la) (ub : Nn lb)
    (sa : ∀ j, j < la.length → w.cell? ⟨ba, oa + j, none⟩ = some (.int .u64 (la.getD j 0))) (sb : ∀ j, j < lb.length → w.cell? ⟨bb, ob + j, none⟩ = some (.int .u64 (lb.getD j 0))) :
    Calls Try.prog 14 #[.slice (some ⟨ba, oa, none⟩) na ca, .slice (some ⟨bb, ob, none⟩) nb cb] w (CmpP (relZ la lb) w) := by
  have HA : Hid (la.length = na) := ha
  have HB : Hid (lb.length = nb) := hb
  have SA : Hid (∀ j, j < la.length → w.cell? ⟨ba, oa + j, none⟩ = some (.int .u64 (la.getD j 0))) := sa
  have SB : Hid (∀ j, j < lb.length → w.cell? ⟨bb, ob + j, none⟩ = some (.int .u64 (lb.getD j 0))) := sb
  obtain ⟨m, hm⟩ : ∃ m, m = min na nb := ⟨_, rfl⟩
  have HM : Hid (m = min la.length lb.length) := by rw [Hid, ha, hb]; exact hm
  have HUA : Hid (Nn la) := ua
  have HUB : Hid (Nn lb) := ub
  have m1 : m ≤ na := by omega
  have m2 : m ≤ nb := by omega
  have hmn : ∀ w, (Builtin.min_ #[3, 3] 3 #[.int .i64 (na : Int), .int .i64 (nb : Int)]).run Try.prog w = .ok (.int .i64 (m : Int)) w := by
    intro w
    rw [run_min_int2]
    split
    · rw [show (nb : Int) = (m : Int) by omega]
    · rw [show (na : Int) = (m : Int) by omega]
  generalize hr : relZ la lb = r
  have HR : Hid (relZ la lb = r) := hr
  clear ha hb sa sb ua ub hm hr
  go_enter Try.func14, Try.ntmps14
  go_wp2
  go_loopw [7] (fun i wr => ∃ k : Nat, k ≤ m ∧ i = .int .i64 k ∧ Hid (∀ j, j < k → la.getD j 0 = lb.getD j 0) ∧ Hid (∃ n, wr = w.drewN n)) (fun i _ => m - (intOf i).toNat)
  case atStart => exact ⟨0, Nat.zero_le _, rfl, fun j h => absurd h (by omega), 0, rfl⟩
  case round =>
    obtain ⟨k, hk, rfl, HE, HN⟩ := hrel
    have SAr : Hid (∀ j, j < la.length → wr.cell? ⟨ba, oa + j, none⟩ = some (.int .u64 (la.getD j 0))) := by
      obtain ⟨n, rfl⟩ := HN.out; exact SA.out
    have SBr : Hid (∀ j, j < lb.length → wr.cell? ⟨bb, ob + j, none⟩ = some (.int .u64 (lb.getD j 0))) := by
      obtain ⟨n, rfl⟩ := HN.out; exact SB.out
    by_cases hlt : k < m
    · have c1 := SAr.out k (by have := HA.out; omega)
      have c2 := SBr.out k (by have := HB.out; omega)
      have HX : Hid (la.getD k 0 = lb.getD k 0 → ∀ j, j < k + 1 → la.getD j 0 = lb.getD j 0) := by
        intro h j hj
        by_cases e : j = k
        · subst e; exact h
        · exact HE.out j (by omega)
      have HLT : Hid (la.getD k 0 < lb.getD k 0 → r = if leqB (la.drop (k + 1)) (lb.drop (k + 1)) then 1 else 3) := fun h => HR.out.symm.trans (rel_lt HE.out h)
      have HGT : Hid (lb.getD k 0 < la.getD k 0 → r = if leqB (lb.drop (k + 1)) (la.drop (k + 1)) then 2 else 3) := fun h => HR.out.symm.trans (rel_gt HE.out h)
      have HXA : Hid (∀ oa' ob' n1 c1 n2 c2, n1 = na - (k + 1) → n2 = nb - (k + 1) → n1 ≤ c1 → n2 ≤ c2 → (ca = k + 1 ∨ oa' = oa + (k + 1)) → (cb = k + 1 ∨ ob' = ob + (k + 1)) → ∀ wv, (∃ n, wv = wr.drewN n) → ∀ n, Calls Try.prog 15 #[.slice (some ⟨ba, oa', none⟩) n1 c1, .slice (some ⟨bb, ob', none⟩) n2 c2] (wv.drewN n) fun e w' => e = .returned (.bool (!leqB (la.drop (k + 1)) (lb.drop (k + 1)))) ∧ w' = wv.drewN n) :=
        fun oa' ob' n1 c1 n2 c2 e1 e2 f1 f2 h1 h2 => exceeds_cut ba oa na ca la bb ob nb cb lb wr (k + 1) HA.out HB.out (by omega) (by omega) (by omega) (by omega) HUA.out HUB.out (by omega) (by omega) SAr.out SBr.out oa' ob' n1 c1 n2 c2 e1 e2 f1 f2 h1 h2
      have HXB : Hid (∀ ob' oa' n1 c1 n2 c2, n1 = nb - (k + 1) → n2 = na - (k + 1) → n1 ≤ c1 → n2 ≤ c2 → (cb = k + 1 ∨ ob' = ob + (k + 1)) → (ca = k + 1 ∨ oa' = oa + (k + 1)) → ∀ wv, (∃ n, wv = wr.drewN n) → ∀ n, Calls Try.prog 15 #[.slice (some ⟨bb, ob', none⟩) n1 c1, .slice (some ⟨ba, oa', none⟩) n2 c2] (wv.drewN n) fun e w' => e = .returned (.bool (!leqB (lb.drop (k + 1)) (la.drop (k + 1)))) ∧ w' = wv.drewN n) :=
        fun ob' oa' n1 c1 n2 c2 e1 e2 f1 f2 h1 h2 => exceeds_cut bb ob nb cb lb ba oa na ca la wr (k + 1) HB.out HA.out (by omega) (by omega) (by omega) (by omega) HUB.out HUA.out (by omega) (by omega) SBr.out SAr.out ob' oa' n1 c1 n2 c2 e1 e2 f1 f2 h1 h2
      clear SAr SBr
      generalize la.getD k 0 = x at *
      generalize lb.getD k 0 = y at *
      generalize leqB (la.drop (k + 1)) (lb.drop (k + 1)) = q at *
      generalize leqB (lb.drop (k + 1)) (la.drop (k + 1)) = q' at *
      have hki : (k : Int) < (m : Int) := by omega
      by_cases hxy : x = y
      · have HZ : Hid (∀ j, j < k + 1 → la.getD j 0 = lb.getD j 0) := HX.out hxy
        have he : (x == y) = true := by simpa using hxy
        clear hxy
        go_wp2
        go_quiet (fail)
        go_wp2
        go_roundw
        case rel => exact ⟨k + 1, by omega, by go_num, HZ, drewN_more HN.out _⟩
        case measure => simp [intOf]; omega
      · have he : (x == y) = false := by simpa using hxy
        by_cases hl : x < y
        · have hrr := HLT.out hl
          clear HLT HGT HXB hxy
          cases q
          all_goals
            simp at hrr
            subst hrr
            go_wp2
            go_quiet (fail)
            go_wp2
            go_quiet (fail)
            go_wp2
            generalize hwv : World.drewN (World.drewN wr _) _ = wv
            have HV : Hid (∃ n, wv = wr.drewN n) := ⟨_, by rw [← hwv]; simp; rfl⟩
            clear hwv
            by_cases d1 : ca = k + 1
            · by_cases d2 : cb = k + 1
              · go_quiet ((go_at_call 15; exact Calls.quiet_of_same (HXA.out _ _ _ _ _ _ (by omega) (by omega) (by omega) (by omega) (.inl d1) (.inl d2) wv HV.out _)))
                go_wp2
                go_ret
                exact ⟨rfl, drewN_more (drewN_trans HN.out HV.out) _⟩
              · go_quiet ((go_at_call 15; exact Calls.quiet_of_same (HXA.out _ _ _ _ _ _ (by omega) (by omega) (by omega) (by omega) (.inl d1) (.inr rfl) wv HV.out _)))
                go_wp2
                go_ret
                exact ⟨rfl, drewN_more (drewN_trans HN.out HV.out) _⟩
            · by_cases d2 : cb = k + 1
              · go_quiet ((go_at_call 15; exact Calls.quiet_of_same (HXA.out _ _ _ _ _ _ (by omega) (by omega) (by omega) (by omega) (.inr rfl) (.inl d2) wv HV.out _)))
                go_wp2
                go_ret
                exact ⟨rfl, drewN_more (drewN_trans HN.out HV.out) _⟩
              · go_quiet ((go_at_call 15; exact Calls.quiet_of_same (HXA.out _ _ _ _ _ _ (by omega) (by omega) (by omega) (by omega) (.inr rfl) (.inr rfl) wv HV.out _)))
                go_wp2
                go_ret
                exact ⟨rfl, drewN_more (drewN_trans HN.out HV.out) _⟩
        · have hrr := HGT.out (by omega)
          clear HLT HGT HXA hxy
          cases q'
          all_goals
            simp at hrr
            subst hrr
            go_wp2
            go_quiet (fail)
            go_wp2
            go_quiet (fail)
            go_wp2
            generalize hwv : World.drewN wr _ = wv
            have HV : Hid (∃ n, wv = wr.drewN n) := ⟨_, hwv.symm⟩
            clear hwv
            by_cases d1 : ca = k + 1
            · by_cases d2 : cb = k + 1
              · go_quiet ((go_at_call 15; exact Calls.quiet_of_same (HXB.out _ _ _ _ _ _ (by omega) (by omega) (by omega) (by omega) (.inl d2) (.inl d1) wv HV.out _)))
                go_wp2
                go_ret
                exact ⟨rfl, drewN_more (drewN_trans HN.out HV.out) _⟩
              · go_quiet ((go_at_call 15; exact Calls.quiet_of_same (HXB.out _ _ _ _ _ _ (by omega) (by omega) (by omega) (by omega) (.inr rfl) (.inl d1) wv HV.out _)))
                go_wp2
                go_ret
                exact ⟨rfl, drewN_more (drewN_trans HN.out HV.out) _⟩
            · by_cases d2 : cb = k + 1
              · go_quiet ((go_at_call 15; exact Calls.quiet_of_same (HXB.out _ _ _ _ _ _ (by omega) (by omega) (by omega) (by omega) (.inl d2) (.inr rfl) wv HV.out _)))
                go_wp2
                go_ret
                exact ⟨rfl, drewN_more (drewN_trans HN.out HV.out) _⟩
              · go_quiet ((go_at_call 15; exact Calls.quiet_of_same (HXB.out _ _ _ _ _ _ (by omega) (by omega) (by omega) (by omega) (.inr rfl) (.inr rfl) wv HV.out _)))
                go_wp2
                go_ret
                exact ⟨rfl, drewN_more (drewN_trans HN.out HV.out) _⟩
    · have hkm : m = k := by omega
      subst hkm
      have hrr := HR.out.symm.trans (rel_eq HM.out HUA.out HUB.out HE.out)
      have HZA : Hid (∀ wv, (∃ n, wv = wr.drewN n) → ∀ ao n c, n = na - m → (¬ ca = m → ao = some ⟨ba, oa + m, none⟩) → Calls Try.prog 16 #[.slice ao n c] wv fun e w' => e = .returned (.bool (nzB (la.drop m))) ∧ wv = w') := by
        rintro wv ⟨n0, rfl⟩ ao n c hn hao
        exact nz_any ao n c (la.drop m) _ (by rw [List.length_drop, HA.out, hn]) (by omega) (Seg.from (w := wr.drewN n0) SAr.out m (fun h => hao (by have := HA.out; omega)))
      have HZB : Hid (∀ wv, (∃ n, wv = wr.drewN n) → ∀ ao n c, n = nb - m → (¬ cb = m → ao = some ⟨bb, ob + m, none⟩) → Calls Try.prog 16 #[.slice ao n c] wv fun e w' => e = .returned (.bool (nzB (lb.drop m))) ∧ wv = w') := by
        rintro wv ⟨n0, rfl⟩ ao n c hn hao
        exact nz_any ao n c (lb.drop m) _ (by rw [List.length_drop, HB.out, hn]) (by omega) (Seg.from (w := wr.drewN n0) SBr.out m (fun h => hao (by have := HB.out; omega)))
      clear SAr SBr hk
      generalize nzB (la.drop m) = q at *
      generalize nzB (lb.drop m) = q' at *
      have hd : decide ((m : Int) < (m : Int)) = false := by simp
      have HRR : Hid (r = if q = true then 2 else if q' = true then 1 else 4) := hrr
      clear hrr
      by_cases d1 : ca = m
      · by_cases d2 : cb = m
        · go_wp2
          go_quiet (fail)
          go_wp2
          go_quiet (fail)
          go_wp2_with fail
          generalize hwv : World.drewN wr _ = wv
          have HV : Hid (∃ n, wv = wr.drewN n) := ⟨_, hwv.symm⟩
          clear hwv
          refine (HZA.out _ HV.out _ _ _ (by omega) (fun h => absurd d1 h)).mono ?_
          rintro e w' ⟨rfl, rfl⟩
          cases q
          · go_wp2_with fail
            refine (HZB.out _ HV.out _ _ _ (by omega) (fun h => absurd d2 h)).mono ?_
            rintro e w' ⟨rfl, rfl⟩
            cases q'
            all_goals
              have hrr := HRR.out
              simp at hrr
              subst hrr
              go_wp2_with fail
              go_ret
              exact ⟨rfl, drewN_trans HN.out HV.out⟩
          · have hrr := HRR.out
            simp at hrr
            subst hrr
            go_wp2_with fail
            go_ret
            exact ⟨rfl, drewN_trans HN.out HV.out⟩
        · go_wp2
          go_quiet (fail)
          go_wp2
          go_quiet (fail)
          go_wp2_with fail
          generalize hwv : World.drewN wr _ = wv
          have HV : Hid (∃ n, wv = wr.drewN n) := ⟨_, hwv.symm⟩
          clear hwv
          refine (HZA.out _ HV.out _ _ _ (by omega) (fun h => absurd d1 h)).mono ?_
          rintro e w' ⟨rfl, rfl⟩
          cases q
          · go_wp2_with fail
            refine (HZB.out _ HV.out _ _ _ (by omega) (fun _ => rfl)).mono ?_
            rintro e w' ⟨rfl, rfl⟩
            cases q'
            all_goals
              have hrr := HRR.out
              simp at hrr
              subst hrr
              go_wp2_with fail
              go_ret
              exact ⟨rfl, drewN_trans HN.out HV.out⟩
          · have hrr := HRR.out
            simp at hrr
            subst hrr
            go_wp2_with fail
            go_ret
            exact ⟨rfl, drewN_trans HN.out HV.out⟩
      · by_cases d2 : cb = m
        · go_wp2
          go_quiet (fail)
          go_wp2
          go_quiet (fail)
          go_wp2_with fail
          generalize hwv : World.drewN wr _ = wv
          have HV : Hid (∃ n, wv = wr.drewN n) := ⟨_, hwv.symm⟩
          clear hwv
          refine (HZA.out _ HV.out _ _ _ (by omega) (fun _ => rfl)).mono ?_
          rintro e w' ⟨rfl, rfl⟩
          cases q
          · go_wp2_with fail
            refine (HZB.out _ HV.out _ _ _ (by omega) (fun h => absurd d2 h)).mono ?_
            rintro e w' ⟨rfl, rfl⟩
            cases q'
            all_goals
              have hrr := HRR.out
              simp at hrr
              subst hrr
              go_wp2_with fail
              go_ret
              exact ⟨rfl, drewN_trans HN.out HV.out⟩
          · have hrr := HRR.out
            simp at hrr
            subst hrr
            go_wp2_with fail
            go_ret
            exact ⟨rfl, drewN_trans HN.out HV.out⟩
        · go_wp2
          go_quiet (fail)
          go_wp2
          go_quiet (fail)
          go_wp2_with fail
          generalize hwv : World.drewN wr _ = wv
          have HV : Hid (∃ n, wv = wr.drewN n) := ⟨_, hwv.symm⟩
          clear hwv
          refine (HZA.out _ HV.out _ _ _ (by omega) (fun _ => rfl)).mono ?_
          rintro e w' ⟨rfl, rfl⟩
          cases q
          · go_wp2_with fail
            refine (HZB.out _ HV.out _ _ _ (by omega) (fun _ => rfl)).mono ?_
            rintro e w' ⟨rfl, rfl⟩
            cases q'
            all_goals
              have hrr := HRR.out
              simp at hrr
              subst hrr
              go_wp2_with fail
              go_ret
              exact ⟨rfl, drewN_trans HN.out HV.out⟩
          · have hrr := HRR.out
            simp at hrr
            subst hrr
            go_wp2_with fail
            go_ret
            exact ⟨rfl, drewN_trans HN.out HV.out⟩

theorem cmp_nn (w : World) : Calls Try.prog 14 #[.slice none 0 0, .slice none 0 0] w (CmpP 4 w) := by
  have hd : decide ((0 : Int) < 0) = false := by simp
  have HZ : Hid (∀ wv : World, Calls Try.prog 16 #[.slice none 0 0] wv fun e w' => e = .returned (.bool false) ∧ wv = w') := fun wv => nz_any none 0 0 [] wv rfl (by omega) (.inl rfl)
  go_enter Try.func14, Try.ntmps14
  go_wp2
  refine wp_loop_rounds 1 ?_; rw [rounds_succ]
  go_wp2
  go_quiet (fail)
  go_wp2
  go_quiet (fail)
  go_wp2_with fail
  refine (HZ.out _).mono ?_
  rintro e w' ⟨rfl, rfl⟩
  go_wp2_with fail
  refine (HZ.out _).mono ?_
  rintro e w' ⟨rfl, rfl⟩
  go_wp2_with fail
  go_ret
  exact ⟨rfl, _, rfl⟩

theorem cmp_ns (bb ob nb cb : Nat) (lb : List Int) (w : World) (hb : lb.length = nb) (_hnb : nb ≤ 1048576) (_hcb : nb ≤ cb) (ub : Nn lb) (sb : ∀ j, j < lb.length → w.cell? ⟨bb, ob + j, none⟩ = some (.int .u64 (lb.getD j 0))) :
    Calls Try.prog 14 #[.slice none 0 0, .slice (some ⟨bb, ob, none⟩) nb cb] w (CmpP (relZ [] lb) w) := by
  have hrr := rel_eq (a := []) (b := lb) (m := 0) (by simp) (fun i => by simp) ub (fun j h => absurd h (by omega))
  rw [hrr]
  simp only [List.drop_nil, List.drop_zero]
  have hz0 : nzB [] = false := rfl
  have hmn : ∀ w, (Builtin.min_ #[3, 3] 3 #[.int .i64 0, .int .i64 (nb : Int)]).run Try.prog w = .ok (.int .i64 0) w := by
    intro w
    rw [run_min_int2, if_neg (by omega)]
  have hd : decide ((0 : Int) < 0) = false := by simp
  have HZ : Hid (∀ wv : World, Calls Try.prog 16 #[.slice none 0 0] wv fun e w' => e = .returned (.bool false) ∧ wv = w') := fun wv => nz_any none 0 0 [] wv rfl (by omega) (.inl rfl)
  have HZB : Hid (∀ n0, Calls Try.prog 16 #[.slice (some ⟨bb, ob, none⟩) nb cb] (w.drewN n0) fun e w' => e = .returned (.bool (nzB lb)) ∧ w.drewN n0 = w') := fun n0 => nz_any _ nb cb lb _ hb (by omega) (.inr ⟨bb, ob, rfl, sb⟩)
  rw [hz0]
  clear hb ub sb hrr hz0
  generalize nzB lb = q at *
  cases q
  all_goals
    go_enter Try.func14, Try.ntmps14
    go_wp2
    refine wp_loop_rounds 1 ?_; rw [rounds_succ]
    go_wp2
    go_quiet (fail)
    go_wp2
    go_quiet (fail)
    go_wp2_with fail
    refine (HZ.out _).mono ?_
    rintro e w' ⟨rfl, rfl⟩
    go_wp2_with fail
    refine (HZB.out _).mono ?_
    rintro e w' ⟨rfl, rfl⟩
    go_wp2_with fail
    go_ret
    exact ⟨rfl, _, rfl⟩

theorem cmp_sn (ba oa na ca : Nat) (la : List Int) (w : World) (ha : la.length = na) (_hna : na ≤ 1048576) (_hca : na ≤ ca) (ua : Nn la) (sa : ∀ j, j < la.length → w.cell? ⟨ba, oa + j, none⟩ = some (.int .u64 (la.getD j 0))) :
    Calls Try.prog 14 #[.slice (some ⟨ba, oa, none⟩) na ca, .slice none 0 0] w (CmpP (relZ la []) w) := by
  have hrr := rel_eq (a := la) (b := []) (m := 0) (by simp) ua (fun i => by simp) (fun j h => absurd h (by omega))
  rw [hrr]
  simp only [List.drop_nil, List.drop_zero]
  have hz0 : nzB [] = false := rfl
  have hmn : ∀ w, (Builtin.min_ #[3, 3] 3 #[.int .i64 (na : Int), .int .i64 0]).run Try.prog w = .ok (.int .i64 0) w := by
    intro w
    rw [run_min_int2]
    split
    · rfl
    · rw [show (na : Int) = 0 by omega]
  have hd : decide ((0 : Int) < 0) = false := by simp
  have HZ : Hid (∀ wv : World, Calls Try.prog 16 #[.slice none 0 0] wv fun e w' => e = .returned (.bool false) ∧ wv = w') := fun wv => nz_any none 0 0 [] wv rfl (by omega) (.inl rfl)
  have HZA : Hid (∀ n0, Calls Try.prog 16 #[.slice (some ⟨ba, oa, none⟩) na ca] (w.drewN n0) fun e w' => e = .returned (.bool (nzB la)) ∧ w.drewN n0 = w') := fun n0 => nz_any _ na ca la _ ha (by omega) (.inr ⟨ba, oa, rfl, sa⟩)
  rw [hz0]
  clear ha ua sa hrr hz0
  generalize nzB la = q at *
  cases q
  · go_enter Try.func14, Try.ntmps14
    go_wp2
    refine wp_loop_rounds 1 ?_; rw [rounds_succ]
    go_wp2
    go_quiet (fail)
    go_wp2
    go_quiet (fail)
    go_wp2_with fail
    refine (HZA.out _).mono ?_
    rintro e w' ⟨rfl, rfl⟩
    go_wp2_with fail
    refine (HZ.out _).mono ?_
    rintro e w' ⟨rfl, rfl⟩
    go_wp2_with fail
    go_ret
    exact ⟨rfl, _, rfl⟩
  · go_enter Try.func14, Try.ntmps14
    go_wp2
    refine wp_loop_rounds 1 ?_; rw [rounds_succ]
    go_wp2
    go_quiet (fail)
    go_wp2
    go_quiet (fail)
    go_wp2_with fail
    refine (HZA.out _).mono ?_
    rintro e w' ⟨rfl, rfl⟩
    go_wp2_with fail
    go_ret
    exact ⟨rfl, _, rfl⟩

/-- Compare, whatever the two slices. -/
theorem cmp_any (aa : Option Addr) (na ca : Nat) (la : List Int) (ab : Option Addr) (nb cb : Nat) (lb : List Int) (w : World) (ha : la.length = na) (hb : lb.length = nb) (hna : na ≤ 1048576) (hnb : nb ≤ 1048576) (sha : Shp aa na ca) (shb : Shp ab nb cb) (ua : Nn la) (ub : Nn lb) (sa : Seg w aa la) (sb : Seg w ab lb) :
    Calls Try.prog 14 #[.slice aa na ca, .slice ab nb cb] w (CmpP (relZ la lb) w) := by
  rcases sha with ⟨rfl, rfl, rfl⟩ | ⟨ba, oa, rfl, hca⟩
  · have := sa.nilD
    subst this
    rcases shb with ⟨rfl, rfl, rfl⟩ | ⟨bb, ob, rfl, hcb⟩
    · have := sb.nilD
      subst this
      exact cmp_nn w
    · exact cmp_ns bb ob nb cb lb w hb hnb hcb ub sb.cells
  · rcases shb with ⟨rfl, rfl, rfl⟩ | ⟨bb, ob, rfl, hcb⟩
    · have := sb.nilD
      subst this
      exact cmp_sn ba oa na ca la w ha hna hca ua sa.cells
    · exact cmp_some ba oa na ca la bb ob nb cb lb w ha hb hna hnb hca hcb ua ub sa.cells sb.cells
end Go.Proofs.Qxb6605431a.cc
