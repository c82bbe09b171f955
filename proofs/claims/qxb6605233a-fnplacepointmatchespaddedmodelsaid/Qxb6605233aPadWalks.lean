import Derived.Test.Qxb6605233aPlaceWalks3
import Derived.Test.Qxb6605233aPadPlain
namespace Go.Proofs.Qxb6605233a.place
open Go.RowKit Go.Proofs.Qxb6605233a.bs

theorem digit_any (ag : Option Addr) (ng cg : Nat) (lg : List Int) (pz : Int) (pad k : Nat) (w : World) (hg : lg.length = ng) (_hng : ng ≤ 1048576) (_hpad : pad ≤ 1048576) (hpz : pz = (pad : Int)) (hk : k < pad + ng) (hs : Seg w ag lg) :
    Calls Try.prog 23 #[.slice ag ng cg, .int .i64 pz, .int .i64 k] w fun e w' => e = .returned (.int .u8 ((List.replicate pad 48 ++ lg).getD k 0)) ∧ w = w' := by
  subst hpz
  by_cases hlt : k < pad
  · have e : (List.replicate pad (48 : Int) ++ lg).getD k 0 = 48 := by
      simp only [List.getD_eq_getElem?_getD]
      rw [List.getElem?_append_left (by simpa using hlt)]
      simp [hlt]
    rw [e]
    clear e hs hg
    go_enter Try.func23, Try.ntmps23
    go_wp2
    go_ret
    exact ⟨rfl, rfl⟩
  · obtain ⟨j, rfl⟩ : ∃ j, k = pad + j := ⟨k - pad, by omega⟩
    have e : (List.replicate pad (48 : Int) ++ lg).getD (pad + j) 0 = lg.getD j 0 := by
      simp only [List.getD_eq_getElem?_getD]
      rw [List.getElem?_append_right (by simp)]
      simp
    rw [e]
    obtain ⟨b, off, rfl, hc⟩ : ∃ b off, ag = some ⟨b, off, none⟩ ∧ ∀ j, j < lg.length → w.cell? ⟨b, off + j, none⟩ = some (.int .u8 (lg.getD j 0)) := by
      rcases hs with h | h
      · subst h; simp at hg; omega
      · exact h
    have hcj := hc j (by omega)
    generalize lg.getD j 0 = x at *
    clear e hs hg hc
    have hji : (j : Int) < (ng : Int) := by omega
    go_enter Try.func23, Try.ntmps23
    go_wp2
    go_ret
    exact ⟨rfl, rfl⟩

/-- From the first loop on, whatever n, pad and cut are. -/
theorem model_any (ad : Option Addr) (nd : Nat) (ld : List Int) (ag : Option Addr) (ng : Nat) (lg : List Int) (p : Nat) (w : World) (hd : ld.length = nd) (hg : lg.length = ng) (_hnd : nd ≤ 524288) (_hng : ng ≤ 524288) (_hp : p ≤ 65536)
    (hsd : Seg w ad ld) (hsg : Seg w ag lg) :
    Calls Try.prog 14 #[.slice ad nd nd, .slice ag ng ng, .int .i64 p] w (PlaceP w (ld ++ placed lg p)) := by
  have HD : Hid (ld.length = nd) := hd
  have HG : Hid (lg.length = ng) := hg
  have HSD : Hid (Seg w ad ld) := hsd
  have HSG : Hid (Seg w ag lg) := hsg
  obtain ⟨i0, hi, hz0, hz1, hz2⟩ := info_parts Try.info5
  obtain ⟨n, hn⟩ : ∃ n, n = if ng ≤ p + 1 then p + 1 else ng := ⟨_, rfl⟩
  obtain ⟨pad, hpad⟩ : ∃ pad, pad = n - ng := ⟨_, rfl⟩
  obtain ⟨cut, hcut⟩ : ∃ cut, cut = n - p := ⟨_, rfl⟩
  have hnb : n ≤ 600000 ∧ ng ≤ n ∧ p + 1 ≤ n ∧ (ng ≤ p + 1 → n = p + 1) ∧ (¬ ng ≤ p + 1 → n = ng) := by
    rw [hn]; split <;> omega
  obtain ⟨g1, g2, g3, g4, g5⟩ := hnb
  have hpl := padded_placed lg p pad n cut (by omega) (by omega) (by omega)
  have HX : Hid ((List.replicate pad (48 : Int) ++ lg).length = n) := by show _ = _; rw [List.length_append, List.length_replicate]; omega
  have hby : i0.bytes * (nd + n + 1) ≤ 281474976710656 := by rw [hz2]; omega
  have hmx : nd + n + 1 ≤ maxLen := by unfold maxLen; omega
  have HPL : Hid ((List.replicate pad (48 : Int) ++ lg).take cut ++ [46] ++ (List.replicate pad (48 : Int) ++ lg).drop cut = placed lg p) := hpl
  have q1 : pad + ng ≤ n := by omega
  have q2 : n ≤ pad + ng := by omega
  have q3 : cut + p ≤ n := by omega
  have q4 : n ≤ cut + p := by omega
  have q5 : 1 ≤ cut := by omega
  generalize placed lg p = T at *
  have HDG : Hid (∀ (wr : World) (pz : Int) (k : Nat), Below w.heap.size w wr → pz = (pad : Int) → k < n → Calls Try.prog 23 #[.slice ag ng ng, .int .i64 pz, .int .i64 k] wr fun e w' => e = .returned (.int .u8 ((List.replicate pad 48 ++ lg).getD k 0)) ∧ wr = w') :=
    fun wr pz k hb hpz hk => digit_any ag ng ng lg pz pad k wr HG.out (by omega) (by omega) hpz (by omega) (Seg.kept HSG.out hb)
  generalize List.replicate pad (48 : Int) ++ lg = X at *
  by_cases hc : ng ≤ p + 1
  · have e1 : (p : Int) + 1 - (ng : Int) = (pad : Int) := by omega
    have e2 : (pad : Int) + (ng : Int) = (n : Int) := by omega
    have e3 : (n : Int) - (p : Int) = (cut : Int) := by omega
    have hpn : decide ((pad : Int) < 0) = false := decide_eq_false (by omega)
    clear hn hpad hcut hpl hd hg hsd hsg g4 g5
    go_enter Try.func14, Try.ntmps14
    go_wp2_with ((at_make; refine wpList_make_own _ rfl _ _ 27 rfl w.heap.size 5 i0 (.int .u8 0) 1 Try.underlying27 hi hz0 hz1 _ _ _ (nd + n + 1) rfl rfl (by omega) hby hmx (Nat.le_refl _) ?_; intro w1 hown hgrow))
    have HO1 : Hid (Own w.heap.size w w1 (some ⟨w.heap.size, 0, none⟩) 0 (nd + n + 1) (ld.take 0)) := own_of_make hown hgrow (Below.refl _ _) (Nat.le_refl _)
    clear hown hgrow hby hmx hi hz0 hz1 hz2
    go_loopw [10, 11] (fun v i wr => ∃ (k : Nat) (ao : Option Addr) (m c : Nat), k ≤ nd ∧ i = .int .i64 k ∧ v = .slice ao m c ∧ m ≤ k ∧ Hid (Own w.heap.size w wr ao m c (ld.take k))) (fun _ i _ => nd - (intOf i).toNat)
    case atStart => exact ⟨0, _, _, _, Nat.zero_le _, rfl, rfl, Nat.le_refl _, HO1⟩
    case round =>
      clear HO1
      obtain ⟨k, ao, m, c, hk, rfl, rfl, hmk, HR⟩ := hrel
      by_cases hlt : k < nd
      · obtain ⟨b, off, hab, hcl⟩ : ∃ b off, ad = some ⟨b, off, none⟩ ∧ ∀ j, j < ld.length → w.cell? ⟨b, off + j, none⟩ = some (.int .u8 (ld.getD j 0)) := by
          rcases HSD.out with h | h
          · have := HD.out; rw [h] at this; simp at this; omega
          · exact h
        subst hab
        have hbl : b < w.heap.size := Seg.lt hcl (by intro e; have := HD.out; rw [e] at this; simp at this; omega)
        have hck : wr.cell? ⟨b, off + k, none⟩ = some (.int .u8 (ld.getD k 0)) := (HR.out.bel.cell (p := ⟨b, off + k, none⟩) hbl).trans (hcl k (by have := HD.out; omega))
        have HT : Hid (ld.take (k + 1) = ld.take k ++ [ld.getD k 0]) := take_step ld k (by have := HD.out; omega)
        clear hcl hbl
        generalize ld.getD k 0 = x at *
        have hki : (k : Int) < (nd : Int) := by omega
        go_wp2_with ((at_builtin; refine wpList_app rfl (.tmp 39) (.tmp 44) 27 rfl Try.underlying27 Try.info5 _ _ _ rfl _ _ _ rfl w.heap.size w _ [x] (HR.out.alloc _) (seg_one _ _ _) rfl (by simp) (by omega) ?_; intro a4 n4 c4 w4 b4 O4))
        go_roundw
        case rel => exact ⟨k + 1, _, _, _, by omega, by go_num, rfl, by omega, by rw [Hid, HT.out]; exact O4⟩
        case measure => simp [intOf]; omega
      · have HR0 : Hid (Own w.heap.size w wr ao m c (ld ++ part X cut 0)) := by
          rw [Hid, part_zero, List.append_nil]
          have := HR.out
          rwa [List.take_of_length_le (by have := HD.out; omega)] at this
        obtain ⟨wo, hwo⟩ : ∃ wo : World, wo = wr := ⟨_, rfl⟩
        subst hwo
        have hm0 : m ≤ nd := by omega
        clear HR hmk
        go_wp2
        go_loopw [10, 12] (fun v i wr => ∃ (k : Nat) (ao : Option Addr) (m c : Nat), k ≤ n ∧ i = .int .i64 k ∧ v = .slice ao m c ∧ m ≤ nd + 2 * k ∧ Hid (Own w.heap.size w wr ao m c (ld ++ part X cut k))) (fun _ i _ => n - (intOf i).toNat)
        case atStart => exact ⟨0, _, _, _, Nat.zero_le _, rfl, rfl, by omega, HR0⟩
        case round =>
          clear HR0
          obtain ⟨j, ao, m, c, hj, rfl, rfl, hmj, HR⟩ := hrel
          by_cases hjn : j < n
          · have hjX : j < X.length := by have := HX.out; omega
            rcases Nat.lt_trichotomy j cut with hjc | hjc | hjc
            · have hne : ((j : Int) == (cut : Int)) = false := by rw [beq_eq_false_iff_ne]; omega
              have HT : Hid (ld ++ part X cut (j + 1) = ld ++ part X cut j ++ [X.getD j 0]) := by rw [Hid, part_lo X cut j hjX hjc, List.append_assoc]
              clear hjX
              go_wp2_with (first | (go_at_call 23; refine (HDG.out _ _ j HR.out.bel rfl hjn).mono ?_; rintro e w' ⟨rfl, rfl⟩) | (at_builtin; refine wpList_app rfl (.tmp 57) (.tmp 62) 27 rfl Try.underlying27 Try.info5 _ _ _ rfl _ _ _ rfl w.heap.size w _ [X.getD j 0] (HR.out.alloc _) (by exact seg_one _ _ _) rfl (by simp) (by omega) ?_; intro a4 n4 c4 w4 b4 O4))
              go_roundw
              case rel => exact ⟨j + 1, _, _, _, by omega, by go_num, rfl, by omega, by rw [Hid, HT.out]; exact O4⟩
              case measure => simp [intOf]; omega
            · subst hjc
              have HT : Hid (ld ++ part X j (j + 1) = ld ++ part X j j ++ [46] ++ [X.getD j 0]) := by rw [Hid, part_at X j hjX]; simp
              clear hjX
              go_wp2_with (first | (at_builtin; refine wpList_app rfl (.tmp 54) (.tmp 55) 27 rfl Try.underlying27 Try.info5 _ _ _ rfl _ _ _ rfl w.heap.size w _ [46] (HR.out.alloc _) (seg_one _ _ _) rfl (by simp) (by omega) ?_; intro a3 n3 c3 w3 b3 O3) | (go_at_call 23; refine (HDG.out _ _ j O3.bel rfl hjn).mono ?_; rintro e w' ⟨rfl, rfl⟩) | (at_builtin; refine wpList_app rfl (.tmp 57) (.tmp 62) 27 rfl Try.underlying27 Try.info5 _ _ _ rfl _ _ _ rfl w.heap.size w _ [X.getD j 0] (O3.alloc _) (by exact seg_one _ _ _) rfl (by simp) (by omega) ?_; intro a4 n4 c4 w4 b4 O4))
              go_roundw
              case rel => exact ⟨j + 1, _, _, _, by omega, by go_num, rfl, by omega, by rw [Hid, HT.out]; exact O4⟩
              case measure => simp [intOf]; omega
            · have hne : ((j : Int) == (cut : Int)) = false := by rw [beq_eq_false_iff_ne]; omega
              have HT : Hid (ld ++ part X cut (j + 1) = ld ++ part X cut j ++ [X.getD j 0]) := by rw [Hid, part_hi X cut j hjX hjc, List.append_assoc]
              clear hjX
              go_wp2_with (first | (go_at_call 23; refine (HDG.out _ _ j HR.out.bel rfl hjn).mono ?_; rintro e w' ⟨rfl, rfl⟩) | (at_builtin; refine wpList_app rfl (.tmp 57) (.tmp 62) 27 rfl Try.underlying27 Try.info5 _ _ _ rfl _ _ _ rfl w.heap.size w _ [X.getD j 0] (HR.out.alloc _) (by exact seg_one _ _ _) rfl (by simp) (by omega) ?_; intro a4 n4 c4 w4 b4 O4))
              go_roundw
              case rel => exact ⟨j + 1, _, _, _, by omega, by go_num, rfl, by omega, by rw [Hid, HT.out]; exact O4⟩
              case measure => simp [intOf]; omega
          · have hjn' : j = n := by omega
            subst hjn'
            by_cases hce : cut = j
            · subst hce
              have HT : Hid (ld ++ T = ld ++ part X cut cut ++ [46]) := by rw [Hid, ← HPL.out, ← part_end' X cut HX.out, List.append_assoc]
              go_wp2_with ((at_builtin; refine wpList_app rfl (.tmp 67) (.tmp 68) 27 rfl Try.underlying27 Try.info5 _ _ _ rfl _ _ _ rfl w.heap.size w _ [46] (HR.out.alloc _) (seg_one _ _ _) rfl (by simp) (by omega) ?_; intro a4 n4 c4 w4 b4 O4))
              go_ret
              refine ⟨_, _, _, rfl, ?_⟩
              rw [HT.out]
              exact O4
            · have hne : ((cut : Int) == (j : Int)) = false := by rw [beq_eq_false_iff_ne]; omega
              have HT : Hid (ld ++ T = ld ++ part X cut j) := by rw [Hid, ← HPL.out, part_end X cut j HX.out (by omega)]
              go_wp2
              go_ret
              refine ⟨_, _, _, rfl, ?_⟩
              rw [HT.out]
              exact HR.out
  · have e2 : n = ng := by omega
    subst e2
    have e3 : (n : Int) - (p : Int) = (cut : Int) := by omega
    have HPZ : Hid ((0 : Int) = (pad : Int)) := by show _ = _; omega
    clear hn hpad hcut hpl hd hg hsd hsg g4 g5
    go_enter Try.func14, Try.ntmps14
    go_wp2_with ((at_make; refine wpList_make_own _ rfl _ _ 27 rfl w.heap.size 5 i0 (.int .u8 0) 1 Try.underlying27 hi hz0 hz1 _ _ _ (nd + n + 1) rfl rfl (by omega) hby hmx (Nat.le_refl _) ?_; intro w1 hown hgrow))
    have HO1 : Hid (Own w.heap.size w w1 (some ⟨w.heap.size, 0, none⟩) 0 (nd + n + 1) (ld.take 0)) := own_of_make hown hgrow (Below.refl _ _) (Nat.le_refl _)
    clear hown hgrow hby hmx hi hz0 hz1 hz2
    go_loopw [10, 11] (fun v i wr => ∃ (k : Nat) (ao : Option Addr) (m c : Nat), k ≤ nd ∧ i = .int .i64 k ∧ v = .slice ao m c ∧ m ≤ k ∧ Hid (Own w.heap.size w wr ao m c (ld.take k))) (fun _ i _ => nd - (intOf i).toNat)
    case atStart => exact ⟨0, _, _, _, Nat.zero_le _, rfl, rfl, Nat.le_refl _, HO1⟩
    case round =>
      clear HO1
      obtain ⟨k, ao, m, c, hk, rfl, rfl, hmk, HR⟩ := hrel
      by_cases hlt : k < nd
      · obtain ⟨b, off, hab, hcl⟩ : ∃ b off, ad = some ⟨b, off, none⟩ ∧ ∀ j, j < ld.length → w.cell? ⟨b, off + j, none⟩ = some (.int .u8 (ld.getD j 0)) := by
          rcases HSD.out with h | h
          · have := HD.out; rw [h] at this; simp at this; omega
          · exact h
        subst hab
        have hbl : b < w.heap.size := Seg.lt hcl (by intro e; have := HD.out; rw [e] at this; simp at this; omega)
        have hck : wr.cell? ⟨b, off + k, none⟩ = some (.int .u8 (ld.getD k 0)) := (HR.out.bel.cell (p := ⟨b, off + k, none⟩) hbl).trans (hcl k (by have := HD.out; omega))
        have HT : Hid (ld.take (k + 1) = ld.take k ++ [ld.getD k 0]) := take_step ld k (by have := HD.out; omega)
        clear hcl hbl
        generalize ld.getD k 0 = x at *
        have hki : (k : Int) < (nd : Int) := by omega
        go_wp2_with ((at_builtin; refine wpList_app rfl (.tmp 39) (.tmp 44) 27 rfl Try.underlying27 Try.info5 _ _ _ rfl _ _ _ rfl w.heap.size w _ [x] (HR.out.alloc _) (seg_one _ _ _) rfl (by simp) (by omega) ?_; intro a4 n4 c4 w4 b4 O4))
        go_roundw
        case rel => exact ⟨k + 1, _, _, _, by omega, by go_num, rfl, by omega, by rw [Hid, HT.out]; exact O4⟩
        case measure => simp [intOf]; omega
      · have HR0 : Hid (Own w.heap.size w wr ao m c (ld ++ part X cut 0)) := by
          rw [Hid, part_zero, List.append_nil]
          have := HR.out
          rwa [List.take_of_length_le (by have := HD.out; omega)] at this
        obtain ⟨wo, hwo⟩ : ∃ wo : World, wo = wr := ⟨_, rfl⟩
        subst hwo
        have hm0 : m ≤ nd := by omega
        clear HR hmk
        go_wp2
        go_loopw [10, 12] (fun v i wr => ∃ (k : Nat) (ao : Option Addr) (m c : Nat), k ≤ n ∧ i = .int .i64 k ∧ v = .slice ao m c ∧ m ≤ nd + 2 * k ∧ Hid (Own w.heap.size w wr ao m c (ld ++ part X cut k))) (fun _ i _ => n - (intOf i).toNat)
        case atStart => exact ⟨0, _, _, _, Nat.zero_le _, rfl, rfl, by omega, HR0⟩
        case round =>
          clear HR0
          obtain ⟨j, ao, m, c, hj, rfl, rfl, hmj, HR⟩ := hrel
          by_cases hjn : j < n
          · have hjX : j < X.length := by have := HX.out; omega
            rcases Nat.lt_trichotomy j cut with hjc | hjc | hjc
            · have hne : ((j : Int) == (cut : Int)) = false := by rw [beq_eq_false_iff_ne]; omega
              have HT : Hid (ld ++ part X cut (j + 1) = ld ++ part X cut j ++ [X.getD j 0]) := by rw [Hid, part_lo X cut j hjX hjc, List.append_assoc]
              clear hjX
              go_wp2_with (first | (go_at_call 23; refine (HDG.out _ _ j HR.out.bel HPZ.out hjn).mono ?_; rintro e w' ⟨rfl, rfl⟩) | (at_builtin; refine wpList_app rfl (.tmp 57) (.tmp 62) 27 rfl Try.underlying27 Try.info5 _ _ _ rfl _ _ _ rfl w.heap.size w _ [X.getD j 0] (HR.out.alloc _) (by exact seg_one _ _ _) rfl (by simp) (by omega) ?_; intro a4 n4 c4 w4 b4 O4))
              go_roundw
              case rel => exact ⟨j + 1, _, _, _, by omega, by go_num, rfl, by omega, by rw [Hid, HT.out]; exact O4⟩
              case measure => simp [intOf]; omega
            · subst hjc
              have HT : Hid (ld ++ part X j (j + 1) = ld ++ part X j j ++ [46] ++ [X.getD j 0]) := by rw [Hid, part_at X j hjX]; simp
              clear hjX
              go_wp2_with (first | (at_builtin; refine wpList_app rfl (.tmp 54) (.tmp 55) 27 rfl Try.underlying27 Try.info5 _ _ _ rfl _ _ _ rfl w.heap.size w _ [46] (HR.out.alloc _) (seg_one _ _ _) rfl (by simp) (by omega) ?_; intro a3 n3 c3 w3 b3 O3) | (go_at_call 23; refine (HDG.out _ _ j O3.bel HPZ.out hjn).mono ?_; rintro e w' ⟨rfl, rfl⟩) | (at_builtin; refine wpList_app rfl (.tmp 57) (.tmp 62) 27 rfl Try.underlying27 Try.info5 _ _ _ rfl _ _ _ rfl w.heap.size w _ [X.getD j 0] (O3.alloc _) (by exact seg_one _ _ _) rfl (by simp) (by omega) ?_; intro a4 n4 c4 w4 b4 O4))
              go_roundw
              case rel => exact ⟨j + 1, _, _, _, by omega, by go_num, rfl, by omega, by rw [Hid, HT.out]; exact O4⟩
              case measure => simp [intOf]; omega
            · have hne : ((j : Int) == (cut : Int)) = false := by rw [beq_eq_false_iff_ne]; omega
              have HT : Hid (ld ++ part X cut (j + 1) = ld ++ part X cut j ++ [X.getD j 0]) := by rw [Hid, part_hi X cut j hjX hjc, List.append_assoc]
              clear hjX
              go_wp2_with (first | (go_at_call 23; refine (HDG.out _ _ j HR.out.bel HPZ.out hjn).mono ?_; rintro e w' ⟨rfl, rfl⟩) | (at_builtin; refine wpList_app rfl (.tmp 57) (.tmp 62) 27 rfl Try.underlying27 Try.info5 _ _ _ rfl _ _ _ rfl w.heap.size w _ [X.getD j 0] (HR.out.alloc _) (by exact seg_one _ _ _) rfl (by simp) (by omega) ?_; intro a4 n4 c4 w4 b4 O4))
              go_roundw
              case rel => exact ⟨j + 1, _, _, _, by omega, by go_num, rfl, by omega, by rw [Hid, HT.out]; exact O4⟩
              case measure => simp [intOf]; omega
          · have hjn' : j = n := by omega
            subst hjn'
            by_cases hce : cut = j
            · subst hce
              have HT : Hid (ld ++ T = ld ++ part X cut cut ++ [46]) := by rw [Hid, ← HPL.out, ← part_end' X cut HX.out, List.append_assoc]
              go_wp2_with ((at_builtin; refine wpList_app rfl (.tmp 67) (.tmp 68) 27 rfl Try.underlying27 Try.info5 _ _ _ rfl _ _ _ rfl w.heap.size w _ [46] (HR.out.alloc _) (seg_one _ _ _) rfl (by simp) (by omega) ?_; intro a4 n4 c4 w4 b4 O4))
              go_ret
              refine ⟨_, _, _, rfl, ?_⟩
              rw [HT.out]
              exact O4
            · have hne : ((cut : Int) == (j : Int)) = false := by rw [beq_eq_false_iff_ne]; omega
              have HT : Hid (ld ++ T = ld ++ part X cut j) := by rw [Hid, ← HPL.out, part_end X cut j HX.out (by omega)]
              go_wp2
              go_ret
              refine ⟨_, _, _, rfl, ?_⟩
              rw [HT.out]
              exact HR.out

theorem zz12_yes (a b : Option Addr) (n0 c0 n1 c1 : Nat) (p : Int) (h : n0 + n1 ≤ 1048576) (w : World) :
    Calls Try.prog 12 #[.slice a n0 c0, .slice b n1 c1, .int .i64 p] w fun e w' => e = .returned (.bool true) ∧ w = w' := by
  go_enter Try.func12, Try.ntmps12
  go_wp2
  go_ret
  exact ⟨rfl, rfl⟩
theorem zz12_no (a b : Option Addr) (n0 c0 n1 c1 : Nat) (p : Int) (ha : n0 ≤ maxLen) (hb : n1 ≤ maxLen) (h : ¬ n0 + n1 ≤ 1048576) (w : World) :
    Calls Try.prog 12 #[.slice a n0 c0, .slice b n1 c1, .int .i64 p] w fun e w' => e = .returned (.bool false) ∧ w = w' := by
  unfold maxLen at ha hb
  by_cases h1 : n0 ≤ 1048576
  · by_cases h2 : n1 ≤ 1048576
    · go_enter Try.func12, Try.ntmps12
      go_wp2
      go_ret
      exact ⟨rfl, rfl⟩
    · go_enter Try.func12, Try.ntmps12
      go_wp2
      go_ret
      exact ⟨rfl, rfl⟩
  · go_enter Try.func12, Try.ntmps12
    go_wp2
    go_ret
    exact ⟨rfl, rfl⟩

/-- Inside the guards. -/
theorem pad_in (a0 : Option Addr) (n0 c0 : Nat) (l0 : List Int) (a1 : Option Addr) (n1 c1 : Nat) (l1 : List Int) (p : Nat) (w : World) (h0 : l0.length = n0) (h1 : l1.length = n1) (hs : n0 + n1 ≤ 1048576) (hn0 : n0 ≤ 524288) (hn1 : n1 ≤ 524288) (hp : p ≤ 65536)
    (s0 : Seg w a0 l0) (s1 : Seg w a1 l1) :
    Calls Try.prog 5 #[.slice a0 n0 c0, .slice a1 n1 c1, .int .i64 p] w fun e w' => e = .returned (.bool true) ∧ Below w.heap.size w w' := by
  have H0 : Hid (l0.length = n0) := h0
  have H1 : Hid (l1.length = n1) := h1
  have S0 : Hid (Seg w a0 l0) := s0
  have S1 : Hid (Seg w a1 l1) := s1
  clear h0 h1 s0 s1
  go_enter Try.func5, Try.ntmps5
  go_wp2_with (go_at_call 12; refine (zz12_yes _ _ _ _ _ _ _ hs _).mono ?_; rintro e w' ⟨rfl, rfl⟩)
  refine (clone_any _ _ _ l0 _ H0.out (by omega) S0.out).mono ?_
  rintro e w1 ⟨d, rfl, sd, shd, b1⟩
  have SD1 : Hid (Seg w1 d l0) := sd
  have SG1 : Hid (Seg w1 a1 l1) := Seg.kept S1.out b1
  have B1 : Hid (Below w.heap.size w w1) := b1
  clear sd shd b1 S0 S1
  go_wp2_with fail
  refine (clone_any _ _ _ l1 _ H1.out (by omega) SG1.out).mono ?_
  rintro e w2 ⟨g, rfl, sg, shg, b2⟩
  have SD2 : Hid (Seg w2 d l0) := Seg.kept SD1.out b2
  have SG2 : Hid (Seg w2 g l1) := sg
  have HG : Hid (g = none ∨ ∃ b, g = some ⟨b, 0, none⟩) := shg
  have B2 : Hid (Below w.heap.size w w2) := B1.out.trans (b2.mono B1.out.size)
  clear sg shg b2 SD1 SG1 B1
  go_wp2_with fail
  refine (model_any _ _ l0 _ _ l1 p _ H0.out H1.out (by omega) (by omega) (by omega) SD2.out SG2.out).mono ?_
  rintro e w3 ⟨ao, no, co, rfl, O3⟩
  have SD3 : Hid (Seg w3 d l0) := Seg.kept SD2.out O3.bel
  have SG3 : Hid (Seg w3 g l1) := Seg.kept SG2.out O3.bel
  have SW3 : Hid (Seg w3 ao (l0 ++ placed l1 p)) := O3.seg
  have LW : Hid ((l0 ++ placed l1 p).length = no) := O3.len
  have B3 : Hid (Below w.heap.size w w3) := B2.out.trans (O3.bel.mono B2.out.size)
  have hno : no ≤ 1200000 := by
    have := O3.len
    rw [List.length_append, placed_length, H0.out, H1.out] at this
    split at this <;> omega
  clear O3 SD2 SG2 B2
  go_wp2_with fail
  refine (place_any _ _ l0 _ _ l1 p _ H0.out H1.out (by omega) (by omega) (by omega) SD3.out SG3.out HG.out).mono ?_
  rintro e w4 ⟨ag, ng, cg, rfl, O4⟩
  have SW4 : Hid (Seg w4 ao (l0 ++ placed l1 p)) := Seg.kept SW3.out O4.bel
  have SG4 : Hid (Seg w4 ag (l0 ++ placed l1 p)) := O4.seg
  have LG : Hid ((l0 ++ placed l1 p).length = ng) := O4.len
  have hng : ng ≤ 1200000 := by have := LW.out; have := LG.out; omega
  have B4 : Hid (Below w.heap.size w w4) := B3.out.trans (O4.bel.mono B3.out.size)
  clear O4 SD3 SG3 SW3 B3
  generalize l0 ++ placed l1 p = T at *
  go_wp2_with fail
  refine (equal_any _ _ _ T _ _ _ T _ LG.out LW.out (by omega) (by omega) SG4.out SW4.out).mono ?_
  rintro e w5 ⟨rfl, k5, rfl⟩
  go_wp2
  go_ret
  exact ⟨rfl, below_drewN B4.out _⟩
end Go.Proofs.Qxb6605233a.place
