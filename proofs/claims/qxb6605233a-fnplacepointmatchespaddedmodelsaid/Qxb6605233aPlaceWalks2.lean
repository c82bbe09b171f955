import Derived.Test.Qxb6605233aPlaceWalks
namespace Go.Proofs.Qxb6605233a.place
open Go.RowKit Go.Proofs.Qxb6605233a.bs

def PlaceP (w : World) (out : List Int) (e : Ending) (w' : World) : Prop :=
  ∃ ao' n' cap', e = .returned (.slice ao' n' cap') ∧ Own w.heap.size w w' ao' n' cap' out

theorem place_A (ad : Option Addr) (nd : Nat) (ld : List Int) (b off ng cg : Nat) (lg : List Int) (p : Nat) (w : World) (hd : ld.length = nd) (hg : lg.length = ng) (_hnd : nd ≤ 1048576) (_hng : ng ≤ 1048576) (_hp : p ≤ 65536)
    (hsd : Seg w ad ld) (_hcg : ng ≤ cg) (hcell : ∀ j, j < lg.length → w.cell? ⟨b, off + j, none⟩ = some (.int .u8 (lg.getD j 0))) (hle : ng ≤ p) :
    Calls Try.prog 24 #[.slice ad nd nd, .slice (some ⟨b, off, none⟩) ng cg, .int .i64 p] w (PlaceP w (ld ++ placed lg p)) := by
  have HD : Hid (ld.length = nd) := hd
  have HG : Hid (lg.length = ng) := hg
  have HS : Hid (Seg w ad ld) := hsd
  have HC : Hid (∀ j, j < lg.length → w.cell? ⟨b, off + j, none⟩ = some (.int .u8 (lg.getD j 0))) := hcell
  clear hd hg hsd hcell
  generalize hout : ld ++ placed lg p = out
  have HO : Hid (ld ++ placed lg p = out) := hout
  clear hout
  have hmx : ∀ w, (Builtin.max_ #[3, 3] 3 #[.int .i64 ((ng : Int) - (p : Int)), .int .i64 0]).run Try.prog w = .ok (.int .i64 0) w := by
    intro w
    rw [run_max_int2]
    split
    · rfl
    · rw [show (ng : Int) - (p : Int) = 0 by omega]
  go_enter Try.func24, Try.ntmps24
  go_wp2_with (first | (at_builtin; refine wpList_app_new rfl (.tmp 15) (.tmp 16) 27 rfl Try.underlying27 Try.info5 _ _ rfl _ _ _ rfl ld [48] HD.out (HS.out.kept ((Below.refl _ _).alloc (Nat.le_refl _) _)) (seg_one _ _ _) rfl (by omega) (by omega) w.heap.size w ((Below.refl _ _).alloc (Nat.le_refl _) _) (by simp) ?_; intro a1 n1 c1 w1 b1 O1) | (at_builtin; refine wpList_app rfl (.tmp 18) (.tmp 21) 27 rfl Try.underlying27 Try.info5 _ _ _ rfl _ _ _ rfl w.heap.size w _ [] O1 (.inl rfl) rfl (by simp) (by omega) ?_; intro a2 n2 c2 w2 b2 O2) | (at_builtin; refine wpList_app rfl (.tmp 23) (.tmp 24) 27 rfl Try.underlying27 Try.info5 _ _ _ rfl _ _ _ rfl w.heap.size w _ [46] (O2.alloc _) (seg_one _ _ _) rfl (by simp) (by omega) ?_; intro a3 n3 c3 w3 b3 O3))
  have hsrc : Seg w (some ⟨b, off, none⟩) lg := .inr ⟨b, off, rfl, HC.out⟩
  have HSR : Hid (Seg w (some ⟨b, off, none⟩) lg) := hsrc
  have HO3 : Hid (Own w.heap.size w w3 a3 n3 c3 (ld ++ [48] ++ [] ++ [46] ++ List.replicate 0 48)) := by
    have := O3
    simpa [Hid] using this
  clear hsrc O1 O2 O3 HS HC
  go_loopw [0, 32] (fun v i wr => ∃ (k : Nat) (ao : Option Addr) (n c : Nat), k ≤ p - ng ∧ i = .int .i64 k ∧ v = .slice ao n c ∧ n ≤ nd + 2 + k ∧ Hid (Own w.heap.size w wr ao n c (ld ++ [48] ++ [] ++ [46] ++ List.replicate k 48))) (fun _ i _ => p - ng - (intOf i).toNat)
  case atStart => exact ⟨0, a3, n3, c3, Nat.zero_le _, rfl, rfl, by omega, HO3⟩
  case round =>
    clear HO3
    obtain ⟨k, ao, n, c, hk, rfl, rfl, hnk, HR⟩ := hrel
    by_cases hlt : k < p - ng
    · go_wp2_with ((at_builtin; refine wpList_app rfl (.tmp 34) (.tmp 35) 27 rfl Try.underlying27 Try.info5 _ _ _ rfl _ _ _ rfl w.heap.size w _ [48] (HR.out.alloc _) (seg_one _ _ _) rfl (by simp) (by omega) ?_; intro a4 n4 c4 w4 b4 O4))
      have O5 : Hid (Own w.heap.size w w4 a4 n4 c4 (ld ++ [48] ++ [] ++ [46] ++ List.replicate (k + 1) 48)) := by
        rw [List.replicate_succ', ← List.append_assoc]
        exact O4
      go_roundw
      case rel => exact ⟨k + 1, _, _, _, by omega, by go_num, rfl, by omega, O5⟩
      case measure => simp [intOf]; omega
    · have hs2 : Seg wr (some ⟨b, off, none⟩) lg := Seg.kept HSR.out HR.out.bel
      have HS2 : Hid (Seg wr (some ⟨b, off, none⟩) lg) := hs2
      clear hs2
      go_wp2_with ((at_builtin; refine wpList_app rfl (.tmp 38) (.tmp 41) 27 rfl Try.underlying27 Try.info5 _ _ _ rfl _ _ _ rfl w.heap.size w _ lg HR.out HS2.out HG.out (by simp) (by omega) ?_; intro a4 n4 c4 w4 b4 O4))
      go_ret
      refine ⟨_, _, _, rfl, ?_⟩
      have hk' : k = p - ng := by omega
      have e : ld ++ [48] ++ [] ++ [46] ++ List.replicate k 48 ++ lg = out := by
        rw [← HO.out, placed, HG.out, if_pos hle, hk', show ng - p = 0 by omega]
        simp
      rw [← e]
      exact O4

theorem place_N (ad : Option Addr) (nd : Nat) (ld : List Int) (p : Nat) (w : World) (hd : ld.length = nd) (_hnd : nd ≤ 1048576) (_hp : p ≤ 65536)
    (hsd : Seg w ad ld) :
    Calls Try.prog 24 #[.slice ad nd nd, .slice none 0 0, .int .i64 p] w (PlaceP w (ld ++ placed [] p)) := by
  have HD : Hid (ld.length = nd) := hd
  have HS : Hid (Seg w ad ld) := hsd
  clear hd hsd
  generalize hout : ld ++ placed [] p = out
  have HO : Hid (ld ++ placed [] p = out) := hout
  clear hout
  have hmx : ∀ w, (Builtin.max_ #[3, 3] 3 #[.int .i64 (-(p : Int)), .int .i64 0]).run Try.prog w = .ok (.int .i64 0) w := by
    intro w
    rw [run_max_int2]
    split
    · rfl
    · rw [show -(p : Int) = 0 by omega]
  go_enter Try.func24, Try.ntmps24
  go_wp2_with (first | (at_builtin; refine wpList_app_new rfl (.tmp 15) (.tmp 16) 27 rfl Try.underlying27 Try.info5 _ _ rfl _ _ _ rfl ld [48] HD.out (HS.out.kept ((Below.refl _ _).alloc (Nat.le_refl _) _)) (seg_one _ _ _) rfl (by omega) (by omega) w.heap.size w ((Below.refl _ _).alloc (Nat.le_refl _) _) (by simp) ?_; intro a1 n1 c1 w1 b1 O1) | (at_builtin; refine wpList_app rfl (.tmp 18) (.tmp 21) 27 rfl Try.underlying27 Try.info5 _ _ _ rfl _ _ _ rfl w.heap.size w _ [] O1 (.inl rfl) rfl (by simp) (by omega) ?_; intro a2 n2 c2 w2 b2 O2) | (at_builtin; refine wpList_app rfl (.tmp 23) (.tmp 24) 27 rfl Try.underlying27 Try.info5 _ _ _ rfl _ _ _ rfl w.heap.size w _ [46] (O2.alloc _) (seg_one _ _ _) rfl (by simp) (by omega) ?_; intro a3 n3 c3 w3 b3 O3))
  have HO3 : Hid (Own w.heap.size w w3 a3 n3 c3 (ld ++ [48] ++ [] ++ [46] ++ List.replicate 0 48)) := by
    have := O3
    simpa [Hid] using this
  clear O1 O2 O3 HS
  go_loopw [0, 32] (fun v i wr => ∃ (k : Nat) (ao : Option Addr) (n c : Nat), k ≤ p ∧ i = .int .i64 k ∧ v = .slice ao n c ∧ n ≤ nd + 2 + k ∧ Hid (Own w.heap.size w wr ao n c (ld ++ [48] ++ [] ++ [46] ++ List.replicate k 48))) (fun _ i _ => p - (intOf i).toNat)
  case atStart => exact ⟨0, a3, n3, c3, Nat.zero_le _, rfl, rfl, by omega, HO3⟩
  case round =>
    clear HO3
    obtain ⟨k, ao, n, c, hk, rfl, rfl, hnk, HR⟩ := hrel
    by_cases hlt : k < p
    · go_wp2_with ((at_builtin; refine wpList_app rfl (.tmp 34) (.tmp 35) 27 rfl Try.underlying27 Try.info5 _ _ _ rfl _ _ _ rfl w.heap.size w _ [48] (HR.out.alloc _) (seg_one _ _ _) rfl (by simp) (by omega) ?_; intro a4 n4 c4 w4 b4 O4))
      have O5 : Hid (Own w.heap.size w w4 a4 n4 c4 (ld ++ [48] ++ [] ++ [46] ++ List.replicate (k + 1) 48)) := by
        rw [List.replicate_succ', ← List.append_assoc]
        exact O4
      go_roundw
      case rel => exact ⟨k + 1, _, _, _, by omega, by go_num, rfl, by omega, O5⟩
      case measure => simp [intOf]; omega
    · go_wp2_with ((at_builtin; refine wpList_app rfl (.tmp 38) (.tmp 41) 27 rfl Try.underlying27 Try.info5 _ _ _ rfl _ _ _ rfl w.heap.size w _ [] HR.out (.inl rfl) rfl (by simp) (by omega) ?_; intro a4 n4 c4 w4 b4 O4))
      go_ret
      refine ⟨_, _, _, rfl, ?_⟩
      have hk' : k = p := by omega
      have e : ld ++ [48] ++ [] ++ [46] ++ List.replicate k 48 ++ [] = out := by
        rw [← HO.out, placed, hk']
        simp
      rw [← e]
      exact O4

theorem place_B (ad : Option Addr) (nd : Nat) (ld : List Int) (b off ng cg : Nat) (lg : List Int) (p : Nat) (w : World) (hd : ld.length = nd) (hg : lg.length = ng) (_hnd : nd ≤ 1048576) (_hng : ng ≤ 1048576) (_hp : p ≤ 65536)
    (hsd : Seg w ad ld) (_hcg : ng ≤ cg) (hcell : ∀ j, j < lg.length → w.cell? ⟨b, off + j, none⟩ = some (.int .u8 (lg.getD j 0))) (hgt : p < ng) :
    Calls Try.prog 24 #[.slice ad nd nd, .slice (some ⟨b, off, none⟩) ng cg, .int .i64 p] w (PlaceP w (ld ++ placed lg p)) := by
  have HD : Hid (ld.length = nd) := hd
  have HG : Hid (lg.length = ng) := hg
  have HS : Hid (Seg w ad ld) := hsd
  have hplaced : ld ++ placed lg p = ld ++ lg.take (ng - p) ++ [46] ++ lg.drop (ng - p) := by
    simp only [placed, hg, if_neg (show ¬ ng ≤ p by omega), show p - ng = 0 by omega, List.replicate_zero, List.append_nil, List.append_assoc]
  obtain ⟨q, hq⟩ : ∃ q, q = ng - p := ⟨_, rfl⟩
  rw [hplaced, ← hq]
  have q1 : q + p ≤ ng := by omega
  have q2 : ng ≤ q + p := by omega
  have q0 : ((q : Int) == 0) = false := by rw [beq_eq_false_iff_ne]; omega
  have hs1 : Seg w (some ⟨b, off, none⟩) (lg.take q) := by
    have := Seg.cut hcell 0 q (ao := some ⟨b, off, none⟩) (fun _ _ => rfl)
    simpa using this
  have HS1 : Hid (Seg w (some ⟨b, off, none⟩) (lg.take q)) := hs1
  have hs2 : ∀ ao, (¬ cg = q → ao = some ⟨b, off + q, none⟩) → Seg w ao (lg.drop q) := by
    intro ao h
    have := Seg.cut hcell q ng (ao := ao) (fun _ h2 => h (by omega))
    rwa [List.take_of_length_le (by omega)] at this
  have HS2 : Hid (∀ ao, (¬ cg = q → ao = some ⟨b, off + q, none⟩) → Seg w ao (lg.drop q)) := hs2
  have HL1 : Hid ((lg.take q).length = q) := by simp [Hid]; omega
  have HL2 : Hid ((lg.drop q).length = ng - q) := by simp [Hid]; omega
  clear hd hg hsd hcell hplaced hs1 hs2
  have hmx : ∀ w, (Builtin.max_ #[3, 3] 3 #[.int .i64 ((ng : Int) - (p : Int)), .int .i64 0]).run Try.prog w = .ok (.int .i64 (q : Int)) w := by
    intro w
    rw [run_max_int2]
    rw [if_neg (by omega), show (ng : Int) - (p : Int) = (q : Int) by omega]
  clear hq
  generalize hout : ld ++ lg.take q ++ [46] ++ lg.drop q = out
  have HO : Hid (ld ++ lg.take q ++ [46] ++ lg.drop q = out) := hout
  clear hout
  go_enter Try.func24, Try.ntmps24
  go_wp2_with (first | (at_builtin; refine wpList_app_new rfl (.tmp 18) (.tmp 21) 27 rfl Try.underlying27 Try.info5 _ _ rfl _ _ _ rfl ld (lg.take q) HD.out HS.out HS1.out HL1.out (by omega) (by omega) w.heap.size w (Below.refl _ _) (Nat.le_refl _) ?_; intro a1 n1 c1 w1 b1 O1) | (at_builtin; refine wpList_app rfl (.tmp 23) (.tmp 24) 27 rfl Try.underlying27 Try.info5 _ _ _ rfl _ _ _ rfl w.heap.size w _ [46] (O1.alloc _) (seg_one _ _ _) rfl (by simp) (by omega) ?_; intro a3 n3 c3 w3 b3 O3))
  refine wp_loop_rounds 1 ?_; rw [rounds_succ]
  have hs3 : ∀ ao, (¬ cg = q → ao = some ⟨b, off + q, none⟩) → Seg w3 ao (lg.drop q) := fun ao h => Seg.kept (HS2.out ao h) O3.bel
  have HS3 : Hid (∀ ao, (¬ cg = q → ao = some ⟨b, off + q, none⟩) → Seg w3 ao (lg.drop q)) := hs3
  have HO3 : Hid (Own w.heap.size w w3 a3 n3 c3 (ld ++ lg.take q ++ [46])) := O3
  clear O1 O3 hs3 HS HS1 HS2
  by_cases hcq : cg = q
  · go_wp2_with ((at_builtin; refine wpList_app rfl (.tmp 38) (.tmp 41) 27 rfl Try.underlying27 Try.info5 _ _ _ rfl _ _ _ rfl w.heap.size w _ (lg.drop q) HO3.out (HS3.out _ (fun h => absurd hcq h)) HL2.out (by simp) (by omega) ?_; intro a4 n4 c4 w4 b4 O4))
    go_ret
    refine ⟨_, _, _, rfl, ?_⟩
    rw [← HO.out]
    exact O4
  · go_wp2_with ((at_builtin; refine wpList_app rfl (.tmp 38) (.tmp 41) 27 rfl Try.underlying27 Try.info5 _ _ _ rfl _ _ _ rfl w.heap.size w _ (lg.drop q) HO3.out (HS3.out _ (fun _ => rfl)) HL2.out (by simp) (by omega) ?_; intro a4 n4 c4 w4 b4 O4))
    go_ret
    refine ⟨_, _, _, rfl, ?_⟩
    rw [← HO.out]
    exact O4

end Go.Proofs.Qxb6605233a.place
