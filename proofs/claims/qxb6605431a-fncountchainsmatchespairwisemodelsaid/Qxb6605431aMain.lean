import Derived.Test.Qxb6605431aEv
import Derived.Test.Qxb6605431aFin
import Derived.Test.Qxb6605431aLaw
import Derived.Test.Qxb6605431aBytes
import Derived.Test.Qxb6605431aCopy
import Derived.Test.Qxb6605431aZz
namespace Go.Proofs.Qxb6605431a.cc
open Go.RowKit

def MainP (w : World) (e : Ending) (w' : World) : Prop := e = .returned (.bool true) ∧ Below w.heap.size w w'
def GA (C : List (List (List Int))) (p : Nat) : Prop := sumN (cL C) p ≤ 4096 ∧ ∀ j, j < p → cL C j ≤ 4096 ∧ ∀ k, k < cL C j → (cS C j k).length ≤ 131072
def GU (C : List (List (List Int))) : Prop := ∀ j k, U64 (cS C j k)
def Bl (w wr : World) : Prop := Below w.heap.size w wr

/-- before_any and leq_any, as a walk in the text's order wants them. -/
theorem before_q (aa : Option Addr) (na ca : Nat) (la : List Int) (ab : Option Addr) (nb cb : Nat) (lb : List Int) (w : World) (ha : la.length = na) (hb : lb.length = nb) (hna : na ≤ 1048576) (hnb : nb ≤ 1048576) (sa : Seg w aa la) (sb : Seg w ab lb) (m : Nat) :
    Calls Try.prog 5 #[.slice aa na ca, .slice ab nb cb] (w.drewN m) fun e w' => e = .returned (.bool (befB la lb)) ∧ w' = w.drewN m :=
  (before_any aa na ca la ab nb cb lb (w.drewN m) ha hb hna hnb (sa.kept ((Below.refl _ _).grown (grownBy_drewN w m none) (Nat.le_refl _) (by simp))) (sb.kept ((Below.refl _ _).grown (grownBy_drewN w m none) (Nat.le_refl _) (by simp)))).mono fun _ _ h => ⟨h.1, h.2.symm⟩
theorem leq_q (aa : Option Addr) (na ca : Nat) (la : List Int) (ab : Option Addr) (nb cb : Nat) (lb : List Int) (w : World) (ha : la.length = na) (hb : lb.length = nb) (hna : na ≤ 1048576) (hnb : nb ≤ 1048576) (sa : Seg w aa la) (sb : Seg w ab lb) (m : Nat) :
    Calls Try.prog 10 #[.slice aa na ca, .slice ab nb cb] (w.drewN m) fun e w' => e = .returned (.bool (leqB la lb)) ∧ w' = w.drewN m :=
  (leq_any aa na ca la ab nb cb lb (w.drewN m) ha hb hna hnb (sa.kept ((Below.refl _ _).grown (grownBy_drewN w m none) (Nat.le_refl _) (by simp))) (sb.kept ((Below.refl _ _).grown (grownBy_drewN w m none) (Nat.le_refl _) (by simp)))).mono fun _ _ h => ⟨h.1, h.2.symm⟩
theorem below_drewN {B : Nat} {a w : World} (h : Below B a w) (m : Nat) : Below B a (w.drewN m) := ⟨h.os, h.tape, h.output, h.size, h.block⟩
theorem GA.L {C : List (List (List Int))} (h : GA C C.length) (j : Nat) : cL C j ≤ 4096 := by
  by_cases hj : j < C.length
  · exact (h.2 j hj).1
  · unfold cL
    rw [List.getD_eq_getElem?_getD, List.getElem?_eq_none (by omega)]
    simp
theorem GA.len {C : List (List (List Int))} (h : GA C C.length) (j k : Nat) : (cS C j k).length ≤ 131072 := by
  by_cases hj : j < C.length
  · by_cases hk : k < cL C j
    · exact (h.2 j hj).2 k hk
    · unfold cL at hk
      unfold cS
      rw [List.getD_eq_getElem?_getD (l := C.getD j []), List.getElem?_eq_none (by omega)]
      simp
  · unfold cS
    rw [List.getD_eq_getElem?_getD (l := C), List.getElem?_eq_none (by omega)]
    simp
theorem less_q (s t : Int) (b : Bool) (hb : decide (s < t) = b) (w : World) (m : Nat) :
    Calls Try.prog 8 #[.int .u64 (s / 18446744073709551616), .int .u64 (s % 18446744073709551616), .int .u64 (t / 18446744073709551616), .int .u64 (t % 18446744073709551616)] (w.drewN m) fun e w' => e = .returned (.bool b) ∧ w' = w.drewN m := by
  refine (sumLess_any _ _ _ _ (w.drewN m)).mono fun e w' h => ?_
  rw [less_iff, hb] at h
  exact ⟨h.1, h.2.symm⟩
def OdS (C : List (List (List Int))) (wb : World) (tvs : Nat → Value) (wr : World) (g13 g14 g15 g16 g17 g25 a : Nat) : Prop :=
  ∃ o, Od C wb tvs wr g13 g14 g15 g16 g17 g25 o ∧ Bij o (cN C) ∧ Srt (sOf C) o a
def OdJ (C : List (List (List Int))) (wb : World) (tvs : Nat → Value) (wr : World) (g13 g14 g15 g16 g17 g25 a j : Nat) : Prop :=
  ∃ o, Od C wb tvs wr g13 g14 g15 g16 g17 g25 o ∧ Bij o (cN C) ∧ InvJ (sOf C) o a j
theorem bij_id (N : Nat) : Bij (fun i => if i < N then i else 0) N := by
  refine ⟨fun a ha => by simp [ha], fun a b ha hb h => by simpa [ha, hb] using h, fun i hi => ⟨i, hi, by simp [hi]⟩⟩

set_option maxRecDepth 100000 in
set_option maxHeartbeats 4000000 in
theorem main_any (ao : Option Addr) (n c : Nat) (C : List (List (List Int))) (w : World) (hI : In3 w (.slice ao n c) C) :
    Calls Try.prog 3 #[.slice ao n c] w (MainP w) := by
  have HI : Hid (In3 w (.slice ao n c) C) := hI
  obtain ⟨ao', n', c', hv, hn, hnil, hmx, hcs⟩ := hI
  simp only [Value.slice.injEq] at hv
  obtain ⟨h1, h2, h3⟩ := hv
  subst h1; subst h2; subst h3
  have HN : Hid (C.length = n) := hn
  have HCS : Hid (C = [] ∨ ∃ b off, ao = some ⟨b, off, none⟩ ∧ ∀ j, j < C.length → ∃ tv, w.cell? ⟨b, off + j, none⟩ = some tv ∧ In2 w tv (C.getD j [])) := hcs
  unfold maxLen at hmx
  clear hn hnil hcs
  go_enter Try.func3, Try.ntmps3
  go_wp2_with fail
  refine (bytes_any ao n c C w HI.out).mono ?_
  rintro e w' ⟨⟨bz, rfl⟩, hw⟩
  have hw2 := hw.symm
  subst hw2
  clear hw
  cases bz with
  | false =>
    go_wp2_with fail
    go_ret
    exact ⟨rfl, Below.refl _ _⟩
  | true =>
    by_cases hbig : n ≤ 4096
    · have hbi : ¬ (4096 : Int) < (n : Int) := by omega
      go_wp2_with fail
      go_loop [3, 4, 59] (fun s z i => ∃ (p : Nat) (y : Int), p ≤ n ∧ 0 ≤ y ∧ y ≤ 131072 ∧ s = .int .i64 (sumN (cL C) p : Nat) ∧ z = .int .i64 y ∧ i = .int .i64 p ∧ Hid (GA C p)) (fun _ _ i => n - (intOf i).toNat)
      case atStart => exact ⟨0, _, Nat.zero_le _, by omega, by omega, rfl, rfl, rfl, ⟨by simp [sumN], fun j h => absurd h (by omega)⟩⟩
      case round =>
        obtain ⟨p, y, hp, hy0, hy1, rfl, rfl, rfl, HG⟩ := hrel
        have hG1 := HG.out.1
        by_cases hlt : p < n
        · as_aux_lemma =>
            have hpi : (p : Int) < (n : Int) := by omega
            rcases HCS.out with hcs | ⟨b, off, e, hcs⟩
            · have := HN.out
              rw [hcs] at this
              simp at this
              omega
            · subst e
              obtain ⟨tv, hc, hT⟩ := hcs p (by rw [HN.out]; exact hlt)
              clear hcs
              obtain ⟨a2, n2, c2, hv2, hn2, hnil2, hmx2, hcs2⟩ := hT
              subst hv2
              have HN2 : Hid (cL C p = n2) := hn2
              have HCS2 : Hid (C.getD p [] = [] ∨ ∃ b off, a2 = some ⟨b, off, none⟩ ∧ ∀ j, j < (C.getD p []).length → ∃ tv, w.cell? ⟨b, off + j, none⟩ = some tv ∧ In1 w tv ((C.getD p []).getD j [])) := hcs2
              unfold maxLen at hmx2
              clear hn2 hnil2 hcs2
              by_cases h2 : n2 ≤ 4096
              · have h2i : ¬ (4096 : Int) < (n2 : Int) := by omega
                by_cases h3 : sumN (cL C) p + n2 ≤ 4096
                · have h3i : ¬ (4096 : Int) < (sumN (cL C) p : Int) + (n2 : Int) := by omega
                  by_cases h4 : y + 3 * (n2 : Int) ≤ 131072
                  · have h4i : ¬ (131072 : Int) < y + 3 * (n2 : Int) := by omega
                    go_wp2_with fail
                    go_loop [4, 83] (fun z i => ∃ (k : Nat) (x : Int), k ≤ n2 ∧ 0 ≤ x ∧ x ≤ 131072 ∧ z = .int .i64 x ∧ i = .int .i64 k ∧ Hid (∀ k', k' < k → (cS C p k').length ≤ 131072)) (fun _ i => n2 - (intOf i).toNat)
                    case atStart => exact ⟨0, _, Nat.zero_le _, by omega, h4, rfl, rfl, fun k' h => absurd h (by omega)⟩
                    case round =>
                      obtain ⟨k, x, hk, hx0, hx1, rfl, rfl, HK⟩ := hrel
                      by_cases hlt2 : k < n2
                      · have hki : (k : Int) < (n2 : Int) := by omega
                        rcases HCS2.out with hcs | ⟨b2, off2, e, hcs⟩
                        · have := HN2.out
                          unfold cL at this
                          rw [hcs] at this
                          simp at this
                          omega
                        · subst e
                          obtain ⟨tv, hc2, hT⟩ := hcs k (by have := HN2.out; unfold cL at this; rw [this]; exact hlt2)
                          clear hcs
                          obtain ⟨a3, n3, c3, hv3, hn3, _, _, _, hmx3⟩ := hT
                          subst hv3
                          have HN3 : Hid ((cS C p k).length = n3) := hn3
                          unfold maxLen at hmx3
                          clear hn3
                          by_cases h5 : n3 ≤ 131072
                          · by_cases h6 : x + (n3 : Int) ≤ 131072
                            · go_wp2_with fail
                              go_round
                              case rel => exact ⟨k + 1, _, by omega, by omega, h6, rfl, by go_num, fun k' h => by
                                by_cases e : k' = k
                                · subst e; rw [HN3.out]; exact h5
                                · exact HK.out k' (by omega)⟩
                              case measure => simp [intOf]; omega
                            · go_wp2_with fail
                              go_ret
                              exact ⟨rfl, Below.refl _ _⟩
                          · go_wp2_with fail
                            go_ret
                            exact ⟨rfl, Below.refl _ _⟩
                      · have hkn : n2 = k := by omega
                        have HG2 : Hid (GA C (p + 1)) := by
                          refine ⟨?_, fun j hj => ?_⟩
                          · show sumN (cL C) p + cL C p ≤ 4096
                            rw [HN2.out]; exact h3
                          · by_cases e : j = p
                            · subst e
                              rw [HN2.out]
                              exact ⟨h2, fun k' hk' => HK.out k' (by omega)⟩
                            · exact HG.out.2 j (by omega)
                        have HS : Hid (sumN (cL C) (p + 1) = sumN (cL C) p + n2) := by
                          show sumN (cL C) p + cL C p = _
                          rw [HN2.out]
                        clear hkn
                        go_wp2_with fail
                        go_round
                        case rel => exact ⟨p + 1, _, by omega, hx0, hx1, by rw [HS.out]; go_num, rfl, by go_num, HG2⟩
                        case measure => simp [intOf]; omega
                  · have h4i : (131072 : Int) < y + 3 * (n2 : Int) := by omega
                    go_wp2_with fail
                    go_ret
                    exact ⟨rfl, Below.refl _ _⟩
                · have h3i : (4096 : Int) < (sumN (cL C) p : Int) + (n2 : Int) := by omega
                  go_wp2_with fail
                  go_ret
                  exact ⟨rfl, Below.refl _ _⟩
              · have h2i : (4096 : Int) < (n2 : Int) := by omega
                go_wp2_with fail
                go_ret
                exact ⟨rfl, Below.refl _ _⟩
        · have hpn : n = p := by omega
          have HGA : Hid (GA C C.length) := by rw [HN.out, hpn]; exact HG
          have HNN : Hid (sumN (cL C) p = cN C) := by
            show _ = sumN (cL C) C.length
            rw [HN.out, hpn]
          have hNb : cN C ≤ 4096 := by have := HNN.out; omega
          rw [HNN.out]
          clear hG1 HG hpn
          go_wp2_with fail
          go_loopw [100] (fun i wr => ∃ (q : Nat), q ≤ n ∧ i = .int .i64 q ∧ Hid (GB C q) ∧ Hid (Bl w wr)) (fun i _ => n - (intOf i).toNat)
          case atStart => exact ⟨0, Nat.zero_le _, rfl, fun j h => absurd h (by omega), Below.refl _ _⟩
          case round =>
            obtain ⟨q, hq, rfl, HB, HW⟩ := hrel
            by_cases hlt3 : q < n
            · as_aux_lemma =>
                have hqi : (q : Int) < (n : Int) := by omega
                rcases HCS.out with hcs | ⟨b, off, e, hcs⟩
                · have := HN.out
                  rw [hcs] at this
                  simp at this
                  omega
                · subst e
                  obtain ⟨tv, hc0, hT⟩ := hcs q (by rw [HN.out]; exact hlt3)
                  have hc := cell_kept hc0 HW.out
                  clear hcs hc0
                  obtain ⟨a2, n2, c2, hv2, hn2, hnil2, hmx2, hcs2⟩ := hT
                  subst hv2
                  have HN2 : Hid (cL C q = n2) := hn2
                  have HCS2 : Hid (C.getD q [] = [] ∨ ∃ b off, a2 = some ⟨b, off, none⟩ ∧ ∀ j, j < (C.getD q []).length → ∃ tv, w.cell? ⟨b, off + j, none⟩ = some tv ∧ In1 w tv ((C.getD q []).getD j [])) := hcs2
                  obtain ⟨g1, g2⟩ := HGA.out.2 q (by rw [HN.out]; exact hlt3)
                  have HL3 : Hid (∀ k, k < cL C q → (cS C q k).length ≤ 131072) := g2
                  have hn2b : n2 ≤ 4096 := by have := HN2.out; omega
                  clear hn2 hnil2 hcs2 hmx2 g1 g2
                  go_wp2_with fail
                  clear hc
                  go_loopw [11] (fun i wr => ∃ (k : Nat), 1 ≤ k ∧ k ≤ 4096 ∧ i = .int .i64 k ∧ Hid (∀ k', 0 < k' → k' < k → befB (cS C q (k' - 1)) (cS C q k') = true) ∧ Hid (Bl w wr)) (fun i _ => n2 - (intOf i).toNat)
                  case atStart => exact ⟨1, Nat.le_refl _, by omega, rfl, fun k' h1 h2 => absurd h1 (by omega), HW⟩
                  case round =>
                    clear HW
                    obtain ⟨k, hk1, hk4, rfl, HK, HW⟩ := hrel
                    by_cases hlt4 : k < n2
                    · have hki : (k : Int) < (n2 : Int) := by omega
                      have hk1i : (1 : Int) ≤ (k : Int) := by omega
                      rcases HCS2.out with hcs | ⟨b2, off2, e, hcs⟩
                      · have := HN2.out
                        unfold cL at this
                        rw [hcs] at this
                        simp at this
                        omega
                      · subst e
                        have hNL : (C.getD q []).length = n2 := HN2.out
                        obtain ⟨tv, hc20, hT0⟩ := hcs k (by omega)
                        obtain ⟨tv', hc30, hT1⟩ := hcs (k - 1) (by omega)
                        have hc2 := cell_kept hc20 HW.out
                        have hc3 := cell_kept hc30 HW.out
                        have hT := hT0.kept HW.out
                        have hT' := hT1.kept HW.out
                        clear hcs hc20 hc30 hT0 hT1
                        obtain ⟨a3, n3, c3, hv3, hn3, _, hsg3, _, _⟩ := hT
                        subst hv3
                        obtain ⟨a4, n4, c4, hv4, hn4, _, hsg4, _, _⟩ := hT'
                        subst hv4
                        have hb3 := HL3.out k (by have := HN2.out; omega)
                        have hb4 := HL3.out (k - 1) (by have := HN2.out; omega)
                        have HBF : Hid (∀ m, Calls Try.prog 5 #[.slice a4 n4 c4, .slice a3 n3 c3] (wr.drewN m) fun e w' => e = .returned (.bool (befB (cS C q (k - 1)) (cS C q k))) ∧ w' = wr.drewN m) :=
                          before_q a4 n4 c4 (cS C q (k - 1)) a3 n3 c3 (cS C q k) wr hn4 hn3 (by unfold cS at hb4; omega) (by unfold cS at hb3; omega) hsg4 hsg3
                        clear hn3 hsg3 hn4 hsg4 hb3 hb4 hNL
                        have HBE : Hid (∀ b, befB (cS C q (k - 1)) (cS C q k) = b → b = true → ∀ k', 0 < k' → k' < k + 1 → befB (cS C q (k' - 1)) (cS C q k') = true) := fun b hb ht k' h1 h2 => by
                          by_cases e : k' = k
                          · subst e; rw [hb, ht]
                          · exact HK.out k' h1 (by omega)
                        generalize befB (cS C q (k - 1)) (cS C q k) = bb at HBF HBE
                        cases bb with
                        | true =>
                          go_wp2_with fail
                          go_quiet ((go_at_call 5; exact Calls.quiet_of_same (HBF.out _)))
                          go_wp2_with fail
                          go_roundw
                          case rel => exact ⟨k + 1, by omega, by omega, by go_num, HBE.out true rfl rfl, below_drewN HW.out _⟩
                          case measure => simp [intOf]; omega
                        | false =>
                          go_wp2_with fail
                          go_quiet ((go_at_call 5; exact Calls.quiet_of_same (HBF.out _)))
                          go_wp2_with fail
                          go_ret
                          exact ⟨rfl, below_drewN HW.out _⟩
                    · have HB2 : Hid (GB C (q + 1)) := fun j hj k' h1 h2 => by
                        by_cases e : j = q
                        · subst e
                          exact HK.out k' h1 (by have := HN2.out; omega)
                        · exact HB.out j (by omega) k' h1 h2
                      go_wp2_with fail
                      go_roundw
                      case rel => exact ⟨q + 1, by omega, by go_num, HB2, HW⟩
                      case measure => simp [intOf]; omega
            · have hqn : n = q := by omega
              have HGB : Hid (GB C C.length) := by rw [HN.out, hqn]; exact HB
              clear HB hqn
              have HL4 : Hid (∀ j, cL C j ≤ 4096) := HGA.out.L
              have HLE : Hid (∀ j k, (cS C j k).length ≤ 131072) := HGA.out.len
              have HU : Hid (∀ j k, U64 (cS C j k)) := HI.out.u
              have hmN : cN C ≤ maxLen := by unfold maxLen; omega
              go_wp2_with fail
              refine (copy_any ao n c C wr (HI.out.kept HW.out) (by rw [HN.out]; exact hbig) HL4.out HLE.out).mono ?_
              intro e wb hcp
              obtain ⟨ac, tvs, rfl, hb0, hf⟩ := hcp.facts
              have HBB : Hid (Bl w wb) := HW.out.trans (hb0.mono HW.out.size)
              have HCF : Hid (CpF C wb ac tvs) := hf
              rw [HN.out]
              clear hcp hb0 hf HW
              go_wp2_with (first
                | (at_make; refine wpList_mk rfl (.tmp 124) (.tmp 124) 29 rfl 31 (.slice none 0 0) 24 Try.underlying29 Try.info31 rfl _ _ _ _ (cN C) rfl rfl rfl rfl (by omega) hmN ?_; intro w1 A1 G1)
                | (at_make; refine wpList_mk rfl (.tmp 126) (.tmp 126) 30 rfl 3 (.int .i64 0) 8 Try.underlying30 Try.info3 rfl _ _ _ _ (cN C) rfl rfl rfl rfl (by omega) hmN ?_; intro w2 A2 G2)
                | (at_make; refine wpList_mk rfl (.tmp 128) (.tmp 128) 30 rfl 3 (.int .i64 0) 8 Try.underlying30 Try.info3 rfl _ _ _ _ (cN C) rfl rfl rfl rfl (by omega) hmN ?_; intro w3 A3 G3)
                | (at_make; refine wpList_mk rfl (.tmp 130) (.tmp 130) 25 rfl 32 (.int .u64 0) 8 Try.underlying25 Try.info32 rfl _ _ _ _ (cN C) rfl rfl rfl rfl (by omega) hmN ?_; intro w4 A4 G4)
                | (at_make; refine wpList_mk rfl (.tmp 132) (.tmp 132) 25 rfl 32 (.int .u64 0) 8 Try.underlying25 Try.info32 rfl _ _ _ _ (cN C) rfl rfl rfl rfl (by omega) hmN ?_; intro w5 A5 G5))
              have HB5 : Hid (B5 C wb tvs w5 wb.heap.size w1.heap.size w2.heap.size w3.heap.size w4.heap.size 0) := B5.start tvs A1 G1 A2 G2 A3 G3 A4 G4 A5 G5
              clear A1 G1 A2 G2 A3 G3 A4 G4 A5 G5
              generalize wb.heap.size = g13 at HB5 ⊢
              generalize w1.heap.size = g14 at HB5 ⊢
              generalize w2.heap.size = g15 at HB5 ⊢
              generalize w3.heap.size = g16 at HB5 ⊢
              generalize w4.heap.size = g17 at HB5 ⊢
              have o1 := HB5.out.o1
              have o2 := HB5.out.o2
              have o3 := HB5.out.o3
              have o4 := HB5.out.o4
              go_loopw [18, 136] (fun s i wr => ∃ (p m : Nat), p ≤ n ∧ m ≤ 4096 ∧ s = .int .i64 (m : Nat) ∧ i = .int .i64 p ∧ Hid (m = sumN (cL C) p) ∧ Hid (B5 C wb tvs wr g13 g14 g15 g16 g17 m)) (fun _ i _ => n - (intOf i).toNat)
              case atStart => exact ⟨0, 0, Nat.zero_le _, Nat.zero_le _, rfl, rfl, rfl, HB5⟩
              case round =>
                clear HB5
                obtain ⟨p, m, hp, hm4, rfl, rfl, HM, HB5⟩ := hrel
                by_cases hlt5 : p < n
                · as_aux_lemma =>
                    have hpi : (p : Int) < (n : Int) := by omega
                    have hpC : p < C.length := by rw [HN.out]; exact hlt5
                    obtain ⟨gc, hgc, hcf⟩ := HCF.out (by omega)
                    subst hgc
                    obtain ⟨aj, hcj0, hrow⟩ := hcf p hpC
                    have hcj := cell_kept hcj0 HB5.out.bel
                    have HRW : Hid (0 < cL C p → ∃ gj, aj = some ⟨gj, 0, none⟩ ∧ ∀ k, k < cL C p → wb.cell? ⟨gj, k, none⟩ = some (tvs (sumN (cL C) p + k)) ∧ TsA wb (tvs (sumN (cL C) p + k)) (cS C p k)) := hrow
                    have hLp := HL4.out p
                    have HPC : Hid (p < C.length) := hpC
                    clear hcf hcj0 hrow hpC
                    go_wp2_with fail
                    clear hcj
                    go_loopw [18, 143] (fun s i wr => ∃ (k m : Nat), k ≤ cL C p ∧ m ≤ 4096 ∧ s = .int .i64 (m : Nat) ∧ i = .int .i64 k ∧ Hid (m = sumN (cL C) p + k) ∧ Hid (B5 C wb tvs wr g13 g14 g15 g16 g17 m)) (fun _ i _ => cL C p - (intOf i).toNat)
                    case atStart => exact ⟨0, m, Nat.zero_le _, hm4, rfl, rfl, HM, HB5⟩
                    case round =>
                      clear HB5 HM hm4
                      obtain ⟨k, m1, hk, hm4, rfl, rfl, HM, HB5⟩ := hrel
                      by_cases hlt6 : k < cL C p
                      · have hki : (k : Int) < (cL C p : Int) := by omega
                        obtain ⟨gj, hgj, hcells⟩ := HRW.out (by omega)
                        subst hgj
                        obtain ⟨hcv0, htsA⟩ := hcells k hlt6
                        rw [← HM.out] at hcv0 htsA
                        have hmlt : m1 < cN C := by rw [HM.out]; exact e_lt HPC.out hlt6
                        have hts := (htsA.ts (HLE.out p k) (HU.out p k)).kept HB5.out.bel
                        obtain ⟨at_, nt, ct, hv, hlen, _, hsg, _⟩ := hts.ex
                        have hcv := cell_kept hcv0 HB5.out.bel
                        rw [hv] at hcv
                        have HV : Hid (tvs m1 = .slice at_ nt ct) := hv
                        have HSM := sum_any at_ nt ct (cS C p k) wr hlen (by have := HLE.out p k; omega) (HU.out p k) hsg
                        have q13 := HB5.out.a13.cell m1 hmlt
                        have q14 := HB5.out.a14.cell m1 hmlt
                        have q15 := HB5.out.a15.cell m1 hmlt
                        have q16 := HB5.out.a16.cell m1 hmlt
                        have q17 := HB5.out.a17.cell m1 hmlt
                        rw [if_neg (by omega)] at q13 q14 q15 q16 q17
                        have f13 := HB5.out.a13.free m1
                        have f14 := HB5.out.a14.free m1
                        have f15 := HB5.out.a15.free m1
                        have f16 := HB5.out.a16.free m1
                        have f17 := HB5.out.a17.free m1
                        have hmi : (m1 : Int) < (cN C : Int) := by omega
                        obtain ⟨e1, e2⟩ := e_at HPC.out hlt6
                        rw [← HM.out] at e1 e2
                        have E1 : Hid (eP C m1 = p) := e1
                        have E2 : Hid (eK C m1 = k) := e2
                        have E3 : Hid (eS C m1 = cS C p k) := by show cS C (eP C m1) (eK C m1) = _; rw [e1, e2]
                        have HLT : Hid (m1 + 1 = sumN (cL C) p + (k + 1)) := by have := HM.out; show m1 + 1 = _; omega
                        clear e1 e2 hts hlen hsg hv hcv0 htsA hcells hmlt
                        go_wp2_with fail
                        refine HSM.mono ?_
                        rintro e w6 ⟨rfl, hw6⟩
                        subst hw6
                        clear HSM
                        go_wp2_with fail
                        go_roundw
                        case rel =>
                          refine ⟨k + 1, m1 + 1, by omega, by omega, by go_num, by go_num, HLT, HB5.out.step HV.out.symm ?_ ?_ ?_ ?_⟩
                          · rw [E1.out]
                          · rw [E2.out]
                          · rw [E3.out]
                          · rw [E3.out]
                        case measure => simp [intOf]; omega
                      · have hkL : k = cL C p := by omega
                        have HM2 : Hid (m1 = sumN (cL C) (p + 1)) := by show m1 = sumN (cL C) p + cL C p; rw [HM.out, hkL]
                        clear hkL
                        go_wp2_with fail
                        go_roundw
                        case rel => exact ⟨p + 1, m1, by omega, hm4, rfl, by go_num, HM2, HB5⟩
                        case measure => simp [intOf]; omega
                · have hpn : n = p := by omega
                  have HM2 : Hid (m = cN C) := by show m = sumN (cL C) C.length; rw [HN.out, hpn]; exact HM.out
                  have HBF : Hid (B5 C wb tvs wr g13 g14 g15 g16 g17 (cN C)) := by rw [← HM2.out]; exact HB5
                  clear HB5 HM hpn
                  go_wp2_with (at_make; refine wpList_mk rfl (.tmp 177) (.tmp 177) 30 rfl 3 (.int .i64 0) 8 Try.underlying30 Try.info3 rfl _ _ _ _ (cN C) rfl rfl rfl rfl (by omega) hmN ?_; intro w7 A7 G7)
                  have HO : Hid (Od C wb tvs w7 g13 g14 g15 g16 g17 wr.heap.size (fun i => if i < 0 then i else 0)) := ⟨HBF.out.grown G7, HBF.out.a17.lt, FA.made A7⟩
                  clear A7 G7 HBF
                  generalize wr.heap.size = g25 at HO ⊢
                  have o5 := HO.out.gt
                  go_loopw [26] (fun i wr => ∃ (a : Nat), a ≤ cN C ∧ i = .int .i64 a ∧ Hid (Od C wb tvs wr g13 g14 g15 g16 g17 g25 (fun i => if i < a then i else 0))) (fun i _ => cN C - (intOf i).toNat)
                  case atStart => exact ⟨0, Nat.zero_le _, rfl, HO⟩
                  case round =>
                    clear HO
                    obtain ⟨a, ha, rfl, HO⟩ := hrel
                    by_cases hlt7 : a < cN C
                    · as_aux_lemma =>
                        have hai : (a : Int) < (cN C : Int) := by omega
                        have q25 := HO.out.a.cell a hlt7
                        have f25 := HO.out.a.free a
                        have HO2 : Hid (Od C wb tvs (wr.setCell ⟨g25, a, none⟩ (.int .i64 (a : Nat))) g13 g14 g15 g16 g17 g25 (fun i => if i < a + 1 then i else 0)) := by
                          have := HO.out.set a a rfl
                          rw [upd_fill (fun i : Nat => i) 0 a] at this
                          exact this
                        go_wp2_with fail
                        go_roundw
                        case rel => exact ⟨a + 1, by omega, by go_num, HO2⟩
                        case measure => simp [intOf]; omega
                    · have haN : a = cN C := by omega
                      have HS : Hid (OdS C wb tvs wr g13 g14 g15 g16 g17 g25 1) := by
                        refine ⟨_, HO.out, ?_, fun x y h1 h2 => by omega⟩
                        rw [haN]
                        exact bij_id _
                      clear HO haN
                      go_wp2_with fail
                      go_loopw [27] (fun i wr => ∃ (a : Nat), 1 ≤ a ∧ a ≤ 4097 ∧ i = .int .i64 a ∧ Hid (OdS C wb tvs wr g13 g14 g15 g16 g17 g25 a)) (fun i _ => 4097 - (intOf i).toNat)
                      case atStart => exact ⟨1, Nat.le_refl _, by omega, rfl, HS⟩
                      case round =>
                        clear HS
                        obtain ⟨a1, ha1, ha4, rfl, HS⟩ := hrel
                        by_cases hlt8 : a1 < cN C
                        · as_aux_lemma =>
                            have hai : (a1 : Int) < (cN C : Int) := by omega
                            go_wp2_with fail
                            go_loopw [28] (fun i wr => ∃ (j : Nat), j ≤ a1 ∧ i = .int .i64 j ∧ Hid (OdJ C wb tvs wr g13 g14 g15 g16 g17 g25 a1 j)) (fun i _ => (intOf i).toNat)
                            case atStart =>
                              refine ⟨a1, Nat.le_refl _, rfl, ?_⟩
                              obtain ⟨o, x1, x2, x3⟩ := HS.out
                              exact ⟨o, x1, x2, InvJ.start x3⟩
                            case round =>
                              clear HS
                              obtain ⟨j, hj, rfl, HJ⟩ := hrel
                              obtain ⟨o, x1, x2, x3⟩ := HJ.out
                              by_cases hj0 : 0 < j
                              · have hji : (0 : Int) < (j : Int) := by omega
                                have hjN : (j : Int) < (cN C : Int) := by omega
                                have hoj := x2.lt j (by omega)
                                have hop := x2.lt (j - 1) (by omega)
                                have c1 := x1.a.cell j (by omega)
                                have c2 := x1.a.cell (j - 1) (by omega)
                                have h1 := x1.b.a16.cell _ hoj
                                have h2 := x1.b.a16.cell _ hop
                                have l1 := x1.b.a17.cell _ hoj
                                have l2 := x1.b.a17.cell _ hop
                                rw [if_pos hoj] at h1 l1
                                rw [if_pos hop] at h2 l2
                                have HX1 : Hid (Od C wb tvs wr g13 g14 g15 g16 g17 g25 o) := x1
                                have HX2 : Hid (Bij o (cN C)) := x2
                                have HX3 : Hid (InvJ (sOf C) o a1 j) := x3
                                have HSX : Hid (∀ b, decide (sOf C (o j) < sOf C (o (j - 1))) = b → ∀ m, Calls Try.prog 8 #[.int .u64 (sOf C (o j) / 18446744073709551616), .int .u64 (sOf C (o j) % 18446744073709551616), .int .u64 (sOf C (o (j - 1)) / 18446744073709551616), .int .u64 (sOf C (o (j - 1)) % 18446744073709551616)] (wr.drewN m) fun e w' => e = .returned (.bool b) ∧ w' = wr.drewN m) := fun b hb m => less_q _ _ b hb wr m
                                clear x1 x2 x3 HJ
                                by_cases hless : sOf C (o j) < sOf C (o (j - 1))
                                · have HSL : Hid (∀ m, Calls Try.prog 8 #[.int .u64 (sumZ (eS C (o j)) / 18446744073709551616), .int .u64 (sumZ (eS C (o j)) % 18446744073709551616), .int .u64 (sumZ (eS C (o (j - 1))) / 18446744073709551616), .int .u64 (sumZ (eS C (o (j - 1))) % 18446744073709551616)] (wr.drewN m) fun e w' => e = .returned (.bool true) ∧ w' = wr.drewN m) := HSX.out true (decide_eq_true hless)
                                  have HNX : Hid (∀ n, OdJ C wb tvs ((((wr.drewN n).setCell ⟨g25, j, none⟩ (.int .i64 (o (j - 1) : Nat))).setCell ⟨g25, j - 1, none⟩ (.int .i64 (o j : Nat)))) g13 g14 g15 g16 g17 g25 a1 (j - 1)) := fun n => ⟨_, (HX1.out.grown (grownBy_drewN _ _ _)).swap j, HX2.out.swap hj0 (by omega), HX3.out.step hj0 hj hless⟩
                                  have f1 := HX1.out.a.free j
                                  have f2 := HX1.out.a.free (j - 1)
                                  clear HX1 HX2 HX3 HSX hless
                                  go_wp2_with fail
                                  go_quiet ((go_at_call 8; exact Calls.quiet_of_same (HSL.out _)))
                                  go_wp2_with fail
                                  go_roundw
                                  case rel => exact ⟨j - 1, by omega, by go_num, HNX.out _⟩
                                  case measure => simp [intOf]; omega
                                · have HSL : Hid (∀ m, Calls Try.prog 8 #[.int .u64 (sumZ (eS C (o j)) / 18446744073709551616), .int .u64 (sumZ (eS C (o j)) % 18446744073709551616), .int .u64 (sumZ (eS C (o (j - 1))) / 18446744073709551616), .int .u64 (sumZ (eS C (o (j - 1))) % 18446744073709551616)] (wr.drewN m) fun e w' => e = .returned (.bool false) ∧ w' = wr.drewN m) := HSX.out false (decide_eq_false hless)
                                  have HNX : Hid (∀ n, OdS C wb tvs (wr.drewN n) g13 g14 g15 g16 g17 g25 (a1 + 1)) := fun n => ⟨o, HX1.out.grown (grownBy_drewN _ _ _), HX2.out, HX3.out.done hj (fun _ => by omega)⟩
                                  clear HX1 HX2 HX3 HSX hless
                                  go_wp2_with fail
                                  go_quiet ((go_at_call 8; exact Calls.quiet_of_same (HSL.out _)))
                                  go_wp2_with fail
                                  go_roundw
                                  case rel => exact ⟨a1 + 1, by omega, by omega, by go_num, HNX.out _⟩
                                  case measure => simp [intOf]; omega
                              · have hji : ¬ (0 : Int) < (j : Int) := by omega
                                have HNX : Hid (∀ n, OdS C wb tvs (wr.drewN n) g13 g14 g15 g16 g17 g25 (a1 + 1)) := fun n => ⟨o, x1.grown (grownBy_drewN _ _ _), x2, x3.done hj (fun h => absurd h hj0)⟩
                                clear x1 x2 x3 HJ
                                go_wp2_with fail
                                go_quiet (fail)
                                go_wp2_with fail
                                go_roundw
                                case rel => exact ⟨a1 + 1, by omega, by omega, by go_num, HNX.out _⟩
                                case measure => simp [intOf]; omega
                        · have HSN : Hid (OdS C wb tvs wr g13 g14 g15 g16 g17 g25 (cN C)) := by
                            obtain ⟨o, x1, x2, x3⟩ := HS.out
                            exact ⟨o, x1, x2, fun x y h1 h2 => x3 x y h1 (by omega)⟩
                          clear HS
                          obtain ⟨o, x1, x2, x3⟩ := HSN.out
                          have HLW : Hid (LawP C o) := law C o x2 x3 HGB.out HU.out hNb
                          have HOd : Hid (Od C wb tvs wr g13 g14 g15 g16 g17 g25 o) := x1
                          have HBj : Hid (Bij o (cN C)) := x2
                          have HST : Hid (Stv C wb tvs) := HCF.out.stv
                          clear x1 x2 x3 HSN
                          go_wp2_with (first
                            | (at_make; refine wpList_mk rfl (.tmp 248) (.tmp 248) 29 rfl 31 (.slice none 0 0) 24 Try.underlying29 Try.info31 rfl _ _ _ _ (cN C) rfl rfl rfl rfl (by omega) hmN ?_; intro y1 A1 G1)
                            | (at_make; refine wpList_mk rfl (.tmp 250) (.tmp 250) 30 rfl 3 (.int .i64 0) 8 Try.underlying30 Try.info3 rfl _ _ _ _ (cN C) rfl rfl rfl rfl (by omega) hmN ?_; intro y2 A2 G2)
                            | (at_make; refine wpList_mk rfl (.tmp 252) (.tmp 252) 30 rfl 3 (.int .i64 0) 8 Try.underlying30 Try.info3 rfl _ _ _ _ (cN C) rfl rfl rfl rfl (by omega) hmN ?_; intro y3 A3 G3))
                          have HS3 : Hid (S3 C wb tvs y3 g13 g14 g15 g16 g17 g25 o wr.heap.size y1.heap.size y2.heap.size 0) := S3.start HOd.out A1 G1 A2 G2 A3 G3
                          clear A1 G1 A2 G2 A3 G3 HOd
                          generalize wr.heap.size = g30 at HS3 ⊢
                          generalize y1.heap.size = g31 at HS3 ⊢
                          generalize y2.heap.size = g32 at HS3 ⊢
                          have p0 := HS3.out.p0
                          have p1 := HS3.out.p1
                          have p2 := HS3.out.p2
                          go_loopw [33] (fun i wr => ∃ (a : Nat), a ≤ cN C ∧ i = .int .i64 a ∧ Hid (S3 C wb tvs wr g13 g14 g15 g16 g17 g25 o g30 g31 g32 a)) (fun i _ => cN C - (intOf i).toNat)
                          case atStart => exact ⟨0, Nat.zero_le _, rfl, HS3⟩
                          case round =>
                            clear HS3
                            obtain ⟨a2, ha2, rfl, HS3⟩ := hrel
                            by_cases hlt10 : a2 < cN C
                            · as_aux_lemma =>
                                have hai : (a2 : Int) < (cN C : Int) := by omega
                                have hoa := HBj.out.lt a2 hlt10
                                have hoi : (o a2 : Int) < (cN C : Int) := by omega
                                have c25 := HS3.out.od.a.cell a2 hlt10
                                have c13 := HS3.out.od.b.a13.cell _ hoa
                                have c14 := HS3.out.od.b.a14.cell _ hoa
                                have c15 := HS3.out.od.b.a15.cell _ hoa
                                rw [if_pos hoa] at c13 c14 c15
                                obtain ⟨at_, nt, ct, hv, _, _, _, _⟩ := (TsA.ts (HST.out _ hoa) (HLE.out _ _) (HU.out _ _)).ex
                                rw [hv] at c13
                                have HV : Hid (tvs (o a2) = .slice at_ nt ct) := hv
                                have c30 := HS3.out.a30.cell a2 hlt10
                                have c31 := HS3.out.a31.cell a2 hlt10
                                have c32 := HS3.out.a32.cell a2 hlt10
                                rw [if_neg (by omega)] at c30 c31 c32
                                have f30 := HS3.out.a30.free a2
                                have f31 := HS3.out.a31.free a2
                                have f32 := HS3.out.a32.free a2
                                have HNX : Hid (S3 C wb tvs (((wr.setCell ⟨g30, a2, none⟩ (.slice at_ nt ct)).setCell ⟨g31, a2, none⟩ (.int .i64 (eP C (o a2) : Nat))).setCell ⟨g32, a2, none⟩ (.int .i64 (eK C (o a2) : Nat))) g13 g14 g15 g16 g17 g25 o g30 g31 g32 (a2 + 1)) := HS3.out.step HV.out.symm rfl rfl
                                clear hv HV
                                go_wp2_with fail
                                go_roundw
                                case rel => exact ⟨a2 + 1, by omega, by go_num, HNX⟩
                                case measure => simp [intOf]; omega
                            · have haN : a2 = cN C := by omega
                              have HSF : Hid (S3 C wb tvs wr g13 g14 g15 g16 g17 g25 o g30 g31 g32 (cN C)) := by rw [← haN]; exact HS3
                              clear HS3 haN
                              have HIN : Hid (Inp (rOf C o) wr g30 g31 g32) := HSF.out.inp HST.out HBj.out HLE.out HU.out
                              have HCH : Hid (Chn (rOf C o) wr (.slice ac n n)) := by
                                have := (HCF.out.chn (r := rOf C o) rfl HLE.out HU.out).kept HSF.out.od.b.bel
                                rw [HN.out] at this
                                exact this
                              have hnc : (rOf C o).nc = n := HN.out
                              have hZ := zz_any (rOf C o) HLW.out.ok g30 g31 g32 ac n wr hNb (by rw [hnc]; exact hbig) HIN.out (by rw [hnc]; exact HCH.out) HL4.out
                              rw [hnc] at hZ
                              clear hnc
                              go_wp2_with fail
                              refine hZ.mono ?_
                              rintro e w8 ⟨rfl, hb8⟩
                              clear hZ
                              have HS8 : Hid (S3 C wb tvs w8 g13 g14 g15 g16 g17 g25 o g30 g31 g32 (cN C)) := HSF.out.below hb8
                              clear hb8 HSF HIN HCH
                              have ec : czOf (rOf C o).N (sumN (rOf C o).D (rOf C o).N) (sumN (rOf C o).Q (rOf C o).N) = (Tn C pC (cN C) : Nat) := HLW.out.c
                              have eq : ((sumN (rOf C o).Q (rOf C o).N : Nat) : Int) / 2 = (Tn C pE (cN C) : Nat) := HLW.out.q
                              have ed : sumN (rOf C o).D (rOf C o).N = Tn C pO (cN C) := HLW.out.d
                              have eN : (rOf C o).N = cN C := rfl
                              rw [ec, eq, ed, eN]
                              clear ec eq ed eN
                              go_wp2_with fail
                              have HS4 : Hid (S4 C wb tvs (w8.alloc (.cells #[.int .u64 (Tn C pO (cN C) : Nat), .int .u64 (Tn C pC (cN C) : Nat), .int .u64 (Tn C pE (cN C) : Nat)] 37)) g13 g14 g15 g16 g17 g25 o g30 g31 g32 w8.heap.size) := ⟨HS8.out.grown (World.grownBy_alloc w8 _ none), HS8.out.a32.lt, Arr.new w8 [.int .u64 (Tn C pO (cN C) : Nat), .int .u64 (Tn C pC (cN C) : Nat), .int .u64 (Tn C pE (cN C) : Nat)] 37⟩
                              clear HS8
                              generalize w8.heap.size = g34 at HS4 ⊢
                              have p3 := HS4.out.gt
                              go_loopw [36, 37, 38, 39] (fun sO sC sE i wr => ∃ (a : Nat), a ≤ cN C ∧ sO = .int .u64 (Tn C pO a : Nat) ∧ sC = .int .u64 (Tn C pC a : Nat) ∧ sE = .int .u64 (Tn C pE a : Nat) ∧ i = .int .i64 a ∧ Hid (S4 C wb tvs wr g13 g14 g15 g16 g17 g25 o g30 g31 g32 g34)) (fun _ _ _ i _ => cN C - (intOf i).toNat)
                              case atStart => exact ⟨0, Nat.zero_le _, rfl, rfl, rfl, rfl, HS4⟩
                              case round =>
                                clear HS4
                                obtain ⟨a3, ha3, rfl, rfl, rfl, rfl, HS4⟩ := hrel
                                by_cases hlt11 : a3 < cN C
                                · as_aux_lemma =>
                                    have hai : (a3 : Int) < (cN C : Int) := by omega
                                    obtain ⟨s1, n1, c1, hv1⟩ := HST.out.ex HLE.out HU.out hlt11
                                    have HV1 : Hid (tvs a3 = .slice s1 n1 c1) := hv1
                                    clear hv1
                                    go_wp2_with fail
                                    go_loopw [36, 37, 38, 40] (fun sO sC sE i wr => ∃ (b : Nat), a3 < b ∧ b ≤ cN C ∧ sO = .int .u64 (tri C pO a3 b : Nat) ∧ sC = .int .u64 (tri C pC a3 b : Nat) ∧ sE = .int .u64 (tri C pE a3 b : Nat) ∧ i = .int .i64 b ∧ Hid (S4 C wb tvs wr g13 g14 g15 g16 g17 g25 o g30 g31 g32 g34)) (fun _ _ _ i _ => cN C - (intOf i).toNat)
                                    case atStart => exact ⟨a3 + 1, by omega, by omega, by rw [tri_start], by rw [tri_start], by rw [tri_start], by go_num, HS4⟩
                                    case round =>
                                      clear HS4
                                      obtain ⟨b3, hab, hb3, rfl, rfl, rfl, rfl, HS4⟩ := hrel
                                      by_cases hlt12 : b3 < cN C
                                      · have hbi3 : (b3 : Int) < (cN C : Int) := by omega
                                        obtain ⟨s2, n2, c2, hv2⟩ := HST.out.ex HLE.out HU.out hlt12
                                        have HV2 : Hid (tvs b3 = .slice s2 n2 c2) := hv2
                                        clear hv2
                                        have k1 := HS4.out.st hlt11 HV1.out
                                        have k2 := HS4.out.st hlt12 HV2.out
                                        have HB1 : Hid (∀ m, Calls Try.prog 10 #[.slice s1 n1 c1, .slice s2 n2 c2] (wr.drewN m) fun e w' => e = .returned (.bool (leqB (eS C a3) (eS C b3))) ∧ w' = wr.drewN m) := HS4.out.leq HST.out HLE.out HU.out hlt11 hlt12 HV1.out HV2.out
                                        have HT : Hid (∀ ab ba, leqB (eS C a3) (eS C b3) = ab → leqB (eS C b3) (eS C a3) = ba → tri C pO a3 (b3 + 1) = tri C pO a3 b3 + (if (!(ab && ba) && (ab || ba)) = true then 1 else 0) ∧ tri C pC a3 (b3 + 1) = tri C pC a3 b3 + (if (!(ab || ba)) = true then 1 else 0) ∧ tri C pE a3 (b3 + 1) = tri C pE a3 b3 + (if (ab && ba) = true then 1 else 0)) := fun ab ba h1 h2 => tri_all C hab h1 h2
                                        have bO := tri_le C pO a3 b3 (by omega) (by omega) hNb
                                        have bC := tri_le C pC a3 b3 (by omega) (by omega) hNb
                                        have bE := tri_le C pE a3 b3 (by omega) (by omega) hNb
                                        generalize hgab : leqB (eS C a3) (eS C b3) = ab at HB1 HT
                                        clear hgab
                                        go_wp2_with fail
                                        go_quiet ((go_at_call 10; exact Calls.quiet_of_same (HB1.out _)))
                                        clear k1 k2 HB1
                                        generalize hwv : World.drewN _ _ = wv
                                        have HSv : Hid (S4 C wb tvs wv g13 g14 g15 g16 g17 g25 o g30 g31 g32 g34) := by rw [← hwv]; exact HS4.out.grown (grownBy_drewN _ _ _)
                                        clear hwv HS4
                                        have k1 := HSv.out.st hlt11 HV1.out
                                        have k2 := HSv.out.st hlt12 HV2.out
                                        have HB2 : Hid (∀ m, Calls Try.prog 10 #[.slice s2 n2 c2, .slice s1 n1 c1] (wv.drewN m) fun e w' => e = .returned (.bool (leqB (eS C b3) (eS C a3))) ∧ w' = wv.drewN m) := HSv.out.leq HST.out HLE.out HU.out hlt12 hlt11 HV2.out HV1.out
                                        generalize hgba : leqB (eS C b3) (eS C a3) = ba at HB2 HT
                                        clear hgba
                                        have HT2 := HT.out ab ba rfl rfl
                                        have HTO : Hid (tri C pO a3 (b3 + 1) = tri C pO a3 b3 + (if (!(ab && ba) && (ab || ba)) = true then 1 else 0)) := HT2.1
                                        have HTC : Hid (tri C pC a3 (b3 + 1) = tri C pC a3 b3 + (if (!(ab || ba)) = true then 1 else 0)) := HT2.2.1
                                        have HTE : Hid (tri C pE a3 (b3 + 1) = tri C pE a3 b3 + (if (ab && ba) = true then 1 else 0)) := HT2.2.2
                                        clear HT HT2
                                        cases ab <;> cases ba
                                        all_goals
                                          go_wp2_with fail
                                          go_quiet ((go_at_call 10; exact Calls.quiet_of_same (HB2.out _)))
                                          go_wp2_with fail
                                          go_roundw
                                          case rel => exact ⟨b3 + 1, by omega, by omega, by rw [HTO.out]; simp; try omega, by rw [HTC.out]; simp; try omega, by rw [HTE.out]; simp; try omega, by go_num, HSv.out.grown (grownBy_drewN _ _ _)⟩
                                          case measure => simp [intOf]; omega
                                      · have hbN : b3 = cN C := by omega
                                        have EO : Hid (tri C pO a3 b3 = Tn C pO (a3 + 1)) := by show _ = _; rw [hbN, tri_end]
                                        have EC : Hid (tri C pC a3 b3 = Tn C pC (a3 + 1)) := by show _ = _; rw [hbN, tri_end]
                                        have EE : Hid (tri C pE a3 b3 = Tn C pE (a3 + 1)) := by show _ = _; rw [hbN, tri_end]
                                        clear hbN
                                        go_wp2_with fail
                                        go_roundw
                                        case rel => exact ⟨a3 + 1, by omega, by rw [EO.out], by rw [EC.out], by rw [EE.out], by go_num, HS4⟩
                                        case measure => simp [intOf]; omega
                                · have haN : a3 = cN C := by omega
                                  have HAN : Hid (a3 = cN C) := haN
                                  clear haN
                                  rw [HAN.out]
                                  clear hlt11
                                  go_wp2_with (at_make; refine wpList_mk rfl (.tmp 341) (.tmp 341) 25 rfl 32 (.int .u64 0) 8 Try.underlying25 Try.info32 rfl _ _ _ _ (cN C) rfl rfl rfl rfl (by omega) hmN ?_; intro w9 A9 G9)
                                  have HS5 : Hid (S5 C wb tvs w9 g13 g14 g15 g16 g17 g25 o g30 g31 g32 g34 wr.heap.size 0) := S5.start HS4.out A9 G9
                                  clear A9 G9 HS4
                                  generalize wr.heap.size = g43 at HS5 ⊢
                                  have p4 := HS5.out.gt
                                  go_loopw [44, 45] (fun sw i wr => ∃ (a : Nat), a ≤ cN C ∧ sw = .int .u64 (maxN (rOf C o).h a : Nat) ∧ i = .int .i64 a ∧ Hid (S5 C wb tvs wr g13 g14 g15 g16 g17 g25 o g30 g31 g32 g34 g43 a)) (fun _ i _ => cN C - (intOf i).toNat)
                                  case atStart => exact ⟨0, Nat.zero_le _, rfl, rfl, HS5⟩
                                  case round =>
                                    clear HS5
                                    obtain ⟨a4, ha4, rfl, rfl, HS5⟩ := hrel
                                    by_cases hlt13 : a4 < cN C
                                    · as_aux_lemma =>
                                        have hai : (a4 : Int) < (cN C : Int) := by omega
                                        obtain ⟨s1, n1, c1, hv1⟩ := HST.out.ex HLE.out HU.out (HBj.out.lt a4 hlt13)
                                        have HV1 : Hid (tvs (o a4) = .slice s1 n1 c1) := hv1
                                        clear hv1
                                        go_wp2_with fail
                                        go_loopw [46, 47] (fun sb i wr => ∃ (b : Nat), b ≤ a4 ∧ sb = .int .u64 (best (rOf C o) (rOf C o).h a4 b : Nat) ∧ i = .int .i64 b ∧ Hid (S5 C wb tvs wr g13 g14 g15 g16 g17 g25 o g30 g31 g32 g34 g43 a4)) (fun _ i _ => cN C - (intOf i).toNat)
                                        case atStart => exact ⟨0, Nat.zero_le _, rfl, rfl, HS5⟩
                                        case round =>
                                          clear HS5
                                          obtain ⟨b4, hb4, rfl, rfl, HS5⟩ := hrel
                                          by_cases hlt14 : b4 < a4
                                          · have hbi4 : (b4 : Int) < (a4 : Int) := by omega
                                            have hbN : b4 < cN C := by omega
                                            obtain ⟨s2, n2, c2, hv2⟩ := HST.out.ex HLE.out HU.out (HBj.out.lt b4 hbN)
                                            have HV2 : Hid (tvs (o b4) = .slice s2 n2 c2) := hv2
                                            clear hv2
                                            have k1 := HS5.out.s.so hlt13 HV1.out
                                            have k2 := HS5.out.s.so hbN HV2.out
                                            have k3 := HS5.out.a43.cell b4 hbN
                                            rw [if_pos hlt14] at k3
                                            have HB : Hid (∀ m, Calls Try.prog 5 #[.slice s2 n2 c2, .slice s1 n1 c1] (wr.drewN m) fun e w' => e = .returned (.bool (befB ((rOf C o).S b4) ((rOf C o).S a4))) ∧ w' = wr.drewN m) := HS5.out.s.bef HST.out HLE.out HU.out (HBj.out.lt b4 hbN) (HBj.out.lt a4 hlt13) HV2.out HV1.out
                                            have HBS : Hid (∀ bb, befB ((rOf C o).S b4) ((rOf C o).S a4) = bb → best (rOf C o) (rOf C o).h a4 (b4 + 1) = if best (rOf C o) (rOf C o).h a4 b4 < (rOf C o).h b4 ∧ bb = true then (rOf C o).h b4 else best (rOf C o) (rOf C o).h a4 b4) := fun bb hbb => by subst hbb; rfl
                                            generalize hgb : befB ((rOf C o).S b4) ((rOf C o).S a4) = bb at HB HBS
                                            have HBS2 : Hid (best (rOf C o) (rOf C o).h a4 (b4 + 1) = if best (rOf C o) (rOf C o).h a4 b4 < (rOf C o).h b4 ∧ bb = true then (rOf C o).h b4 else best (rOf C o) (rOf C o).h a4 b4) := HBS.out bb rfl
                                            clear hgb HBS
                                            by_cases hgt : best (rOf C o) (rOf C o).h a4 b4 < (rOf C o).h b4
                                            · have hgi : (best (rOf C o) (rOf C o).h a4 b4 : Int) < ((rOf C o).h b4 : Int) := by omega
                                              cases bb with
                                              | true =>
                                                have HR : Hid (best (rOf C o) (rOf C o).h a4 (b4 + 1) = (rOf C o).h b4) := by show _ = _; rw [HBS2.out, if_pos ⟨hgt, rfl⟩]
                                                clear HBS2
                                                go_wp2_with fail
                                                go_quiet ((go_at_call 5; exact Calls.quiet_of_same (HB.out _)))
                                                go_wp2_with fail
                                                go_roundw
                                                case rel => exact ⟨b4 + 1, by omega, by rw [HR.out], by go_num, HS5.out.grown (grownBy_drewN _ _ _)⟩
                                                case measure => simp [intOf]; omega
                                              | false =>
                                                have HR : Hid (best (rOf C o) (rOf C o).h a4 (b4 + 1) = best (rOf C o) (rOf C o).h a4 b4) := by show _ = _; rw [HBS2.out, if_neg (by simp)]
                                                clear HBS2
                                                go_wp2_with fail
                                                go_quiet ((go_at_call 5; exact Calls.quiet_of_same (HB.out _)))
                                                go_wp2_with fail
                                                go_roundw
                                                case rel => exact ⟨b4 + 1, by omega, by rw [HR.out], by go_num, HS5.out.grown (grownBy_drewN _ _ _)⟩
                                                case measure => simp [intOf]; omega
                                            · have hgi : ¬ (best (rOf C o) (rOf C o).h a4 b4 : Int) < ((rOf C o).h b4 : Int) := by omega
                                              have HR : Hid (best (rOf C o) (rOf C o).h a4 (b4 + 1) = best (rOf C o) (rOf C o).h a4 b4) := by show _ = _; rw [HBS2.out, if_neg (fun h => hgt h.1)]
                                              clear HBS2 HB
                                              go_wp2_with fail
                                              go_quiet (fail)
                                              go_wp2_with fail
                                              go_roundw
                                              case rel => exact ⟨b4 + 1, by omega, by rw [HR.out], by go_num, HS5.out.grown (grownBy_drewN _ _ _)⟩
                                              case measure => simp [intOf]; omega
                                          · have hbe : b4 = a4 := by omega
                                            have hh := (rOf C o).h_eq a4
                                            have hle := (rOf C o).h_le a4
                                            have HBH : Hid (best (rOf C o) (rOf C o).h a4 b4 + 1 = (rOf C o).h a4) := by show _ = _; rw [hbe]; exact hh.symm
                                            have hbb : best (rOf C o) (rOf C o).h a4 b4 ≤ 4096 := by have := HBH.out; omega
                                            have k3 := HS5.out.a43.cell a4 hlt13
                                            have f3 := HS5.out.a43.free a4
                                            rw [if_neg (by omega)] at k3
                                            have HNX : Hid (S5 C wb tvs (wr.setCell ⟨g43, a4, none⟩ (.int .u64 ((best (rOf C o) (rOf C o).h a4 b4 : Nat) + 1 : Int))) g13 g14 g15 g16 g17 g25 o g30 g31 g32 g34 g43 (a4 + 1)) := HS5.out.step (by have := HBH.out; omega)
                                            have HMX : Hid (maxN (rOf C o).h (a4 + 1) = if maxN (rOf C o).h a4 < (rOf C o).h a4 then (rOf C o).h a4 else maxN (rOf C o).h a4) := rfl
                                            clear hh hle hbe HS5
                                            generalize best (rOf C o) (rOf C o).h a4 b4 = be at HBH hbb HNX ⊢
                                            generalize maxN (rOf C o).h a4 = mx at HMX ⊢
                                            by_cases hmx2 : mx < be + 1
                                            · have hmi : (mx : Int) < (be : Int) + 1 := by omega
                                              have HR : Hid (maxN (rOf C o).h (a4 + 1) = be + 1) := by show _ = _; rw [HMX.out, if_pos (by have := HBH.out; omega), HBH.out]
                                              clear HMX
                                              go_wp2_with fail
                                              go_roundw
                                              case rel => exact ⟨a4 + 1, by omega, by rw [HR.out]; go_num, by go_num, HNX⟩
                                              case measure => simp [intOf]; omega
                                            · have hmi : ¬ (mx : Int) < (be : Int) + 1 := by omega
                                              have HR : Hid (maxN (rOf C o).h (a4 + 1) = mx) := by show _ = _; rw [HMX.out, if_neg (by have := HBH.out; omega)]
                                              clear HMX
                                              go_wp2_with fail
                                              go_roundw
                                              case rel => exact ⟨a4 + 1, by omega, by rw [HR.out], by go_num, HNX⟩
                                              case measure => simp [intOf]; omega
                                    · have haN4 : a4 = cN C := by omega
                                      have HAN4 : Hid (a4 = cN C) := haN4
                                      clear haN4
                                      rw [HAN4.out]
                                      have k0 := HS5.out.s.a34.cell 0
                                      have k1 := HS5.out.s.a34.cell 1
                                      have k2 := HS5.out.s.a34.cell 2
                                      simp only [List.getElem?_cons_zero, List.getElem?_cons_succ] at k0 k1 k2
                                      have HBL : Hid (Below w.heap.size w wr) := HBB.out.trans (HS5.out.s.s.od.b.bel.mono HBB.out.size)
                                      go_wp2_with fail
                                      go_ret
                                      exact ⟨rfl, HBL.out⟩
    · have hbi : (4096 : Int) < (n : Int) := by omega
      go_wp2_with fail
      go_ret
      exact ⟨rfl, Below.refl _ _⟩
end Go.Proofs.Qxb6605431a.cc
