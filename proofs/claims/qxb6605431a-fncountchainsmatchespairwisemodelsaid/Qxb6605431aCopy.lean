import Derived.Test.Qxb6605431aIn
namespace Go.Proofs.Qxb6605431a.cc
open Go.RowKit

set_option maxRecDepth 100000 in
set_option maxHeartbeats 4000000 in
theorem copy_any (ao : Option Addr) (n c : Nat) (C : List (List (List Int))) (w : World) (hI : In3 w (.slice ao n c) C) (hb1 : C.length ≤ 4096) (hb2 : ∀ j, (C.getD j []).length ≤ 4096) (hb3 : ∀ j k, ((C.getD j []).getD k []).length ≤ 131072) :
    Calls Try.prog 6 #[.slice ao n c] w (CopyP C w) := by
  have HI : Hid (In3 w (.slice ao n c) C) := hI
  obtain ⟨ao', n', c', hv, hn, hnil, _, _⟩ := hI
  simp only [Value.slice.injEq] at hv
  obtain ⟨h1, h2, h3⟩ := hv
  subst h1; subst h2; subst h3
  have hq1 := fun w a n c => Go.Lib.run_eql_slice_nil (P := Try.prog) w 22 24 a n c 0 0 Try.underlying22
  have hq2 := fun w a n c => Go.Lib.run_eql_slice_nil (P := Try.prog) w 24 25 a n c 0 0 Try.underlying24
  have hq3 := fun w a n c => Go.Lib.run_eql_slice_nil (P := Try.prog) w 25 32 a n c 0 0 Try.underlying25
  cases ao with
  | none =>
    obtain ⟨rfl, rfl⟩ := hnil rfl
    have hC : C = [] := List.eq_nil_of_length_eq_zero hn
    subst hC
    clear HI
    go_enter Try.func6, Try.ntmps6
    go_wp2_with fail
    go_ret
    exact ⟨none, rfl, Below.refl _ _, fun h => absurd h (by simp)⟩
  | some ad =>
    have HN : Hid (C.length = n) := hn
    have HB2 : Hid (∀ j, (C.getD j []).length ≤ 4096) := hb2
    have HB3 : Hid (∀ j k, ((C.getD j []).getD k []).length ≤ 131072) := hb3
    have hnb : n ≤ 4096 := by omega
    clear hnil hn hb2 hb3 hb1
    have hm : n ≤ maxLen := by unfold maxLen; omega
    go_enter Try.func6, Try.ntmps6
    go_wp2_with (at_make; refine wpList_mk rfl (.tmp 14) (.tmp 14) 27 rfl 29 (.slice none 0 0) 24 Try.underlying27 Try.info29 rfl _ _ _ _ n rfl rfl rfl rfl (by omega) hm ?_; intro w1 A1 G1)
    have HO : Hid (CpO C w w.heap.size w1 0) := CpO.start (by rw [HN.out]; exact A1) G1
    clear A1 G1 hm
    generalize w.heap.size = go at HO ⊢
    go_loopw [18] (fun i wr => ∃ (p : Nat), p ≤ n ∧ i = .int .i64 p ∧ Hid (CpO C w go wr p)) (fun i _ => n - (intOf i).toNat)
    case atStart => exact ⟨0, Nat.zero_le _, rfl, HO⟩
    case round =>
      clear HO
      obtain ⟨p, hp, rfl, HO⟩ := hrel
      by_cases hlt : p < n
      · have hpi : (p : Int) < (n : Int) := by omega
        obtain ⟨ao', n', c', hv, _, _, _, hcs⟩ := HI.out
        simp only [Value.slice.injEq] at hv
        obtain ⟨h1, h2, h3⟩ := hv
        subst h2; subst h3
        rcases hcs with hcs | ⟨b, off, e, hcs⟩
        · have := HN.out
          rw [hcs] at this
          simp at this
          omega
        · rw [e] at h1
          simp only [Option.some.injEq] at h1
          subst h1
          obtain ⟨tv, hc0, hT⟩ := hcs p (by rw [HN.out]; exact hlt)
          have hc := cell_kept hc0 HO.out.bel
          have HT : Hid (In2 w tv (C.getD p [])) := hT
          have hL := HB2.out p
          have HL3 : Hid (∀ k, ((C.getD p []).getD k []).length ≤ 131072) := HB3.out p
          have HPL : Hid (p < C.length) := by show p < C.length; rw [HN.out]; exact hlt
          clear hcs hc0 hT
          have HO2 : Hid (∀ wq v, Below wr.heap.size wr wq → RowA wq v (C.getD p []) → CpO C w go (wq.setCell ⟨go, p, none⟩ v) (p + 1)) := fun wq v hb hv => HO.out.step hb hv HPL.out
          have HO3 : Hid (C.getD p [] = [] → CpO C w go wr (p + 1)) := fun he => HO.out.skip HPL.out he
          have HOC : Hid (∀ wq, Below wr.heap.size wr wq → wq.frozen? ⟨go, p, none⟩ = false ∧ wq.cell? ⟨go, p, none⟩ = some (.slice none 0 0)) := fun wq hb => by
            obtain ⟨xs, h1, h2, _, h4⟩ := HO.out.A
            have := h1.below hb h1.lt
            exact ⟨this.free p, by rw [this.cell, h4 p (Nat.le_refl _) HPL.out]⟩
          have HBW : Hid (Below w.heap.size w wr) := HO.out.bel
          clear HO
          generalize C.getD p [] = ll at HT hL HL3 HO2 HO3
          obtain ⟨a2, n2, c2, hv2, hn2, hnil2, _, hcs2⟩ := HT.out
          subst hv2
          cases a2 with
          | none =>
            obtain ⟨rfl, rfl⟩ := hnil2 rfl
            have hC : ll = [] := List.eq_nil_of_length_eq_zero hn2
            clear hcs2 hn2 hnil2
            go_wp2_with fail
            go_roundw
            case rel => exact ⟨p + 1, by omega, by go_num, HO3.out hC⟩
            case measure => simp [intOf]; omega
          | some ad2 =>
            have HN2 : Hid (ll.length = n2) := hn2
            have hnb2 : n2 ≤ 4096 := by omega
            have hm2 : n2 ≤ maxLen := by unfold maxLen; omega
            have HCS : Hid (ll = [] ∨ ∃ b off, some ad2 = some ⟨b, off, none⟩ ∧ ∀ j, j < ll.length → ∃ tv, w.cell? ⟨b, off + j, none⟩ = some tv ∧ In1 w tv (ll.getD j [])) := hcs2
            clear hcs2 hn2 hnil2 hL HT HO3
            go_wp2_with (at_make; refine wpList_mk rfl (.tmp 26) (.tmp 26) 29 rfl 31 (.slice none 0 0) 24 Try.underlying29 Try.info31 rfl _ _ _ _ n2 rfl rfl rfl rfl (by omega) hm2 ?_; intro w2 A2 G2)
            have HM : Hid (CpM ll wr wr.heap.size w2 0) := CpM.start (by rw [HN2.out]; exact A2) G2
            clear A2 G2 hm2 hc
            obtain ⟨wb, hwb⟩ : ∃ x, x = wr := ⟨_, rfl⟩
            rw [← hwb] at HM HO2 HOC HBW ⊢
            clear hwb
            generalize wb.heap.size = gm at HM ⊢
            go_loopw [30] (fun i wx => ∃ (k : Nat), k ≤ n2 ∧ i = .int .i64 k ∧ Hid (CpM ll wb gm wx k)) (fun i _ => n2 - (intOf i).toNat)
            case atStart => exact ⟨0, Nat.zero_le _, rfl, HM⟩
            case round =>
              clear HM
              obtain ⟨k, hk, rfl, HM⟩ := hrel
              by_cases hlt2 : k < n2
              · have hki : (k : Int) < (n2 : Int) := by omega
                rcases HCS.out with hcs | ⟨b2, off2, e2, hcs⟩
                · have := HN2.out
                  rw [hcs] at this
                  simp at this
                  omega
                · simp only [Option.some.injEq] at e2
                  subst e2
                  obtain ⟨tv, hc0, hT⟩ := hcs k (by rw [HN2.out]; exact hlt2)
                  have hbx : Below w.heap.size w wr := HBW.out.trans (HM.out.bel.mono HBW.out.size)
                  have hc := cell_kept hc0 hbx
                  have HBX : Hid (Below w.heap.size w wr) := hbx
                  have HKL : Hid (k < ll.length) := by show k < ll.length; rw [HN2.out]; exact hlt2
                  have HM2 : Hid (∀ wq v, Below wr.heap.size wr wq → TsA wq v (ll.getD k []) → CpM ll wb gm (wq.setCell ⟨gm, k, none⟩ v) (k + 1)) := fun wq v hb hv => HM.out.step hb hv HKL.out
                  have HM3 : Hid (ll.getD k [] = [] → CpM ll wb gm wr (k + 1)) := fun he => HM.out.skip HKL.out he
                  have HMC : Hid (∀ wq, Below wr.heap.size wr wq → wq.frozen? ⟨gm, k, none⟩ = false ∧ wq.cell? ⟨gm, k, none⟩ = some (.slice none 0 0)) := fun wq hb => by
                    obtain ⟨xs, h1, h2, _, h4⟩ := HM.out.A
                    have := h1.below hb h1.lt
                    exact ⟨this.free k, by rw [this.cell, h4 k (Nat.le_refl _) HKL.out]⟩
                  have hL2 := HL3.out k
                  clear hcs hc0 hbx HM
                  generalize ll.getD k [] = l at hT hL2 HM2 HM3
                  obtain ⟨a3, n3, c3, hv3, hn3, hnil3, hsg, hu, _⟩ := hT
                  subst hv3
                  cases a3 with
                  | none =>
                    obtain ⟨rfl, rfl⟩ := hnil3 rfl
                    have hC : l = [] := List.eq_nil_of_length_eq_zero hn3
                    clear hsg hn3 hnil3 hu hL2
                    go_wp2_with fail
                    go_roundw
                    case rel => exact ⟨k + 1, by omega, by go_num, HM3.out hC⟩
                    case measure => simp [intOf]; omega
                  | some ad3 =>
                    have HN3 : Hid (l.length = n3) := hn3
                    have hnb3 : n3 ≤ 131072 := by omega
                    have hm3 : n3 ≤ maxLen := by unfold maxLen; omega
                    have HSG : Hid (Seg w (some ad3) l) := hsg
                    clear hsg hn3 hnil3 hu hL2 HM3
                    go_wp2_with (at_make; refine wpList_mk rfl (.tmp 38) (.tmp 38) 31 rfl 32 (.int .u64 0) 8 Try.underlying31 Try.info32 rfl _ _ _ _ n3 rfl rfl rfl rfl (by omega) hm3 ?_; intro w3 A3 G3)
                    have HQ : Hid (CpQ l wr wr.heap.size w3 0) := CpQ.start (by rw [HN3.out]; exact A3) G3
                    clear A3 G3 hm3 hc
                    obtain ⟨wk, hwk⟩ : ∃ x, x = wr := ⟨_, rfl⟩
                    rw [← hwk] at HQ HM2 HMC HBX ⊢
                    clear hwk
                    generalize wk.heap.size = gt at HQ ⊢
                    go_loopw [10] (fun i wx => ∃ (q : Nat), q ≤ n3 ∧ i = .int .i64 q ∧ Hid (CpQ l wk gt wx q)) (fun i _ => n3 - (intOf i).toNat)
                    case atStart => exact ⟨0, Nat.zero_le _, rfl, HQ⟩
                    case round =>
                      clear HQ
                      obtain ⟨q, hq, rfl, HQ⟩ := hrel
                      by_cases hlt3 : q < n3
                      · have hqi : (q : Int) < (n3 : Int) := by omega
                        have hql : q < l.length := by rw [HN3.out]; exact hlt3
                        obtain ⟨b3, off3, e3, hcs⟩ := HSG.out.addr (by omega)
                        simp only [Option.some.injEq] at e3
                        subst e3
                        have hc := cell_kept (hcs q hql) (HBX.out.trans (HQ.out.bel.mono HBX.out.size))
                        obtain ⟨xs, h1, h2, _⟩ := HQ.out.A
                        have hf := h1.free q
                        obtain ⟨y, hy⟩ : ∃ v, wr.cell? ⟨gt, q, none⟩ = some v := ⟨_, by rw [h1.cell, List.getElem?_eq_getElem (by omega)]⟩
                        have HQ2 : Hid (CpQ l wk gt (wr.setCell ⟨gt, q, none⟩ (.int .u64 (l.getD q 0))) (q + 1)) := HQ.out.step hql
                        clear hcs h1 h2 hql
                        go_wp2_with fail
                        go_roundw
                        case rel => exact ⟨q + 1, by omega, by go_num, HQ2⟩
                        case measure => simp [intOf]; omega
                      · have hqn : q = n3 := by omega
                        subst hqn
                        have HN3' := HN3.out
                        have hbq := HQ.out.bel
                        have HTA : Hid (TsA wr (.slice (some ⟨gt, 0, none⟩) q q) l) := by
                          have := HQ.out
                          rw [← HN3'] at this
                          rw [← HN3']
                          exact this.done
                        obtain ⟨hf, hcy⟩ := HMC.out wr hbq
                        have HNX : Hid (CpM ll wb gm (wr.setCell ⟨gm, k, none⟩ (.slice (some ⟨gt, 0, none⟩) q q)) (k + 1)) := HM2.out _ _ hbq HTA.out
                        clear hbq HN3'
                        go_wp2_with fail
                        go_roundw
                        case rel => exact ⟨k + 1, by omega, by go_num, HNX⟩
                        case measure => simp [intOf]; omega
              · have hkn : k = n2 := by omega
                subst hkn
                have HN2' := HN2.out
                have hbq := HM.out.bel
                have HTA : Hid (RowA wr (.slice (some ⟨gm, 0, none⟩) k k) ll) := by
                  have := HM.out
                  rw [← HN2'] at this
                  rw [← HN2']
                  exact this.done
                obtain ⟨hf, hcy⟩ := HOC.out wr hbq
                have HNX : Hid (CpO C w go (wr.setCell ⟨go, p, none⟩ (.slice (some ⟨gm, 0, none⟩) k k)) (p + 1)) := HO2.out _ _ hbq HTA.out
                clear hbq HN2'
                go_wp2_with fail
                go_roundw
                case rel => exact ⟨p + 1, by omega, by go_num, HNX⟩
                case measure => simp [intOf]; omega
      · have hpn : p = n := by omega
        subst hpn
        go_wp2_with fail
        go_ret
        have hN := HN.out
        obtain ⟨xs, h1, h2, h3, _⟩ := HO.out.A
        refine ⟨some ⟨go, 0, none⟩, by rw [hN]; rfl, HO.out.bel, fun _ => ⟨go, xs, rfl, h1, h2, by rw [hN]; exact h3⟩⟩
end Go.Proofs.Qxb6605431a.cc
