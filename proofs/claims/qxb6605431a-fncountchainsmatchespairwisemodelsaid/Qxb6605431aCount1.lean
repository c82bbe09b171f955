import Derived.Test.Qxb6605431aCountCu
import Derived.Deep.DeepCutAuto
namespace Go.Proofs.Qxb6605431a.cc
open Go.RowKit

set_option maxRecDepth 100000 in
set_option maxHeartbeats 4000000 in
theorem count_any (r : Run) (ok : r.Ok) (ge : Nat) (ac : Option Addr) (cc : Nat) (w : World) (hN : r.N ≤ 4096) (hnc : r.nc ≤ 4096) (hE : Evs r w ge) (hC : Chn r w (.slice ac r.nc cc)) (hL : ∀ j, r.L j ≤ 4096) :
    Calls Try.prog 11 #[.slice (some ⟨ge, 0, none⟩) r.N r.N, .slice ac r.nc cc] w (CountP r w) := by
  have HE : Hid (Evs r w ge) := hE
  have HC : Hid (Chn r w (.slice ac r.nc cc)) := hC
  have HOK : Hid r.Ok := ok
  have HLL : Hid (∀ j, r.L j ≤ 4096) := hL
  clear hE hC ok hL
  have hm : r.nc ≤ maxLen := by unfold maxLen; omega
  go_enter Try.func11, Try.ntmps11
  go_wp2_with (first | (at_make; refine wpList_mk rfl (.tmp 27) (.tmp 27) 45 rfl 30 (.slice none 0 0) 24 Try.underlying45 Try.info30 rfl _ _ _ _ r.nc rfl rfl rfl rfl (by omega) hm ?_; intro w1 A1 G1) | (at_make; refine wpList_mk rfl (.tmp 30) (.tmp 30) 24 rfl 25 (.slice none 0 0) 24 Try.underlying24 Try.info25 rfl _ _ _ _ r.nc rfl rfl rfl rfl (by omega) hm ?_; intro w2 A2 G2))
  have HM0 : Hid (M0 r w w.heap.size (w.heap.size + 1) (w.heap.size + 1 + 1) w1.heap.size (fun _ => 0) w2 0) := by
    have b0 : Below w.heap.size w ((w.alloc (.cells #[.int .u64 0, .int .u64 0, .int .u64 0] 37)).alloc (.cells #[.int .u64 0, .int .u64 0, .int .u64 0] 37)) := ((Below.refl _ _).alloc (Nat.le_refl _) _).alloc (by simp) _
    have b1 : Below w.heap.size w w1 := b0.grown G1 (by simp; omega) (by simp)
    have b2 : Below w.heap.size w w2 := b1.grown G2 b1.size (by simp)
    have x4 : Arr w2 w.heap.size 37 [.int .u64 0, .int .u64 0, .int .u64 0] := (((Arr.new w [.int .u64 0, .int .u64 0, .int .u64 0] 37).alloc _).grown G1 (by simp)).grown G2 (by simp)
    have x6 : Arr w2 (w.heap.size + 1) 37 [.int .u64 0, .int .u64 0, .int .u64 0] := by
      have := (Arr.new (w.alloc (.cells #[.int .u64 0, .int .u64 0, .int .u64 0] 37)) [.int .u64 0, .int .u64 0, .int .u64 0] 37)
      rw [World.size_alloc] at this
      exact (this.grown G1 (by simp)).grown G2 (by simp)
    simp only [World.size_alloc] at A1
    refine ⟨b2, Nat.le_refl _, by omega, by omega, b1.size, by omega, x4, x6, A1.grown G2 (by simp), ?_, fun j h => absurd h (by omega), fun j j' h => absurd h (by omega)⟩
    rw [← hvL_zero]
    exact A2
  have hg9 : w.heap.size + 1 + 1 < w1.heap.size := by have := A1.lt; simpa using this
  clear A1 A2 G1 G2 hm
  generalize hgg4 : w.heap.size = g4 at *
  have HG4 : Hid (w.heap.size = g4) := hgg4
  clear hgg4
  generalize w1.heap.size = g11 at *
  go_loopw [34] (fun i wr => ∃ (k : Nat) (hb : Nat → Nat), k ≤ r.nc ∧ i = .int .i64 k ∧ Hid (M0 r w g4 (g4 + 1) (g4 + 1 + 1) g11 hb wr k)) (fun i _ => r.nc - (intOf i).toNat)
  case atStart => exact ⟨0, _, Nat.zero_le _, rfl, HM0⟩
  case round =>
    clear HM0
    obtain ⟨k, hb, hk, rfl, HM⟩ := hrel
    by_cases hlt : k < r.nc
    · obtain ⟨ac', cc', hcv, hch⟩ := (HC.out.kept HM.out.bel)
      simp only [Value.slice.injEq, true_and] at hcv
      obtain ⟨e1, e2⟩ := hcv
      subst e1; subst e2
      obtain ⟨gc, hgc, hch2⟩ := hch (by omega)
      subst hgc
      obtain ⟨aj, hcj, _⟩ := hch2 k hlt
      clear hch hch2
      have hki : (k : Int) < (r.nc : Int) := by omega
      have hLk := HLL.out k
      have hmk : r.L k ≤ maxLen := by unfold maxLen; omega
      have c11 : wr.cell? ⟨g11, k, none⟩ = some (.slice none 0 0) := by rw [HM.out.A11.cell, hvL_get r hb k k hlt]; simp
      have f11 := HM.out.A11.free k
      have HLT : Hid (g11 < wr.heap.size) := HM.out.A11.lt
      go_wp2_with (at_make; refine wpList_mk rfl (.tmp 42) (.tmp 42) 25 rfl 32 (.int .u64 0) 8 Try.underlying25 Try.info32 rfl _ _ _ _ (r.L k) rfl rfl rfl rfl (by omega) hmk ?_; intro w3 A3 G3; have c3 := (cell_kept c11 ((Below.refl _ _).grown G3 (Nat.le_refl _) (by simp))); have f3 := (HM.out.A11.grown G3 (by simp)).free k)
      go_roundw
      case rel => exact ⟨k + 1, _, by omega, by go_num, HM.out.step hlt A3 G3⟩
      case measure => simp [intOf]; omega
    · have hkn : r.nc = k := by omega
      have HM2 : Hid (M0 r w g4 (g4 + 1) (g4 + 1 + 1) g11 hb wr r.nc) := by rw [hkn]; exact HM
      have HD : Hid (∃ am hx SP rw rc, Hd r w g4 (g4 + 1) (g4 + 1 + 1) g11 hb wr 0 (.slice none 0 0) am hx SP rw rc) :=
        ⟨_, _, _, _, _, ⟨HM2.out.done.acts (fun q h => by obtain ⟨b, ⟨_, _, c, hc, _⟩, _⟩ := h; omega), fun b h => absurd h (by omega), fun b h => by obtain ⟨_, _, c, hc, _⟩ := h; omega, Nat.le_refl _⟩⟩
      clear hkn HM HM2
      go_wp2
      go_loopw [7, 8, 10, 48] (fun q h sp i wr => ∃ (a : Nat), a ≤ r.N ∧ q = .int .u64 (sumN r.Q a : Nat) ∧ h = .int .u64 (maxN r.h a : Nat) ∧ i = .int .i64 a ∧ Hid (∃ am hx SP rw rc, Hd r w g4 (g4 + 1) (g4 + 1 + 1) g11 hb wr a sp am hx SP rw rc)) (fun _ _ _ i _ => r.N - (intOf i).toNat)
      case atStart => exact ⟨0, Nat.zero_le _, rfl, rfl, rfl, HD⟩
      case round =>
        clear HD
        obtain ⟨a, hk, rfl, rfl, rfl, HH⟩ := hrel
        by_cases hlt : a < r.N
        · obtain ⟨am, hx, SP, rw, rc, hH⟩ := HH.out
          have HHd : Hid (Hd r w g4 (g4 + 1) (g4 + 1 + 1) g11 hb wr a u10 am hx SP rw rc) := hH
          obtain ⟨tv, hts0, e00, e10, e20, e30, e40⟩ := HE.out a hlt
          have e0 := cell_kept e00 hH.m.bel
          have e1 := cell_kept e10 hH.m.bel
          have e2 := cell_kept e20 hH.m.bel
          have e3 := cell_kept e30 hH.m.bel
          have e4 := cell_kept e40 hH.m.bel
          obtain ⟨at_, nt, ct, hv, _, _, _, _⟩ := hts0.ex
          subst hv
          have HTS : Hid (Ts w (.slice at_ nt ct) (r.S a)) := hts0
          clear hts0 hH HH e00 e10 e20 e30 e40
          have hki : (a : Int) < (r.N : Int) := by omega
          obtain ⟨hPa, hKa⟩ := HOK.out.inn a hlt
          have hLP := HLL.out (r.P a)
          go_wp2
          go_quiet (fail)
          go_upto_if 58 with (fail)
          clear e0 e1 e2 e3 e4
          go_cut [10] (fun sp wv => Hid (∃ am SP rw rc, Cu r w g4 (g4 + 1) (g4 + 1 + 1) g11 hb wv a wr.heap.size (.slice at_ nt ct) (sumN r.D a) sp am hx SP rw rc ∧ RowL r (rc (r.P a)) (r.P a) (r.S a)))
          case first =>
            have HE2 : Hid (Arr (wr.alloc (.cells #[.slice at_ nt ct, .int .i64 (r.P a : Nat), .int .i64 (r.K a : Nat), .int .u64 0, .int .u64 0] 42)) wr.heap.size 42 [.slice at_ nt ct, .int .i64 (r.P a : Nat), .int .i64 (r.K a : Nat), .int .u64 0, .int .u64 0]) := Arr.new wr [.slice at_ nt ct, .int .i64 (r.P a : Nat), .int .i64 (r.K a : Nat), .int .u64 0, .int .u64 0] 42
            have HA : Hid (∀ n, M r w g4 (g4 + 1) (g4 + 1 + 1) g11 hb ((wr.alloc (.cells #[.slice at_ nt ct, .int .i64 (r.P a : Nat), .int .i64 (r.K a : Nat), .int .u64 0, .int .u64 0] 42)).drewN n) (sumN r.D a) am hx u10 SP rw (fun p => ∃ b, r.Nxt a b ∧ r.P b = p) rc) :=
              fun n => (HHd.out.m.kept (World.grownBy_alloc wr _ none)).kept (grownBy_drewN _ n none)
            by_cases hK0 : r.K a = 0
            · have hne : ((r.K a : Int) == 0) = true := by rw [beq_iff_eq]; omega
              have HNA : Hid (¬ ∃ b, r.Nxt a b ∧ r.P b = r.P a) := HOK.out.not_nxt hlt hK0
              have HSL := HHd.out.sl
              clear hK0
              rcases List.eq_nil_or_concat SP with hSP | ⟨SP', gr, hSP⟩
              · subst hSP
                obtain ⟨ao, c, hu⟩ := HHd.out.m.spare0
                subst hu
                go_wp2_with fail
                generalize hwv : World.drewN _ _ = wv
                have HAv : Hid (M r w g4 (g4 + 1) (g4 + 1 + 1) g11 hb wv (sumN r.D a) am hx (.slice ao 0 c) [] rw (fun p => ∃ b, r.Nxt a b ∧ r.P b = p) rc) := by rw [← hwv]; exact HA.out _
                have HEv : Hid (Arr wv wr.heap.size 42 [.slice at_ nt ct, .int .i64 (r.P a : Nat), .int .i64 (r.K a : Nat), .int .u64 0, .int .u64 0]) := by rw [← hwv]; exact HE2.out.drewN _
                clear hwv
                refine (take_new ao c r.nc wv (by omega)).mono ?_
                rintro e w3 ⟨rfl, A3, G3⟩
                have HM3 : Hid (M r w g4 (g4 + 1) (g4 + 1 + 1) g11 hb w3 (sumN r.D a) am hx (.slice ao 0 c) [] rw (fun p => ∃ b, r.Nxt a b ∧ r.P b = p) rc) := HAv.out.kept G3
                have HE3 : Hid (Arr w3 wr.heap.size 42 [.slice at_ nt ct, .int .i64 (r.P a : Nat), .int .i64 (r.K a : Nat), .int .u64 0, .int .u64 0]) := HEv.out.grown G3 (by simp)
                have HA3 : Hid (Arr w3 wv.heap.size 3 (intsV r.nc fun _ => 0)) := by rw [Hid, ← intsV_zero]; exact A3
                have f9 := HM3.out.A9.free (r.P a)
                obtain ⟨v9, c9⟩ : ∃ v, w3.cell? ⟨g4 + 1 + 1, r.P a, none⟩ = some v := ⟨_, by rw [HM3.out.A9.cell, List.getElem?_eq_getElem (by rw [HM3.out.aml]; exact hPa)]⟩
                have hPi : (r.P a : Int) < (r.nc : Int) := by omega
                clear A3 G3
                go_wp2_with fail
                go_meet
                case rel =>
                  have hd : ∀ q, (∃ b, r.Nxt a b ∧ r.P b = q) → rw q ≠ wv.heap.size := fun q hq => by
                    have := (HAv.out.rows q hq).2.2.2.1.lt
                    omega
                  have G := HM3.out.give hPa HNA.out (by have := HAv.out.bel.size; omega) (by simp) HA3.out hd
                  exact ⟨_, _, _, _, ⟨⟨G, HE3.out.other (HM3.out.A9.ne HE3.out (by decide)) _, fun b hb hne => by
                    have := HHd.out.rl b hb
                    simpa [upd, hne] using this, HSL⟩, by simpa [upd] using RowL.zero r _ _⟩⟩
              · rw [List.concat_eq_append] at hSP
                subst hSP
                obtain ⟨gs, cs, hu, hcs, hcg⟩ := HHd.out.m.spare1
                subst hu
                go_wp2_with fail
                generalize hwv : World.drewN _ _ = wv
                have HAv : Hid (M r w g4 (g4 + 1) (g4 + 1 + 1) g11 hb wv (sumN r.D a) am hx (.slice (some ⟨gs, 0, none⟩) (SP'.length + 1) cs) (SP' ++ [gr]) rw (fun p => ∃ b, r.Nxt a b ∧ r.P b = p) rc) := by rw [← hwv]; exact HA.out _
                have HEv : Hid (Arr wv wr.heap.size 42 [.slice at_ nt ct, .int .i64 (r.P a : Nat), .int .i64 (r.K a : Nat), .int .u64 0, .int .u64 0]) := by rw [← hwv]; exact HE2.out.drewN _
                clear hwv
                obtain ⟨gs2, cs2, hu2, hcs2, hcg2⟩ := HAv.out.spare1
                simp only [Value.slice.injEq, Option.some.injEq, Addr.mk.injEq, and_true, true_and] at hu2
                obtain ⟨rfl, rfl⟩ := hu2
                obtain ⟨z1, zs, z2, z3⟩ := HAv.out.sp gr (by simp)
                refine (take_old gs SP'.length cs gr r.nc zs wv (by omega) (by omega) hcs2 (by simp at HSL; omega) z2 z3 hcg2).mono ?_
                rintro e w3 ⟨rfl, A3, G3⟩
                have HM3 : Hid (M r w g4 (g4 + 1) (g4 + 1 + 1) g11 hb w3 (sumN r.D a) am hx (.slice (some ⟨gs, 0, none⟩) SP'.length cs) SP' rw (fun p => ∃ b, r.Nxt a b ∧ r.P b = p) rc) := HAv.out.pop G3
                have HE3 : Hid (Arr w3 wr.heap.size 42 [.slice at_ nt ct, .int .i64 (r.P a : Nat), .int .i64 (r.K a : Nat), .int .u64 0, .int .u64 0]) := HEv.out.grown G3 (fun e => z3.ne HEv.out (by decide) (by simpa using e))
                have HA3 : Hid (Arr w3 gr 3 (intsV r.nc fun _ => 0)) := by rw [Hid, ← intsV_zero]; exact A3
                have f9 := HM3.out.A9.free (r.P a)
                obtain ⟨v9, c9⟩ : ∃ v, w3.cell? ⟨g4 + 1 + 1, r.P a, none⟩ = some v := ⟨_, by rw [HM3.out.A9.cell, List.getElem?_eq_getElem (by rw [HM3.out.aml]; exact hPa)]⟩
                have hPi : (r.P a : Int) < (r.nc : Int) := by omega
                have HZ1 : Hid (w.heap.size ≤ gr) := z1
                have HND : Hid (gr ∉ SP') := by
                  have := HAv.out.nd
                  rw [List.nodup_append] at this
                  exact fun hm => this.2.2 gr hm gr (by simp) rfl
                clear A3 G3 z1 z2 z3 hcg hcg2
                go_wp2_with fail
                go_meet
                case rel =>
                  have hd : ∀ q, (∃ b, r.Nxt a b ∧ r.P b = q) → rw q ≠ gr := fun q hq e => by
                    have := (HAv.out.rows q hq).2.2.1
                    exact this (by rw [e]; simp)
                  have G := HM3.out.give hPa HNA.out HZ1.out HND.out HA3.out hd
                  exact ⟨_, _, _, _, ⟨⟨G, HE3.out.other (HM3.out.A9.ne HE3.out (by decide)) _, fun b hb hne => by
                    have := HHd.out.rl b hb
                    simpa [upd, hne] using this, by simp at HSL; omega⟩, by simpa [upd] using RowL.zero r _ _⟩⟩
            · have hne : ((r.K a : Int) == 0) = false := by rw [beq_eq_false_iff_ne]; omega
              have HNX : Hid (r.Nxt a a) := HOK.out.nxt_self hlt (by omega)
              go_wp2_with fail
              go_meet
              case rel =>
                exact ⟨_, _, _, _, ⟨⟨(HA.out _).acts (fun q hq => by
                  rcases hq with h | h
                  · exact ⟨a, HNX.out, h.symm⟩
                  · exact h), HE2.out.drewN _, fun b hb _ => HHd.out.rl b hb, HHd.out.sl⟩, HHd.out.rl a HNX.out⟩⟩
          case rest =>
            obtain ⟨am1, SP1, rw1, rc1, hcu, hrl⟩ := hcut.out
            have HCU : Hid (Cu r w g4 (g4 + 1) (g4 + 1 + 1) g11 hb wc a wr.heap.size (.slice at_ nt ct) (sumN r.D a) u10 am1 hx SP1 rw1 rc1) := hcu
            have HRL : Hid (RowL r (rc1 (r.P a)) (r.P a) (r.S a)) := hrl
            have HHH : Hid (∀ b, b < a → hx (r.P b) (r.K b) = r.h b) := HHd.out.hh
            have hg6 : g4 + 1 < wr.heap.size := HHd.out.m.A6.lt
            have hDb := SD_bd r hnc HLL.out a (by omega)
            clear hcut hcu hrl HHd
            generalize wr.heap.size = gE at hg6 HCU ⊢
            have c6 := HCU.out.c6
            have f6 := HCU.out.f6
            have e2 := HCU.out.e2
            go_upto_if 78 with (fail)
            clear c6 f6 e2
            generalize hwv : World.setCell _ _ _ = wv
            have HCV : Hid (Cu r w g4 (g4 + 1) (g4 + 1 + 1) g11 hb wv a gE (.slice at_ nt ct) (sumN r.D a + r.K a) u10 am1 hx SP1 rw1 rc1) := by
              rw [← hwv]; exact HCU.out.setC _ (by omega)
            clear hwv HCU
            go_cut [18] (fun b wz => b = .int .u64 (bwN r hx a 0 : Nat) ∧ Hid (Cu r w g4 (g4 + 1) (g4 + 1 + 1) g11 hb wz a gE (.slice at_ nt ct) (sumN r.D a + r.K a) u10 am1 hx SP1 rw1 rc1))
            case first =>
              by_cases hK0 : 0 < r.K a
              · have hKi : (0 : Int) < (r.K a : Int) := by omega
                have e2 := HCV.out.e2
                have c11 := HCV.out.c11 (r.P a) hPa
                have hc := HCV.out.hc (r.P a) (r.K a - 1) hPa (by omega)
                have hPi : (r.P a : Int) < (r.nc : Int) := by omega
                have hKl : (r.K a : Int) < (r.L (r.P a) : Int) := by omega
                go_wp2_with fail
                go_quiet (fail)
                go_wp2_with fail
                go_meet
                case rel => exact ⟨by simp [bwN, hK0], HCV.out.kept (grownBy_drewN _ _ _)⟩
              · have hKi : ¬ (0 : Int) < (r.K a : Int) := by omega
                go_wp2_with fail
                go_meet
                case rel => exact ⟨by simp [bwN, hK0], HCV⟩
            case rest =>
              obtain ⟨rfl, HCW⟩ := hcut
              clear HCV
              have c9 := HCW.out.c9
              have hPi : (r.P a : Int) < (r.nc : Int) := by omega
              go_wp2_with fail
              clear c9
              go_loopw [7, 18, 94] (fun q b i wl => ∃ (j : Nat), j ≤ r.nc ∧ q = .int .u64 (sumN r.Q a + sumN (fun i => if i = r.P a then 0 else r.ql i a) j : Nat) ∧ b = .int .u64 (bwN r hx a j : Nat) ∧ i = .int .i64 j ∧ Hid (Cu r w g4 (g4 + 1) (g4 + 1 + 1) g11 hb wl a gE (.slice at_ nt ct) (sumN r.D a + r.K a + sumN (fun i => if i = r.P a then 0 else r.bl i a) j) u10 am1 hx SP1 rw1 (upd rc1 (r.P a) (mix r a (rc1 (r.P a)) j)))) (fun _ _ i _ => r.nc - (intOf i).toNat)
              case atStart => exact ⟨0, Nat.zero_le _, rfl, rfl, rfl, HCW.out.own _ (by rw [mix_zero])⟩
              case round =>
                clear HCW
                obtain ⟨j, hj, rfl, rfl, rfl, HR⟩ := hrel
                have hQb := SQ_bd r HOK.out hnc a (by omega)
                have hqb := sq_bd r HOK.out a j hj hnc
                by_cases hjl : j < r.nc
                · obtain ⟨ac', cc', hcv, hch⟩ := HC.out
                  simp only [Value.slice.injEq, true_and] at hcv
                  obtain ⟨e1, e2⟩ := hcv
                  subst e1; subst e2
                  obtain ⟨gc, hgc, hch2⟩ := hch (by omega)
                  subst hgc
                  obtain ⟨aj, hcj0, hcT⟩ := hch2 j hjl
                  have hcj := cell_kept hcj0 HR.out.m.bel
                  have HCT : Hid (0 < r.L j → ∃ gj, aj = some ⟨gj, 0, none⟩ ∧ ∀ k, k < r.L j → ∃ tv, w.cell? ⟨gj, k, none⟩ = some tv ∧ Ts w tv (r.st j k)) := hcT
                  clear hch hch2 hcT hcj0
                  have hji : (j : Int) < (r.nc : Int) := by omega
                  by_cases hjo : j = r.P a
                  · have hjb : ((j : Int) == (r.P a : Int)) = true := by rw [beq_iff_eq]; omega
                    have HJO : Hid (j = r.P a) := hjo
                    clear hjo
                    go_wp2_with fail
                    go_roundw
                    case rel =>
                      refine ⟨j + 1, by omega, ?_, ?_, by go_num, ?_⟩
                      · simp [sumN, HJO.out]
                      · simp [bwN, HJO.out]
                      · have e1 : sumN (fun i => if i = r.P a then 0 else r.bl i a) (j + 1) = sumN (fun i => if i = r.P a then 0 else r.bl i a) j := by simp [sumN, HJO.out]
                        have e2 : mix r a (rc1 (r.P a)) (j + 1) = mix r a (rc1 (r.P a)) j := by rw [HJO.out, mix_own]
                        rw [e1, e2]
                        exact HR
                    case measure => simp [intOf]; omega
                  · have hjb : ((j : Int) == (r.P a : Int)) = false := by rw [beq_eq_false_iff_ne]; omega
                    have HJO : Hid (j ≠ r.P a) := hjo
                    clear hjo
                    have HX0 : Hid (mix r a (rc1 (r.P a)) j j = rc1 (r.P a) j) := mix_self r a (rc1 (r.P a)) j
                    have HXB : Hid (rc1 (r.P a) j ≤ r.bl j a) := HRL.out.le HOK.out hjl HJO.out
                    go_upto_region 26 with (fail)
                    go_cut [22] (fun fl wl => fl = .bool false ∧ Hid (Cu r w g4 (g4 + 1) (g4 + 1 + 1) g11 hb wl a gE (.slice at_ nt ct) (sumN r.D a + r.K a + sumN (fun i => if i = r.P a then 0 else r.bl i a) j) u10 am1 hx SP1 rw1 (upd rc1 (r.P a) (mix r a (rc1 (r.P a)) j))))
                    case first =>
                      go_wp2_with fail
                      go_meet
                      case rel => exact ⟨rfl, HR⟩
                    case rest =>
                      clear HR hcj
                      obtain ⟨rfl, HR⟩ := hcut
                      apply_assumption
                      refine wp_seq_k ?_
                      intro K4 hK4
                      go_cut [22] (fun fl wl => fl = .bool (decide (r.ql j a = 1)) ∧ Hid (Cu r w g4 (g4 + 1) (g4 + 1 + 1) g11 hb wl a gE (.slice at_ nt ct) (sumN r.D a + r.K a + sumN (fun i => if i = r.P a then 0 else r.bl i a) j) u10 am1 hx SP1 rw1 (upd rc1 (r.P a) (mix r a (rc1 (r.P a)) (j + 1)))))
                      case first =>
                        go_wp2_with fail
                        go_loopw [22] (fun fl wl => ∃ x : Nat, rc1 (r.P a) j ≤ x ∧ x ≤ r.cl j a ∧ fl = .bool (flg r j a (rc1 (r.P a) j) x) ∧ Hid (Cu r w g4 (g4 + 1) (g4 + 1 + 1) g11 hb wl a gE (.slice at_ nt ct) (sumN r.D a + r.K a + sumN (fun i => if i = r.P a then 0 else r.bl i a) j) u10 am1 hx SP1 rw1 (upd rc1 (r.P a) (upd (mix r a (rc1 (r.P a)) j) j x)))) (fun _ wl => r.L j - (intOf ((wl.cell? ⟨rw1 (r.P a), j, none⟩).getD (.int .i64 0))).toNat)
                        case atStart =>
                          refine ⟨rc1 (r.P a) j, Nat.le_refl _, ?_, by rw [flg_self], ?_⟩
                          · have := r.cl_split j a
                            have := HXB.out
                            omega
                          · rw [← HX0.out, upd_self]
                            exact HR
                        case round =>
                          clear HR
                          obtain ⟨x, hx1, hx2, rfl, HR⟩ := hrel
                          have rcx := HR.out.rowc j hjl
                          rw [upd_at] at rcx
                          have rfx := HR.out.rowf j
                          have hclL := r.cl_le j a
                          have hLj := HLL.out j
                          by_cases hxL : x < r.L j
                          · obtain ⟨gj, haj, hcT⟩ := HCT.out (by omega)
                            subst haj
                            obtain ⟨tv2, htc0, hts0⟩ := hcT x hxL
                            have htc := cell_kept htc0 HR.out.m.bel
                            have hts2 := hts0.kept HR.out.m.bel
                            have htsA := HTS.out.kept HR.out.m.bel
                            obtain ⟨at2, nt2, ct2, hv2, hl2, sh2, sg2, _⟩ := hts2.ex
                            subst hv2
                            obtain ⟨at3, nt3, ct3, hv3, hl3, sh3, sg3, _⟩ := htsA.ex
                            simp only [Value.slice.injEq] at hv3
                            obtain ⟨h31, h32, h33⟩ := hv3
                            subst h31; subst h32; subst h33
                            have hcmp0 := cmp_any at2 nt2 ct2 (r.st j x) at_ nt ct (r.S a) wr hl2 hl3 (by have := hts2.len; omega) (by have := htsA.len; omega) sh2 sh3 hts2.u.nn htsA.u.nn sg2 sg3
                            clear hcT htc0 hts0 hts2 htsA hl2 sh2 sg2 hl3 sh3 sg3
                            have hxi : (x : Int) < (r.L j : Int) := by omega
                            have hci := HOK.out.cl_iff (a := a) hjl x hxL
                            by_cases hle : leqB (r.st j x) (r.S a) = true
                            · have hxc : x < r.cl j a := hci.1 hle
                              rw [leq_split] at hle
                              by_cases hbf : befB (r.st j x) (r.S a) = true
                              · have HEQ : Hid (eqB (r.st j x) (r.S a) = false) := bef_not_eq hbf
                                have hcmp : Calls Try.prog 14 #[.slice at2 nt2 ct2, .slice at_ nt ct] wr (CmpP 1 wr) := by
                                  rw [relZ_bef hbf] at hcmp0; exact hcmp0
                                clear hcmp0 hle hbf hci
                                go_wp2_with fail
                                refine hcmp.mono ?_
                                rintro e w3 ⟨rfl, n, hw3⟩
                                clear hcmp rcx rfx htc
                                have HR3 : Hid (Cu r w g4 (g4 + 1) (g4 + 1 + 1) g11 hb w3 a gE (.slice at_ nt ct) (sumN r.D a + r.K a + sumN (fun i => if i = r.P a then 0 else r.bl i a) j) u10 am1 hx SP1 rw1 (upd rc1 (r.P a) (upd (mix r a (rc1 (r.P a)) j) j x))) := by rw [hw3]; exact HR.out.kept (grownBy_drewN _ _ _)
                                have HM3 : Hid (wr.cell? ⟨rw1 (r.P a), j, none⟩ = some (.int .i64 (x : Nat))) := by
                                  have := HR.out.rowc j hjl
                                  rwa [upd_at] at this
                                clear hw3
                                have rcx := HR3.out.rowc j hjl
                                rw [upd_at] at rcx
                                have rfx := HR3.out.rowf j
                                go_wp2_with fail
                                go_roundw
                                case rel =>
                                  repeat apply Exists.intro
                                  refine ⟨⟨x + 1, by omega, by omega, ?_, ?_⟩, rfl⟩
                                  · rw [flg_succ _ _ _ _ _ hx1, HEQ.out]
                                  · have := HR3.out.setRow j (x + 1) (z := (x : Int) + 1) (by omega)
                                    rwa [upd_upd] at this
                                case measure =>
                                  have := (HR3.out.setRow j (x + 1) (z := (x : Int) + 1) (by omega)).rowc j hjl
                                  rw [upd_at] at this
                                  rw [this, HM3.out]
                                  simp [intOf]
                                  omega
                              · have hq : eqB (r.st j x) (r.S a) = true := by simpa [hbf] using hle
                                have HEQ : Hid (eqB (r.st j x) (r.S a) = true) := hq
                                have hcmp : Calls Try.prog 14 #[.slice at2 nt2 ct2, .slice at_ nt ct] wr (CmpP 4 wr) := by
                                  rw [relZ_eq hq] at hcmp0; exact hcmp0
                                clear hcmp0 hle hbf hci hq
                                go_wp2_with fail
                                refine hcmp.mono ?_
                                rintro e w3 ⟨rfl, n, hw3⟩
                                clear hcmp rcx rfx htc
                                have HR3 : Hid (Cu r w g4 (g4 + 1) (g4 + 1 + 1) g11 hb w3 a gE (.slice at_ nt ct) (sumN r.D a + r.K a + sumN (fun i => if i = r.P a then 0 else r.bl i a) j) u10 am1 hx SP1 rw1 (upd rc1 (r.P a) (upd (mix r a (rc1 (r.P a)) j) j x))) := by rw [hw3]; exact HR.out.kept (grownBy_drewN _ _ _)
                                have HM3 : Hid (wr.cell? ⟨rw1 (r.P a), j, none⟩ = some (.int .i64 (x : Nat))) := by
                                  have := HR.out.rowc j hjl
                                  rwa [upd_at] at this
                                clear hw3
                                have rcx := HR3.out.rowc j hjl
                                rw [upd_at] at rcx
                                have rfx := HR3.out.rowf j
                                go_wp2_with fail
                                go_roundw
                                case rel =>
                                  repeat apply Exists.intro
                                  refine ⟨⟨x + 1, by omega, by omega, ?_, ?_⟩, rfl⟩
                                  · rw [flg_succ _ _ _ _ _ hx1, HEQ.out]
                                  · have := HR3.out.setRow j (x + 1) (z := (x : Int) + 1) (by omega)
                                    rwa [upd_upd] at this
                                case measure =>
                                  have := (HR3.out.setRow j (x + 1) (z := (x : Int) + 1) (by omega)).rowc j hjl
                                  rw [upd_at] at this
                                  rw [this, HM3.out]
                                  simp [intOf]
                                  omega
                            · have hxc : x = r.cl j a := by
                                have : ¬ x < r.cl j a := fun h => hle (hci.2 h)
                                omega
                              have HXC : Hid (x = r.cl j a) := hxc
                              have HF : Hid (flg r j a (rc1 (r.P a) j) x = decide (r.ql j a = 1)) := by
                                rw [hxc]; exact flg_fin HOK.out hjl HXB.out
                              have hno := relZ_not (a := r.st j x) (b := r.S a) (by simpa using hle)
                              clear hci hle hxc
                              rcases hno with hz | hz
                              · rw [hz] at hcmp0
                                have hcmp := hcmp0
                                clear hcmp0 hz
                                go_wp2_with fail
                                refine hcmp.mono ?_
                                rintro e w3 ⟨rfl, n, hw3⟩
                                clear hcmp rcx rfx htc
                                have HR3 : Hid (Cu r w g4 (g4 + 1) (g4 + 1 + 1) g11 hb w3 a gE (.slice at_ nt ct) (sumN r.D a + r.K a + sumN (fun i => if i = r.P a then 0 else r.bl i a) j) u10 am1 hx SP1 rw1 (upd rc1 (r.P a) (upd (mix r a (rc1 (r.P a)) j) j x))) := by rw [hw3]; exact HR.out.kept (grownBy_drewN _ _ _)
                                have HM3 : Hid (wr.cell? ⟨rw1 (r.P a), j, none⟩ = some (.int .i64 (x : Nat))) := by
                                  have := HR.out.rowc j hjl
                                  rwa [upd_at] at this
                                clear hw3
                                have rcx := HR3.out.rowc j hjl
                                rw [upd_at] at rcx
                                have rfx := HR3.out.rowf j
                                go_wp2_with fail
                                go_meet
                                case rel => exact ⟨by rw [HF.out], by rw [← mix_step r a _ j HJO.out, ← HXC.out]; exact HR3⟩
                              · rw [hz] at hcmp0
                                have hcmp := hcmp0
                                clear hcmp0 hz
                                go_wp2_with fail
                                refine hcmp.mono ?_
                                rintro e w3 ⟨rfl, n, hw3⟩
                                clear hcmp rcx rfx htc
                                have HR3 : Hid (Cu r w g4 (g4 + 1) (g4 + 1 + 1) g11 hb w3 a gE (.slice at_ nt ct) (sumN r.D a + r.K a + sumN (fun i => if i = r.P a then 0 else r.bl i a) j) u10 am1 hx SP1 rw1 (upd rc1 (r.P a) (upd (mix r a (rc1 (r.P a)) j) j x))) := by rw [hw3]; exact HR.out.kept (grownBy_drewN _ _ _)
                                have HM3 : Hid (wr.cell? ⟨rw1 (r.P a), j, none⟩ = some (.int .i64 (x : Nat))) := by
                                  have := HR.out.rowc j hjl
                                  rwa [upd_at] at this
                                clear hw3
                                have rcx := HR3.out.rowc j hjl
                                rw [upd_at] at rcx
                                have rfx := HR3.out.rowf j
                                go_wp2_with fail
                                go_meet
                                case rel => exact ⟨by rw [HF.out], by rw [← mix_step r a _ j HJO.out, ← HXC.out]; exact HR3⟩
                          · have hxc : x = r.cl j a := by omega
                            have HF : Hid (flg r j a (rc1 (r.P a) j) (r.cl j a) = decide (r.ql j a = 1)) := flg_fin HOK.out hjl HXB.out
                            subst hxc
                            have hxi : ¬ (r.cl j a : Int) < (r.L j : Int) := by omega
                            go_wp2_with fail
                            go_meet
                            case rel => exact ⟨by rw [HF.out], by rw [← mix_step r a _ j HJO.out]; exact HR⟩
                      case rest =>
                        clear HR
                        obtain ⟨rfl, HR⟩ := hcut
                        have rcx := HR.out.rowc j hjl
                        rw [show mix r a (rc1 (r.P a)) (j + 1) j = r.cl j a by simp [mix, HJO.out]] at rcx
                        have HSP : Hid (r.cl j a = r.bl j a + r.ql j a) := r.cl_split j a
                        have hcb : r.bl j a ≤ r.cl j a := by have := HSP.out; omega
                        have hql := HOK.out.ql_le (a := a) hjl
                        have hclL := r.cl_le j a
                        have hLj := HLL.out j
                        go_upto_if 136 with (fail)
                        clear rcx
                        go_cut [7, 22, 24] (fun q _ b wl => q = .int .u64 (sumN r.Q a + sumN (fun i => if i = r.P a then 0 else r.ql i a) (j + 1) : Nat) ∧ b = .int .i64 (r.bl j a : Nat) ∧ Hid (Cu r w g4 (g4 + 1) (g4 + 1 + 1) g11 hb wl a gE (.slice at_ nt ct) (sumN r.D a + r.K a + sumN (fun i => if i = r.P a then 0 else r.bl i a) j) u10 am1 hx SP1 rw1 (upd rc1 (r.P a) (mix r a (rc1 (r.P a)) (j + 1)))))
                        case first =>
                          by_cases hq : r.ql j a = 1
                          · have hqt : decide (r.ql j a = 1) = true := by simp [hq]
                            have HQ1 : Hid (r.ql j a = 1) := hq
                            have hcp : 0 < r.cl j a := by have := HSP.out; omega
                            clear hq
                            rw [hqt]
                            go_wp2_with fail
                            go_meet
                            case rel =>
                              have e1 := HQ1.out
                              have e2 := HSP.out
                              refine ⟨?_, ?_, HR⟩
                              · simp only [sumN, HJO.out, if_false, e1]
                                congr 1
                              · congr 1; omega
                          · have hqf : decide (r.ql j a = 1) = false := by simp [hq]
                            have HQ0 : Hid (r.ql j a = 0) := by show r.ql j a = 0; omega
                            clear hq
                            rw [hqf]
                            go_wp2_with fail
                            go_meet
                            case rel =>
                              have e1 := HQ0.out
                              have e2 := HSP.out
                              refine ⟨?_, ?_, HR⟩
                              · simp only [sumN, HJO.out, if_false, e1]
                                congr 1
                              · congr 1; omega
                        case rest =>
                          clear HR
                          obtain ⟨rfl, rfl, HR⟩ := hcut
                          have c6 := HR.out.c6
                          have f6 := HR.out.f6
                          have hblL := r.bl_le j a
                          have hsb := sb_bd r HLL.out a j (by omega)
                          go_upto_if 148 with (fail)
                          clear c6 f6
                          generalize hwv : World.setCell _ _ _ = wv
                          have HRV : Hid (Cu r w g4 (g4 + 1) (g4 + 1 + 1) g11 hb wv a gE (.slice at_ nt ct) (sumN r.D a + r.K a + sumN (fun i => if i = r.P a then 0 else r.bl i a) (j + 1)) u10 am1 hx SP1 rw1 (upd rc1 (r.P a) (mix r a (rc1 (r.P a)) (j + 1)))) := by
                            rw [← hwv]
                            exact HR.out.setC _ (by simp only [sumN, HJO.out, if_false]; omega)
                          clear hwv HR
                          by_cases hbl0 : 0 < r.bl j a
                          · have hbi : (0 : Int) < (r.bl j a : Int) := by omega
                            have c11 := HRV.out.c11 j hjl
                            have hc := HRV.out.hc j (r.bl j a - 1) hjl (by omega)
                            have hbj : (r.bl j a : Int) ≤ (r.L j : Int) := by omega
                            have hmx : ∀ w, (Builtin.max_ #[32, 32] 32 #[.int .u64 (bwN r hx a j : Nat), .int .u64 (hx j (r.bl j a - 1) : Nat)]).run Try.prog w = .ok (.int .u64 (bwN r hx a (j + 1) : Nat)) w := by
                              intro w
                              rw [run_max_int2]
                              simp only [bwN, HJO.out, hbl0, ne_eq, not_false_eq_true, and_self, if_true]
                              split <;> rename_i h1 <;> split <;> rename_i h2 <;> first | rfl | omega
                            go_wp2_with fail
                            go_roundw
                            case rel =>
                              exact ⟨j + 1, by omega, rfl, rfl, by go_num, HRV⟩
                            case measure => simp [intOf]; omega
                          · have hbi : ¬ (0 : Int) < (r.bl j a : Int) := by omega
                            have HB0 : Hid (bwN r hx a (j + 1) = bwN r hx a j) := by
                              show bwN r hx a (j + 1) = bwN r hx a j
                              simp [bwN, hbl0]
                            go_wp2_with fail
                            go_roundw
                            case rel =>
                              exact ⟨j + 1, by omega, rfl, by rw [HB0.out], by go_num, HRV⟩
                            case measure => simp [intOf]; omega
                · have hjn : j = r.nc := by omega
                  subst hjn
                  have HX : Hid (∀ b, b < a + 1 → (upd hx (r.P a) (upd (hx (r.P a)) (r.K a) (r.h a))) (r.P b) (r.K b) = r.h b) := hh_next HOK.out hlt HHH.out
                  have hbw := HOK.out.below hlt hx HHH.out
                  have hha := r.h_le a
                  have hbwN : bwN r hx a r.nc ≤ 4096 := by omega
                  have HBW : Hid (bwN r hx a r.nc + 1 = r.h a) := hbw
                  have HR2 : Hid (Cu r w g4 (g4 + 1) (g4 + 1 + 1) g11 hb wr a gE (.slice at_ nt ct) (sumN r.D (a + 1)) u10 am1 hx SP1 rw1 (upd rc1 (r.P a) (mix r a (rc1 (r.P a)) r.nc))) := by
                    rw [← O_next HOK.out hlt]; exact HR
                  clear hbw HR hha
                  have HQ1 : Hid (sumN r.Q a + sumN (fun i => if i = r.P a then 0 else r.ql i a) r.nc = sumN r.Q (a + 1)) := rfl
                  have hQ1 : sumN r.Q a + sumN (fun i => if i = r.P a then 0 else r.ql i a) r.nc = sumN r.Q (a + 1) := rfl
                  rw [hQ1]
                  clear hQ1
                  generalize bwN r hx a r.nc = bw at hbwN HBW ⊢
                  go_upto_region 40 with (fail)
                  go_cut [18] (fun b wl => b = .int .u64 (bw : Nat) ∧ Hid (Cu r w g4 (g4 + 1) (g4 + 1 + 1) g11 hb wl a gE (.slice at_ nt ct) (sumN r.D (a + 1)) u10 am1 (upd hx (r.P a) (upd (hx (r.P a)) (r.K a) (r.h a))) SP1 rw1 (upd rc1 (r.P a) (mix r a (rc1 (r.P a)) r.nc))))
                  case first =>
                    have e2 := HR2.out.e2
                    have c11 := HR2.out.c11 (r.P a) hPa
                    have hc := HR2.out.hc (r.P a) (r.K a) hPa hKa
                    have hf := HR2.out.hf (r.P a) (r.K a) hPa
                    have hKl : (r.K a : Int) < (r.L (r.P a) : Int) := by omega
                    go_region
                    all_goals (try go_wp2_with fail)
                    all_goals go_meet
                    all_goals (first | exact ⟨rfl, (HR2.out.setH hPa (r.h a) (by have := HBW.out; omega)).kept (grownBy_drewN _ _ _)⟩ | exact ⟨rfl, (HR2.out.kept (grownBy_drewN _ _ _)).setH hPa (r.h a) (by have := HBW.out; omega)⟩ | exact ⟨rfl, HR2.out.setH hPa (r.h a) (by have := HBW.out; omega)⟩)
                  case rest =>
                    clear HR2
                    obtain ⟨rfl, HR⟩ := hcut
                    have hmx : ∀ w, (Builtin.max_ #[32, 32] 32 #[.int .u64 (maxN r.h a : Nat), .int .u64 ((bw : Nat) + 1 : Int)]).run Try.prog w = .ok (.int .u64 (maxN r.h (a + 1) : Nat)) w := by
                      intro w
                      rw [run_max_int2]
                      simp only [maxN, ← HBW.out]
                      split <;> rename_i h1 <;> split <;> rename_i h2 <;> first | rfl | omega
                    obtain ⟨ac', cc', hcv, hch⟩ := HC.out
                    simp only [Value.slice.injEq, true_and] at hcv
                    obtain ⟨e1, e2⟩ := hcv
                    subst e1; subst e2
                    obtain ⟨gc, hgc, hch2⟩ := hch (by omega)
                    subst hgc
                    obtain ⟨aj, hcj0, _⟩ := hch2 (r.P a) hPa
                    have hcj := cell_kept hcj0 HR.out.m.bel
                    clear hch hch2 hcj0
                    have e2 := HR.out.e2
                    have hKl : (r.K a : Int) < (r.L (r.P a) : Int) := by omega
                    go_wp2_with fail
                    go_quiet (fail)
                    clear hmx e2 hcj
                    by_cases hla : r.K a + 1 = r.L (r.P a)
                    · have hlb : ((r.K a : Int) == (r.L (r.P a) : Int) - 1) = true := by rw [beq_iff_eq]; omega
                      have HLA : Hid (r.K a + 1 = r.L (r.P a)) := hla
                      clear hla
                      generalize hwv : World.drewN _ _ = wv
                      have HRV : Hid (Cu r w g4 (g4 + 1) (g4 + 1 + 1) g11 hb wv a gE (.slice at_ nt ct) (sumN r.D (a + 1)) u10 am1 (upd hx (r.P a) (upd (hx (r.P a)) (r.K a) (r.h a))) SP1 rw1 (upd rc1 (r.P a) (mix r a (rc1 (r.P a)) r.nc))) := by
                        rw [← hwv]; exact HR.out.kept (grownBy_drewN _ _ _)
                      clear hwv HR
                      obtain ⟨i0, hi, hz0, hz1, hz2⟩ := info_parts Try.info30
                      have HOW : Hid ((wv.alloc (.cells #[.slice (some ⟨rw1 (r.P a), 0, none⟩) r.nc r.nc] 30)).ownsRow (g4 + 1 + 1 + 1) 30 1 u10 SP1.length (SP1.map fun g => rowV g r.nc)) := HRV.out.m.own.kept (World.grownBy_alloc wv _ none) (by cases u10.ownBlock <;> simp)
                      have hsl := HRV.out.sl
                      have hg9w := HRV.out.m.A9.lt
                      have hPi : (r.P a : Int) < (r.nc : Int) := by omega
                      go_wp2_with (at_builtin; refine wpList_append_own _ rfl _ _ 45 rfl (g4 + 1 + 1 + 1) 30 i0 (.slice none 0 0) 1 24 Try.underlying45 hi hz0 hz1 hz2 rfl (by decide) _ _ _ rfl HOW.out ⟨wv.heap.size, 0, none⟩ 1 1 [.slice (some ⟨rw1 (r.P a), 0, none⟩) r.nc r.nc] rfl rfl (cell_one_new _ _ _) (fun x hx => by simp at hx; subst hx; rfl) (by unfold maxLen; omega) (by omega) (by simp; omega) ?_; intro v' w3 hown' hgrow3 hnil3; have HO3 : Hid (w3.ownsRow (g4 + 1 + 1 + 1) 30 1 v' (SP1.length + 1) ((SP1.map fun g => rowV g r.nc) ++ [rowV (rw1 (r.P a)) r.nc])) := hown'; have HG3 : Hid ((wv.alloc (.cells #[.slice (some ⟨rw1 (r.P a), 0, none⟩) r.nc r.nc] 30)).grownBy w3 u10.ownBlock) := hgrow3; have A9' := (HRV.out.m.A9.alloc (.cells #[.slice (some ⟨rw1 (r.P a), 0, none⟩) r.nc r.nc] 30)).grown hgrow3 HRV.out.m.ns; have f9' := A9'.free (r.P a); have c9' := A9'.cell (r.P a); rw [(HRV.out.m.rows (r.P a) (.inl rfl)).2.2.2.2] at c9'; clear hown' hgrow3 hnil3 A9')
                      go_roundw
                      case rel => exact ⟨a + 1, by omega, rfl, rfl, by go_num, ⟨_, _, _, _, _, (HRV.out.kept (World.grownBy_alloc wv _ none)).toHdP HOK.out hlt HX.out HLA.out HO3.out HG3.out⟩⟩
                      case measure => simp [intOf]; omega
                    · have hlb : ((r.K a : Int) == (r.L (r.P a) : Int) - 1) = false := by rw [beq_eq_false_iff_ne]; omega
                      go_wp2_with fail
                      go_roundw
                      case rel =>
                        exact ⟨a + 1, by omega, rfl, rfl, by go_num, ⟨_, _, _, _, _, (HR.out.kept (grownBy_drewN _ _ _)).toHd HOK.out hlt HX.out⟩⟩
                      case measure => simp [intOf]; omega
        · have han : a = r.N := by omega
          subst han
          obtain ⟨am, hx, SP, rw, rc, hH⟩ := HH.out
          have hDb := SD_bd r hnc HLL.out r.N hN
          have hQb := SQ_bd r HOK.out hnc r.N hN
          have c60 := hH.m.A6.cell 0
          have c61 := hH.m.A6.cell 1
          have c62 := hH.m.A6.cell 2
          have f60 := hH.m.A6.free 0
          have f61 := hH.m.A6.free 1
          have f62 := hH.m.A6.free 2
          have c40 := hH.m.A4.cell 0
          have c41 := hH.m.A4.cell 1
          have c42 := hH.m.A4.cell 2
          have f40 := hH.m.A4.free 0
          have f41 := hH.m.A4.free 1
          have f42 := hH.m.A4.free 2
          simp only [List.getElem?_cons_zero, List.getElem?_cons_succ] at c60 c61 c62 c40 c41 c42
          have hg4 := HG4.out
          have hbl : Below w.heap.size w wr := hH.m.bel
          clear hH
          go_wp2_with fail
          have e4 : w.heap.size ≤ g4 := by omega
          have e6 : w.heap.size ≤ g4 + 1 := by omega
          have ne0 : g4 + 1 ≠ g4 := by omega
          refine bodyPost_ret (v := .tuple #[.agg #[.int .u64 (sumN r.D r.N : Nat), .int .u64 (czOf r.N (sumN r.D r.N) (sumN r.Q r.N)), .int .u64 ((sumN r.Q r.N : Nat) / 2 : Int)], .int .u64 (maxN r.h r.N : Nat)]) ?_ rfl ⟨rfl, ((((hbl.setCell e6 _).setCell e6 _).setCell e4 _).setCell e4 _).setCell e4 _⟩
          simp [results, Try.results11, go_sem, c40, c41, c42, czOf]
end Go.Proofs.Qxb6605431a.cc
