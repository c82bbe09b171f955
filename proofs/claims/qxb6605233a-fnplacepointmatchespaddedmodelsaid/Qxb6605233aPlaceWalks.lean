import Derived.Test.Qxb6605233aBytes
import Derived.Test.Qxb6605233aPlacePlain
import Derived.OpenShut
import Derived.Deep.QuietTactic
import Derived.BigQuiet
namespace Go.Proofs.Qxb6605233a.place
open Go.RowKit Go.Proofs.Qxb6605233a.bs

theorem Try.info5 : (Try.prog.info? 5).map (fun i => (i.zero, i.size, i.bytes)) = some (some (.int .u8 0), 1, 1) := by kernel_rfl
theorem Try.size5 : (Try.prog.info? 5).map (·.size) = some 1 := by kernel_rfl

theorem ret_bool {a b : Bool} (h : a = b) : Ending.returned (.bool a) = .returned (.bool b) := by rw [h]

theorem drewN_more {w wr : World} (h : ∃ n, wr = w.drewN n) (m : Nat) : ∃ n, wr.drewN m = w.drewN n := by
  obtain ⟨n, rfl⟩ := h
  exact ⟨n + m, by simp⟩

theorem clone_any (ao : Option Addr) (n cap : Nat) (l : List Int) (w : World) (hl : l.length = n) (hn : n ≤ 1048576) (hseg : Seg w ao l) :
    Calls Try.prog 13 #[.slice ao n cap] w fun e w' => ∃ ao', e = .returned (.slice ao' n n) ∧ Seg w' ao' l ∧ (ao' = none ∨ ∃ g, ao' = some ⟨g, 0, none⟩) ∧ Below w.heap.size w w' := by
  have hq := fun w => Go.Lib.run_eql_slice_nil (P := Try.prog) w 27 5 ao n cap 0 0 Try.underlying27
  cases ao with
  | none =>
    have hl0 : l = [] := by
      rcases hseg with h | ⟨_, _, h, _⟩
      · exact h
      · cases h
    subst hl0
    have hn0 : n = 0 := by simpa using hl.symm
    subst hn0
    clear hl hseg hn
    simp only [Option.isNone_none] at hq
    go_enter Try.func13, Try.ntmps13
    go_wp2
    go_ret
    exact ⟨none, rfl, .inl rfl, .inl rfl, Below.refl _ _⟩
  | some ad =>
    simp only [Option.isNone_some] at hq
    obtain ⟨i0, hi, hz0, hz1, hz2⟩ := info_parts Try.info5
    have hm : n ≤ maxLen := by unfold maxLen; omega
    have hby : i0.bytes * n ≤ 281474976710656 := by rw [hz2]; omega
    go_enter Try.func13, Try.ntmps13
    go_wp2_with (at_make; refine wpList_make_full _ rfl _ _ 27 rfl w.heap.size 5 i0 (.int .u8 0) 1 Try.underlying27 hi hz0 hz1 _ _ _ _ n rfl rfl rfl rfl hby hm (Nat.le_refl _) ?_; intro w1 hown hgrow; obtain ⟨w2, hcp, hs2, hb2⟩ := copy_full (P := Try.prog) (t := 27) (ty := 3) (cap := cap) Try.underlying27 Try.size5 hown hgrow hl hseg)
    go_ret
    exact ⟨_, rfl, hs2, .inr ⟨_, rfl⟩, hb2⟩

theorem equal_any (aa : Option Addr) (na ca : Nat) (la : List Int) (ab : Option Addr) (nb cb : Nat) (lb : List Int) (w : World) (hla : la.length = na) (hlb : lb.length = nb) (_hn : na ≤ 2147483648) (_hm : nb ≤ 2147483648) (ha : Seg w aa la) (hb : Seg w ab lb) :
    Calls Try.prog 16 #[.slice aa na ca, .slice ab nb cb] w fun e w' => e = .returned (.bool (decide (la = lb))) ∧ ∃ n, w' = w.drewN n := by
  by_cases hs : na = nb
  · subst hs
    by_cases hz : na = 0
    · have HF : Hid (decide (la = lb) = true) := by
        have h1 : la = [] := List.eq_nil_of_length_eq_zero (by omega)
        have h2 : lb = [] := List.eq_nil_of_length_eq_zero (by omega)
        simp [Hid, h1, h2]
      subst hz
      clear hla hlb ha hb
      go_enter Try.func16, Try.ntmps16
      go_wp2
      refine wp_loop_rounds 1 ?_; rw [rounds_succ]
      go_wp2
      go_ret
      exact ⟨ret_bool HF.out.symm, 0, rfl⟩
    · obtain ⟨b1, o1, rfl, h1⟩ : ∃ b off, aa = some ⟨b, off, none⟩ ∧ ∀ j, j < la.length → w.cell? ⟨b, off + j, none⟩ = some (.int .u8 (la.getD j 0)) := by
        rcases ha with h | h
        · subst h; simp at hla; omega
        · exact h
      obtain ⟨b2, o2, rfl, h2⟩ : ∃ b off, ab = some ⟨b, off, none⟩ ∧ ∀ j, j < lb.length → w.cell? ⟨b, off + j, none⟩ = some (.int .u8 (lb.getD j 0)) := by
        rcases hb with h | h
        · subst h; simp at hlb; omega
        · exact h
      have H1 : Hid _ := h1
      have H2 : Hid _ := h2
      have HA : Hid (la.length = na) := hla
      have HB : Hid (lb.length = na) := hlb
      clear h1 h2 hla hlb ha hb hz
      go_enter Try.func16, Try.ntmps16
      go_wp2
      go_loopw [5] (fun i wr => ∃ k : Nat, k ≤ na ∧ i = .int .i64 k ∧ Hid (∀ j, j < k → la.getD j 0 = lb.getD j 0) ∧ Hid (∃ n, wr = w.drewN n)) (fun i _ => na - (intOf i).toNat)
      case atStart => exact ⟨0, Nat.zero_le _, rfl, fun j h => absurd h (by omega), 0, rfl⟩
      case round =>
        obtain ⟨k, hk, rfl, HE, HN⟩ := hrel
        by_cases hlt : k < na
        · have hc1 : wr.cell? ⟨b1, o1 + k, none⟩ = some (.int .u8 (la.getD k 0)) := by
            obtain ⟨n, rfl⟩ := HN.out
            exact H1.out k (by have := HA.out; omega)
          have hc2 : wr.cell? ⟨b2, o2 + k, none⟩ = some (.int .u8 (lb.getD k 0)) := by
            obtain ⟨n, rfl⟩ := HN.out
            exact H2.out k (by have := HB.out; omega)
          have hki : (k : Int) < (na : Int) := by omega
          generalize hx : la.getD k 0 = x at hc1
          generalize hy : lb.getD k 0 = y at hc2
          by_cases hxy : x = y
          · have HX : Hid (la.getD k 0 = lb.getD k 0) := by rw [Hid, hx, hy]; exact hxy
            have hne : (x != y) = false := by simpa using hxy
            clear hx hy hxy
            go_wp2
            go_quiet (fail)
            go_wp2
            go_roundw
            case rel =>
              refine ⟨k + 1, by omega, by go_num, ?_, drewN_more HN.out _⟩
              intro j hj
              by_cases e : j = k
              · subst e; exact HX.out
              · exact HE.out j (by omega)
            case measure => simp [intOf]; omega
          · have HF : Hid (decide (la = lb) = false) := by
              refine decide_eq_false ?_
              intro e
              rw [← hx, ← hy, e] at hxy
              exact hxy rfl
            have hne : (x != y) = true := by simpa using hxy
            clear hx hy hxy
            go_wp2
            go_quiet (fail)
            go_wp2
            go_ret
            exact ⟨ret_bool HF.out.symm, drewN_more HN.out _⟩
        · have HF : Hid (decide (la = lb) = true) := by
            refine decide_eq_true ?_
            apply List.ext_getElem
            · rw [HA.out, HB.out]
            · intro j h1 h2
              have h3 := HE.out j (by have := HA.out; omega)
              simpa [List.getD, h1, h2] using h3
          go_wp2
          go_ret
          exact ⟨ret_bool HF.out.symm, HN.out⟩
  · have HF : Hid (decide (la = lb) = false) := by
      refine decide_eq_false ?_
      intro e
      rw [e] at hla
      omega
    have hne : ((na : Int) != (nb : Int)) = true := by rw [bne_iff_ne]; omega
    clear hla hlb ha hb hs
    go_enter Try.func16, Try.ntmps16
    go_wp2
    go_ret
    exact ⟨ret_bool HF.out.symm, 0, rfl⟩

def TrimP (l : List Int) (n : Nat) (w : World) (e : Ending) (w' : World) : Prop :=
  ∃ ao' n' cap', e = .returned (.slice ao' n' cap') ∧ (trim l).length = n' ∧ n' ≤ n ∧ Seg w ao' (trim l) ∧ w = w'

theorem trim_some (b off n cap : Nat) (l : List Int) (w : World) (hl : l.length = n) (_hn : n ≤ cap) (_hc : cap ≤ maxLen) (hcell : ∀ j, j < l.length → w.cell? ⟨b, off + j, none⟩ = some (.int .u8 (l.getD j 0))) :
    Calls Try.prog 18 #[.slice (some ⟨b, off, none⟩) n cap] w (TrimP l n w) := by
  have HC : Hid _ := hcell
  have HL : Hid (l.length = n) := hl
  clear hcell hl
  unfold maxLen at _hc
  go_enter Try.func18, Try.ntmps18
  go_wp2
  go_loop [3] (fun i => ∃ k : Nat, k ≤ n ∧ i = .int .i64 k ∧ Hid (∀ j, j < k → l.getD j 0 = 48)) (fun i => n - (intOf i).toNat)
  case atStart => exact ⟨0, Nat.zero_le _, rfl, fun j h => absurd h (by omega)⟩
  case round =>
    obtain ⟨k, hk, rfl, HE⟩ := hrel
    have fin : (k = l.length ∨ l.getD k 0 ≠ 48) → ∀ ao', (k < n → ao' = some ⟨b, off + k, none⟩) → (trim l).length = n - k ∧ n - k ≤ n ∧ Seg w ao' (trim l) := by
      intro hend ao' hao
      have hL := HL.out
      have ht := trim_drop l k HE.out (by omega) hend
      refine ⟨by rw [ht]; simp [hL], by omega, ?_⟩
      have e : trim l = (l.take l.length).drop k := by rw [ht, List.take_length]
      rw [e]
      exact Seg.cut HC.out k l.length (fun _ h => hao (by omega))
    have HF : Hid _ := fin
    clear fin
    by_cases hlt : k < n
    · have hki : (k : Int) < (n : Int) := by omega
      have hc1 : w.cell? ⟨b, off + k, none⟩ = some (.int .u8 (l.getD k 0)) := HC.out k (by have := HL.out; omega)
      generalize hx : l.getD k 0 = x at hc1
      by_cases h48 : x = 48
      · have HX : Hid (l.getD k 0 = 48) := by rw [Hid, hx]; exact h48
        subst h48
        clear hx
        go_wp2
        go_round
        case rel =>
          refine ⟨k + 1, by omega, by go_num, ?_⟩
          intro j hj
          by_cases e : j = k
          · subst e; exact HX.out
          · exact HE.out j (by omega)
        case measure => simp [intOf]; omega
      · have hne : (x == 48) = false := by simpa using h48
        have HX : Hid (l.getD k 0 ≠ 48) := by rw [Hid, hx]; exact h48
        have hck : ¬ cap = k := by omega
        clear hx h48
        go_wp2
        go_ret
        exact ⟨_, _, _, rfl, (HF.out (.inr HX.out) _ (fun _ => rfl)).1, (HF.out (.inr HX.out) _ (fun _ => rfl)).2.1, (HF.out (.inr HX.out) _ (fun _ => rfl)).2.2, rfl⟩
    · obtain rfl : k = n := by omega
      have hd : decide ((k : Int) < (k : Int)) = false := by simp
      have hF := fun ao' => HF.out (.inl HL.out.symm) ao' (fun h => absurd h (by omega))
      rw [Nat.sub_self] at hF
      have HG : Hid _ := hF
      clear hF
      go_wp2
      all_goals
        go_ret
        exact ⟨_, _, _, rfl, (HG.out none).1, Nat.zero_le _, (HG.out _).2.2, rfl⟩

theorem trim_nil (w : World) :
    Calls Try.prog 18 #[.slice none 0 0] w (TrimP [] 0 w) := by
  go_enter Try.func18, Try.ntmps18
  go_wp2
  refine wp_loop_rounds 1 ?_; rw [rounds_succ]
  have hd : decide ((0 : Int) < ((0 : Nat) : Int)) = false := by simp
  go_wp2
  go_ret
  exact ⟨_, _, _, rfl, rfl, Nat.le_refl _, .inl rfl, rfl⟩
end Go.Proofs.Qxb6605233a.place
