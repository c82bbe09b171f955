import Derived.Test.Qxb6605233aRows
import Derived.Test.Qxb6605233aFoldPlain
import Derived.WalkKit
import Derived.WalkLawsBesides
import Derived.OpenShut
import Derived.Deep.QuietTactic
import Derived.BigQuiet
namespace Go.Proofs.Qxb6605233a.fold
open Go.RowKit

theorem ret_int {k : IntKind} {a b : Int} (h : a = b) : Ending.returned (.int k a) = .returned (.int k b) := by rw [h]
theorem ret_bool {a b : Bool} (h : a = b) : Ending.returned (.bool a) = .returned (.bool b) := by rw [h]

theorem drewN_more {w wr : World} (h : ∃ n, wr = w.drewN n) (m : Nat) : ∃ n, wr.drewN m = w.drewN n := by
  obtain ⟨n, rfl⟩ := h
  exact ⟨n + m, by simp⟩

theorem lower_any (c : Int) (h0 : 0 ≤ c) (h1 : c ≤ 255) (w : World) :
    Calls Try.prog 25 #[.int .u8 c] w fun e w' => e = .returned (.int .u8 (lowZ c)) ∧ w' = w := by
  unfold lowZ
  by_cases ha : 65 ≤ c
  · by_cases hb : c ≤ 90
    · rw [if_pos ⟨ha, hb⟩]
      go_enter Try.func25, Try.ntmps25
      go_wp2
      go_ret
      exact ⟨ret_int (by omega), rfl⟩
    · rw [if_neg (by omega)]
      go_enter Try.func25, Try.ntmps25
      go_wp2
      go_ret
      exact ⟨rfl, rfl⟩
  · rw [if_neg (by omega)]
    have hd : decide (65 ≤ c) = false := by simpa using ha
    go_enter Try.func25, Try.ntmps25
    go_wp2
    go_ret
    exact ⟨rfl, rfl⟩

theorem lower_byte (c : UInt8) (w : World) :
    Calls Try.prog 25 #[.int .u8 (c.toNat : Int)] w fun e w' => e = .returned (.int .u8 (lowZ (c.toNat : Int))) ∧ w' = w :=
  lower_any _ (by omega) (by have := c.toNat_lt; omega) w

theorem fold_any (a b : ByteArray) (ha : a.size ≤ maxLen) (_hb : b.size ≤ maxLen) (w : World) :
    Calls Try.prog 22 #[.string a, .string b] w fun e w' => e = .returned (.bool (eqF a b)) ∧ ∃ n, w' = w.drewN n := by
  unfold maxLen at ha _hb
  by_cases hs : a.size = b.size
  · have hn : ((a.size : Int) != (b.size : Int)) = false := by rw [bne_eq_false_iff_eq]; omega
    have h1 : a.size ≤ b.size := by omega
    have h2 : b.size ≤ a.size := by omega
    have HS : Hid (a.size = b.size) := hs
    clear hs
    go_enter Try.func22, Try.ntmps22
    go_wp2
    go_loopw [13] (fun i wr => ∃ k : Nat, k ≤ a.size ∧ i = .int .i64 k ∧ (∀ j (ja : j < a.size) (jb : j < b.size), j < k → lowZ (a[j].toNat : Int) = lowZ (b[j].toNat : Int)) ∧ ∃ n, wr = w.drewN n) (fun i _ => a.size - (intOf i).toNat)
    case atStart => exact ⟨0, Nat.zero_le _, rfl, fun j _ _ h => absurd h (by omega), 0, rfl⟩
    case round =>
      obtain ⟨k, hk, rfl, hall, hn'⟩ := hrel
      have HN : Hid (∃ n, wr = w.drewN n) := hn'
      clear hn'
      have HA : Hid (∀ j (ja : j < a.size) (jb : j < b.size), j < k → lowZ (a[j].toNat : Int) = lowZ (b[j].toNat : Int)) := hall
      clear hall
      by_cases hlt : k < a.size
      · have hltb : k < b.size := by omega
        have hlti : (k : Int) < (a.size : Int) := by omega
        have hltbi : (k : Int) < (b.size : Int) := by omega
        by_cases heq : lowZ (a[k].toNat : Int) = lowZ (b[k].toNat : Int)
        · have hne : (lowZ (a[k].toNat : Int) != lowZ (b[k].toNat : Int)) = false := by simpa using heq
          have HE : Hid (lowZ (a[k].toNat : Int) = lowZ (b[k].toNat : Int)) := heq
          clear heq
          go_wp2
          go_quiet ((go_at_call 25; exact Calls.quiet_of_same (lower_byte _ _)))
          go_wp2
          go_roundw
          case rel => 
            refine ⟨k + 1, by omega, by go_num, ?_, drewN_more HN.out _⟩
            intro j ja jb hj
            by_cases e : j = k
            · subst e; exact HE.out
            · exact HA.out j ja jb (by omega)
          case measure => simp [intOf]; omega
        · have hne : (lowZ (a[k].toNat : Int) != lowZ (b[k].toNat : Int)) = true := by simpa using heq
          have HF : Hid (eqF a b = false) := eqF_diff a b k hlt hltb heq
          clear heq
          go_wp2
          go_quiet ((go_at_call 25; exact Calls.quiet_of_same (lower_byte _ _)))
          go_wp2
          go_ret
          exact ⟨ret_bool HF.out.symm, drewN_more HN.out _⟩
      · have HF : Hid (eqF a b = true) := eqF_same a b HS.out (fun j ja jb => HA.out j ja jb (by omega))
        go_wp2
        go_ret
        exact ⟨ret_bool HF.out.symm, HN.out⟩
  · rw [eqF_size a b hs]
    have hn : ((a.size : Int) != (b.size : Int)) = true := by rw [bne_iff_ne]; omega
    go_enter Try.func22, Try.ntmps22
    go_wp2
    go_ret
    exact ⟨rfl, 0, rfl⟩

theorem or32 (c : UInt8) : (decide (97 ≤ bits BinOp.or IntKind.u8 (c.toNat : Int) 32) && decide (bits BinOp.or IntKind.u8 (c.toNat : Int) 32 ≤ 122)) = isLet c.toNat := by
  have := all256 (fun n => (decide (97 ≤ bits BinOp.or IntKind.u8 (n : Int) 32) && decide (bits BinOp.or IntKind.u8 (n : Int) 32 ≤ 122)) == isLet n) (by decide +kernel) c
  simpa using this
theorem xor32 (c : UInt8) : bits BinOp.xor IntKind.u8 (c.toNat : Int) 32 = ((c.toNat ^^^ 32 : Nat) : Int) := by
  have := all256 (fun n => decide (bits BinOp.xor IntKind.u8 (n : Int) 32 = ((n ^^^ 32 : Nat) : Int))) (by decide +kernel) c
  simpa using this

theorem letter_any (c : UInt8) (w : World) :
    Calls Try.prog 21 #[.int .u8 (c.toNat : Int)] w fun e w' => e = .returned (.bool (isLet c.toNat)) ∧ w' = w := by
  rw [← or32]
  generalize hx : bits BinOp.or IntKind.u8 (c.toNat : Int) 32 = x
  by_cases ha : 97 ≤ x
  · go_enter Try.func21, Try.ntmps21
    go_wp2
    go_ret
    exact ⟨ret_bool (by simp [ha]), rfl⟩
  · have hd : decide (97 ≤ x) = false := by simpa using ha
    go_enter Try.func21, Try.ntmps21
    go_wp2
    go_ret
    exact ⟨rfl, rfl⟩

theorem Try.info5 : (Try.prog.info? 5).map (fun i => (i.zero, i.size, i.bytes)) = some (some (.int .u8 0), 1, 1) := by kernel_rfl

/-- What the buffer holds after k rounds. -/
def Buf (a : ByteArray) (w wr : World) (k : Nat) : Prop :=
  ∃ xs : List Value, wr.ownsRow w.heap.size 5 1 (.slice (some ⟨w.heap.size, 0, none⟩) a.size a.size) a.size xs ∧ (∀ j (h : j < a.size), j < k → xs[j]? = some (.int .u8 (sw a[j].toNat : Nat))) ∧ Below w.heap.size w wr

theorem Buf.cell {a : ByteArray} {w wr : World} {k : Nat} (h : Buf a w wr k) (hk : k < a.size) : (∃ v, wr.cell? ⟨w.heap.size, k, none⟩ = some v) ∧ wr.frozen? ⟨w.heap.size, k, none⟩ = false := by
  obtain ⟨xs, hown, _, _⟩ := h
  refine ⟨?_, hown.frozenAt k⟩
  have hl := hown.1
  rw [hown.cellAt k (by omega)]
  exact ⟨_, List.getElem?_eq_getElem (by omega)⟩

theorem Buf.step {a : ByteArray} {w wr : World} {k : Nat} (h : Buf a w wr k) (hk : k < a.size) {n : Int} (hn : n = (sw a[k].toNat : Nat)) : Buf a w (wr.setCell ⟨w.heap.size, k, none⟩ (.int .u8 n)) (k + 1) := by
  obtain ⟨xs, hown, hall, hb⟩ := h
  obtain ⟨ho, hg⟩ := hown.stored k (.int .u8 n)
  refine ⟨_, ho, ?_, hb.setCell (Nat.le_refl _) _⟩
  intro j hj hjk
  have hl := hown.1
  by_cases e : j = k
  · subst e
    rw [List.getElem?_set_self (by omega), hn]
  · rw [List.getElem?_set_ne (by omega)]
    exact hall j hj (by omega)

theorem Buf.done {a : ByteArray} {w wr : World} (h : Buf a w wr a.size) : (convert 27 9 (.slice (some ⟨w.heap.size, 0, none⟩) a.size a.size)).run Try.prog wr = .ok (.string ⟨(swL a.data.toList).toArray⟩) wr ∧ Below w.heap.size w wr := by
  obtain ⟨xs, hown, hall, hb⟩ := h
  refine ⟨?_, hb⟩
  have hl : (swL a.data.toList).length = a.size := by simp [swL]
  have := run_convert_bytes_back (P := Try.prog) wr 27 9 5 ⟨w.heap.size, 0, none⟩ a.size (swL a.data.toList) Try.underlying27 Try.underlying5 Try.underlying9 (fun j hj => by
    rw [hl] at hj
    rw [Addr.add_lit, Nat.zero_add, hown.cellAt j (by omega), hall j hj hj]
    simp only [swL, List.getElem_map]
    rw [toNat_sw]
    rfl)
  rw [hl] at this
  exact this

theorem swap_any (a : ByteArray) (ha : a.size ≤ 1048576) (w : World) :
    Calls Try.prog 10 #[.string a] w fun e w' => e = .returned (.string ⟨(swL a.data.toList).toArray⟩) ∧ Below w.heap.size w w' := by
  obtain ⟨i0, hi, hz0, hz1, hz2⟩ := info_parts Try.info5
  have hm : a.size ≤ maxLen := by unfold maxLen; omega
  have hby : i0.bytes * a.size ≤ 281474976710656 := by rw [hz2]; omega
  generalize hS : (⟨(swL a.data.toList).toArray⟩ : ByteArray) = S
  have HS : Hid ((⟨(swL a.data.toList).toArray⟩ : ByteArray) = S) := hS
  clear hS
  go_enter Try.func10, Try.ntmps10
  go_wp2_with (at_make; refine wpList_make_full _ rfl _ _ 27 rfl w.heap.size 5 i0 (.int .u8 0) 1 Try.underlying27 hi hz0 hz1 _ _ _ _ a.size rfl rfl rfl rfl hby hm (Nat.le_refl _) ?_; intro w1 hown hgrow)
  have HB : Hid (Buf a w w1 0) := ⟨_, hown, fun j _ h => absurd h (by omega), (Below.refl _ _).grown hgrow (Nat.le_refl _) (by simp)⟩
  clear hown hgrow hi hz0 hz1 hz2 hby hm
  go_loopw [4] (fun i wr => ∃ k : Nat, k ≤ a.size ∧ i = .int .i64 k ∧ Hid (Buf a w wr k)) (fun i _ => a.size - (intOf i).toNat)
  case atStart => exact ⟨0, Nat.zero_le _, rfl, HB⟩
  case round =>
    clear HB
    obtain ⟨k, hk, rfl, HB⟩ := hrel
    by_cases hlt : k < a.size
    · obtain ⟨⟨v, hv⟩, hf⟩ := HB.out.cell hlt
      cases hL : isLet a[k].toNat
      · have HN : Hid (((a[k].toNat : Nat) : Int) = (sw a[k].toNat : Nat)) := by simp [Hid, sw, hL]
        go_wp2_with (go_at_call 21; refine (letter_any _ _).mono ?_; rintro e w' ⟨rfl, rfl⟩)
        go_roundw
        case rel => exact ⟨k + 1, by omega, by go_num, HB.out.step hlt HN.out⟩
        case measure => simp [intOf]; omega
      · have HN : Hid (bits BinOp.xor IntKind.u8 (a[k].toNat : Int) 32 = (sw a[k].toNat : Nat)) := by simp [Hid, sw, hL, xor32]
        go_wp2_with (go_at_call 21; refine (letter_any _ _).mono ?_; rintro e w' ⟨rfl, rfl⟩)
        go_roundw
        case rel => exact ⟨k + 1, by omega, by go_num, HB.out.step hlt HN.out⟩
        case measure => simp [intOf]; omega
    · obtain rfl : k = a.size := by omega
      obtain ⟨hcv, hb⟩ := HB.out.done
      rw [HS.out] at hcv
      have HBE : Hid (Below w.heap.size w wr) := hb
      clear hb
      go_wp2
      go_ret
      exact ⟨rfl, HBE.out⟩

theorem zzb_yes (a b : ByteArray) (h : a.size + b.size ≤ 1048576) (w : World) :
    Calls Try.prog 9 #[.string a, .string b] w fun e w' => e = .returned (.bool true) ∧ w' = w := by
  go_enter Try.func9, Try.ntmps9
  go_wp2
  go_ret
  exact ⟨rfl, rfl⟩
theorem zzb_no (a b : ByteArray) (ha : a.size ≤ maxLen) (hb : b.size ≤ maxLen) (h : ¬ a.size + b.size ≤ 1048576) (w : World) :
    Calls Try.prog 9 #[.string a, .string b] w fun e w' => e = .returned (.bool false) ∧ w' = w := by
  unfold maxLen at ha hb
  by_cases h1 : a.size ≤ 1048576
  · by_cases h2 : b.size ≤ 1048576
    · go_enter Try.func9, Try.ntmps9
      go_wp2
      go_ret
      exact ⟨rfl, rfl⟩
    · go_enter Try.func9, Try.ntmps9
      go_wp2
      go_ret
      exact ⟨rfl, rfl⟩
  · go_enter Try.func9, Try.ntmps9
    go_wp2
    go_ret
    exact ⟨rfl, rfl⟩

theorem zfold_any (a b : ByteArray) (ha : a.size ≤ maxLen) (hb : b.size ≤ maxLen) (w : World) :
    Calls Try.prog 11 #[.string a, .string b] w fun e w' => e = .returned (.bool (eqF a b)) ∧ ∃ n, w' = w.drewN n := by
  go_enter Try.func11, Try.ntmps11
  go_wp2_with (go_at_call 22; refine (fold_any _ _ ha hb _).mono ?_; rintro e w' ⟨rfl, n, rfl⟩)
  go_ret
  exact ⟨rfl, n, rfl⟩

theorem law_any (a b : ByteArray) (ha : a.size ≤ maxLen) (hb : b.size ≤ maxLen) (w : World) :
    Calls Try.prog 4 #[.string a, .string b] w fun e w' => e = .returned (.bool true) ∧ Below w.heap.size w w' := by
  by_cases h : a.size + b.size ≤ 1048576
  · by_cases h1 : a.size ≤ 524288
    · by_cases h2 : b.size ≤ 524288
      · obtain ⟨e1, e2, e3⟩ := eqF_of a ⟨(swL a.data.toList).toArray⟩ (by simp [lowL_swL])
        have hss : (⟨(swL a.data.toList).toArray⟩ : ByteArray).size ≤ maxLen := by
          show (swL a.data.toList).toArray.size ≤ maxLen
          simpa [swL] using ha
        have HW : Hid (∀ w, Calls Try.prog 10 #[.string a] w fun e w' => e = .returned (.string ⟨(swL a.data.toList).toArray⟩) ∧ Below w.heap.size w w') := fun w => swap_any a (by omega) w
        generalize (⟨(swL a.data.toList).toArray⟩ : ByteArray) = s at *
        have e0 := eqF_refl a
        have hx : (a ++ { data := #[33] }).size ≤ maxLen := by
          rw [ByteArray.size_append]
          have e : ({ data := #[33] } : ByteArray).size = 1 := rfl
          rw [e]; unfold maxLen; omega
        have e5 : eqF a (a ++ { data := #[33] }) = false := eqF_size _ _ (by
          rw [ByteArray.size_append]
          have e : ({ data := #[33] } : ByteArray).size = 1 := rfl
          omega)
        have e4 := eqF_symm a b
        have e3b := e3 b
        clear e3
        generalize hab : eqF a b = ab at *
        go_enter Try.func4, Try.ntmps4
        go_wp2_with (first | (go_at_call 9; refine (zzb_yes _ _ h _).mono ?_; rintro e w' ⟨rfl, rfl⟩) | (go_at_call 10; refine (HW.out _).mono ?_; rintro e w1 ⟨rfl, hbel⟩) | (go_at_call 11; refine (zfold_any _ _ (by assumption) (by assumption) _).mono ?_; rintro e w2 ⟨rfl, n, rfl⟩))
        go_ret
        exact ⟨rfl, below_drewN hbel _⟩
      · go_enter Try.func4, Try.ntmps4
        go_wp2_with (first | (go_at_call 9; refine (zzb_yes _ _ h _).mono ?_; rintro e w' ⟨rfl, rfl⟩))
        go_ret
        exact ⟨rfl, Below.refl _ _⟩
    · go_enter Try.func4, Try.ntmps4
      go_wp2_with (first | (go_at_call 9; refine (zzb_yes _ _ h _).mono ?_; rintro e w' ⟨rfl, rfl⟩))
      go_ret
      exact ⟨rfl, Below.refl _ _⟩
  · go_enter Try.func4, Try.ntmps4
    go_wp2_with (first | (go_at_call 9; refine (zzb_no _ _ ha hb h _).mono ?_; rintro e w' ⟨rfl, rfl⟩))
    go_ret
    exact ⟨rfl, Below.refl _ _⟩
end Go.Proofs.Qxb6605233a.fold
