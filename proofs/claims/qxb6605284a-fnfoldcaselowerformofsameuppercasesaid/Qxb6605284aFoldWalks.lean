import Derived.Test.Qxb6605284aRows
import Derived.Test.Qxb6605284aFoldPlain
import Derived.WalkKit
import Derived.WalkLawsBesides
import Derived.Laws.IdiomStrings
namespace Go.Proofs.Qxb6605284a.fold
open Go.RowKit

theorem ret_int {k : IntKind} {a b : Int} (h : a = b) : Ending.returned (.int k a) = .returned (.int k b) := by rw [h]
theorem ret_bool {a b : Bool} (h : a = b) : Ending.returned (.bool a) = .returned (.bool b) := by rw [h]
theorem Try.info5 : (Try.prog.info? 5).map (fun i => (i.zero, i.size, i.bytes)) = some (some (.int .u8 0), 1, 1) := by kernel_rfl

theorem isUp_any (c : UInt8) (w : World) :
    Calls Try.prog 7 #[.int .u8 (c.toNat : Int)] w fun e w' => e = .returned (.bool (isUp c.toNat)) ∧ w' = w := by
  have hc := c.toNat_lt
  generalize c.toNat = n at *
  by_cases ha : 65 ≤ n
  · go_enter Try.func7, Try.ntmps7
    go_wp2
    go_ret
    refine ⟨ret_bool ?_, rfl⟩
    simp [isUp, ha]
    omega
  · have hd : decide ((65 : Int) ≤ (n : Int)) = false := decide_eq_false (by omega)
    go_enter Try.func7, Try.ntmps7
    go_wp2
    go_ret
    refine ⟨ret_bool ?_, rfl⟩
    simp [isUp, ha]

/-! ### upperASCII -/
def Buf (a : ByteArray) (w wr : World) (k : Nat) : Prop :=
  ∃ xs : List Value, wr.ownsRow w.heap.size 5 1 (.slice (some ⟨w.heap.size, 0, none⟩) a.size a.size) a.size xs ∧ (∀ j (h : j < a.size), j < k → xs[j]? = some (.int .u8 (upN a[j].toNat : Nat))) ∧ Below w.heap.size w wr

theorem Buf.cell {a : ByteArray} {w wr : World} {k : Nat} (h : Buf a w wr k) (hk : k < a.size) : (∃ v, wr.cell? ⟨w.heap.size, k, none⟩ = some v) ∧ wr.frozen? ⟨w.heap.size, k, none⟩ = false := by
  obtain ⟨xs, hown, _, _⟩ := h
  refine ⟨?_, hown.frozenAt k⟩
  have hl := hown.1
  rw [hown.cellAt k (by omega)]
  exact ⟨_, List.getElem?_eq_getElem (by omega)⟩

theorem Buf.step {a : ByteArray} {w wr : World} {k : Nat} (h : Buf a w wr k) (hk : k < a.size) {n : Int} (hn : n = (upN a[k].toNat : Nat)) : Buf a w (wr.setCell ⟨w.heap.size, k, none⟩ (.int .u8 n)) (k + 1) := by
  obtain ⟨xs, hown, hall, hb⟩ := h
  obtain ⟨ho, hg⟩ := hown.stored k (.int .u8 n)
  refine ⟨_, ho, ?_, hb.setCell (Nat.le_refl _) _⟩
  intro j hj hjk
  have hl := hown.1
  by_cases e : j = k
  · subst e
    rw [List.getElem?_set_self (by omega), hn]
  · rw [List.getElem?_set_ne (by omega)]
    exact hall j hj (by omega)

theorem Buf.done {a : ByteArray} {w wr : World} (h : Buf a w wr a.size) : (convert 26 9 (.slice (some ⟨w.heap.size, 0, none⟩) a.size a.size)).run Try.prog wr = .ok (.string ⟨(upL a.data.toList).toArray⟩) wr ∧ Below w.heap.size w wr := by
  obtain ⟨xs, hown, hall, hb⟩ := h
  refine ⟨?_, hb⟩
  have hl : (upL a.data.toList).length = a.size := by simp [upL]
  have := run_convert_bytes_back (P := Try.prog) wr 26 9 5 ⟨w.heap.size, 0, none⟩ a.size (upL a.data.toList) Try.underlying26 Try.underlying5 Try.underlying9 (fun j hj => by
    rw [hl] at hj
    rw [Addr.add_lit, Nat.zero_add, hown.cellAt j (by omega), hall j hj hj]
    simp only [upL, List.getElem_map]
    rw [toNat_up]
    rfl)
  rw [hl] at this
  exact this

theorem upper_any (a : ByteArray) (ha : a.size ≤ 1048576) (w : World) :
    Calls Try.prog 8 #[.string a] w fun e w' => e = .returned (.string ⟨(upL a.data.toList).toArray⟩) ∧ Below w.heap.size w w' := by
  obtain ⟨i0, hi, hz0, hz1, hz2⟩ := info_parts Try.info5
  have hm : a.size ≤ maxLen := by unfold maxLen; omega
  have hby : i0.bytes * a.size ≤ 281474976710656 := by rw [hz2]; omega
  generalize hS : (⟨(upL a.data.toList).toArray⟩ : ByteArray) = S
  have HS : Hid ((⟨(upL a.data.toList).toArray⟩ : ByteArray) = S) := hS
  clear hS
  go_enter Try.func8, Try.ntmps8
  go_wp2_with (at_make; refine wpList_make_full _ rfl _ _ 26 rfl w.heap.size 5 i0 (.int .u8 0) 1 Try.underlying26 hi hz0 hz1 _ _ _ _ a.size rfl rfl rfl rfl hby hm (Nat.le_refl _) ?_; intro w1 hown hgrow)
  have HB : Hid (Buf a w w1 0) := ⟨_, hown, fun j _ h => absurd h (by omega), (Below.refl _ _).grown hgrow (Nat.le_refl _) (by simp)⟩
  clear hown hgrow hi hz0 hz1 hz2 hby hm
  go_loopw [4] (fun i wr => ∃ k : Nat, k ≤ a.size ∧ i = .int .i64 k ∧ Hid (Buf a w wr k)) (fun i _ => a.size - (intOf i).toNat)
  case atStart => exact ⟨0, Nat.zero_le _, rfl, HB⟩
  case round =>
    clear HB
    obtain ⟨k, hk, rfl, HB⟩ := hrel
    by_cases hlt : k < a.size
    · obtain ⟨⟨v, hv⟩, hf⟩ := HB.out.cell hlt
      have hbd := a[k].toNat_lt
      by_cases h1 : 97 ≤ a[k].toNat
      · by_cases h2 : a[k].toNat ≤ 122
        · have HN : Hid ((a[k].toNat : Int) - 32 = (upN a[k].toNat : Nat)) := by simp only [Hid, upN, if_pos (And.intro h1 h2)]; omega
          go_wp2
          go_roundw
          case rel => exact ⟨k + 1, by omega, by go_num, HB.out.step hlt HN.out⟩
          case measure => simp [intOf]; omega
        · have HN : Hid ((a[k].toNat : Int) = (upN a[k].toNat : Nat)) := by simp only [Hid, upN, if_neg (fun h : _ ∧ _ => h2 h.2)]
          go_wp2
          go_roundw
          case rel => exact ⟨k + 1, by omega, by go_num, HB.out.step hlt HN.out⟩
          case measure => simp [intOf]; omega
      · have HN : Hid ((a[k].toNat : Int) = (upN a[k].toNat : Nat)) := by simp only [Hid, upN, if_neg (fun h : _ ∧ _ => h1 h.1)]
        have hd : decide ((97 : Int) ≤ (a[k].toNat : Int)) = false := decide_eq_false (by omega)
        go_wp2
        go_roundw
        case rel => exact ⟨k + 1, by omega, by go_num, HB.out.step hlt HN.out⟩
        case measure => simp [intOf]; omega
    · obtain rfl : k = a.size := by omega
      obtain ⟨hcv, hb⟩ := HB.out.done
      rw [HS.out] at hcv
      have HBE : Hid (Below w.heap.size w wr) := hb
      clear hb
      go_wp2
      go_ret
      exact ⟨rfl, HBE.out⟩

/-! ### FoldCase -/
structure Fo (a : ByteArray) (w wr : World) (k : Nat) : Prop where
  new : w.heap.size < wr.heap.size
  cells : ∀ j (h : j < a.size), wr.cell? ⟨w.heap.size, j, none⟩ = some (.int .u8 ((if j < k then lowN a[j].toNat else a[j].toNat : Nat) : Int))
  free : ∀ j, j < a.size → wr.frozen? ⟨w.heap.size, j, none⟩ = false
  bel : Below w.heap.size w wr

theorem Fo.start (a : ByteArray) (w : World) : ∃ cap w1, (convert 9 26 (.string a)).run Try.prog w = .ok (.slice (some ⟨w.heap.size, 0, none⟩) a.size cap) w1 ∧ Fo a w w1 0 := by
  have hge := grownCap_ge w a.size 0 5
  have hsz : (bytesRow a (grownCap w a.size 0 5)).size = grownCap w a.size 0 5 := by
    unfold bytesRow
    rw [Array.size_append, Array.size_map, Array.size_replicate]
    have : a.data.size = a.size := rfl
    omega
  refine ⟨_, _, run_bytes_of_string w 9 26 5 a Try.underlying9 Try.underlying26 Try.underlying5, ⟨by simp, fun j hj => ?_, fun j hj => ?_, (Below.refl _ _).drew.alloc (Nat.le_refl _) _⟩⟩
  · rw [show (w.heap.size) = w.drew.heap.size from rfl, World.cell?_alloc_mark, bytesRow_at a _ j hj]
    simp
    rfl
  · rw [show (w.heap.size) = w.drew.heap.size from rfl, World.frozen?_alloc_mark, hsz]
    simp
    omega

theorem Fo.keep {a : ByteArray} {w wr : World} {k : Nat} (h : Fo a w wr k) (hk : k < a.size) (hn : a[k].toNat = lowN a[k].toNat) : Fo a w wr (k + 1) := by
  refine ⟨h.new, fun j hj => ?_, h.free, h.bel⟩
  rw [h.cells j hj]
  by_cases e : j = k
  · subst e
    rw [if_neg (by omega), if_pos (by omega), ← hn]
  · by_cases e2 : j < k
    · rw [if_pos e2, if_pos (by omega)]
    · rw [if_neg e2, if_neg (by omega)]

theorem Fo.step {a : ByteArray} {w wr : World} {k : Nat} (h : Fo a w wr k) (hk : k < a.size) {n : Int} (hn : n = (lowN a[k].toNat : Nat)) : Fo a w (wr.setCell ⟨w.heap.size, k, none⟩ (.int .u8 n)) (k + 1) := by
  refine ⟨by simpa using h.new, fun j hj => ?_, fun j hj => by simpa using h.free j hj, h.bel.setCell (Nat.le_refl _) _⟩
  by_cases e : j = k
  · subst e
    rw [World.cell?_setCell_same _ _ _ (h.cells j hj), hn, if_pos (by omega)]
  · rw [World.cell?_setCell_other _ _ _ _ (by simp), h.cells j hj]
    by_cases e2 : j < k
    · rw [if_pos e2, if_pos (by omega)]
    · rw [if_neg e2, if_neg (by omega)]

theorem Fo.done {a : ByteArray} {w wr : World} {cap : Nat} (h : Fo a w wr a.size) : (convert 26 9 (.slice (some ⟨w.heap.size, 0, none⟩) a.size cap)).run Try.prog wr = .ok (.string ⟨(lowL a.data.toList).toArray⟩) wr := by
  have hl : (lowL a.data.toList).length = a.size := by simp [lowL]
  have := run_convert_bytes_back (P := Try.prog) wr 26 9 5 ⟨w.heap.size, 0, none⟩ cap (lowL a.data.toList) Try.underlying26 Try.underlying5 Try.underlying9 (fun j hj => by
    rw [hl] at hj
    rw [Addr.add_lit, Nat.zero_add, h.cells j hj, if_pos hj]
    simp only [lowL, List.getElem_map]
    rw [toNat_low]
    rfl)
  rw [hl] at this
  exact this

theorem foldCase_any (a : ByteArray) (ha : a.size ≤ 1048576) (w : World) :
    Calls Try.prog 6 #[.string a] w fun e w' => e = .returned (.string ⟨(lowL a.data.toList).toArray⟩) ∧ Below w.heap.size w w' := by
  generalize hS : (⟨(lowL a.data.toList).toArray⟩ : ByteArray) = S
  have HS : Hid ((⟨(lowL a.data.toList).toArray⟩ : ByteArray) = S) := hS
  clear hS
  obtain ⟨cap, w1, hcv0, F0⟩ := Fo.start a w
  have HF : Hid (Fo a w w1 0) := F0
  clear F0
  go_enter Try.func6, Try.ntmps6
  go_wp2
  go_loopw [10] (fun i wr => ∃ k : Nat, k ≤ a.size ∧ i = .int .i64 k ∧ Hid (Fo a w wr k)) (fun i _ => a.size - (intOf i).toNat)
  case atStart => exact ⟨0, Nat.zero_le _, rfl, HF⟩
  case round =>
    clear HF
    obtain ⟨k, hk, rfl, HB⟩ := hrel
    by_cases hlt : k < a.size
    · have hv := HB.out.cells k hlt
      rw [if_neg (Nat.lt_irrefl k)] at hv
      have hf := HB.out.free k hlt
      have hbd := a[k].toNat_lt
      have hki : (k : Int) < (a.size : Int) := by omega
      by_cases h1 : 65 ≤ a[k].toNat
      · by_cases h2 : a[k].toNat ≤ 90
        · have HN : Hid ((a[k].toNat : Int) + 97 - 65 = (lowN a[k].toNat : Nat)) := by simp only [Hid, lowN, if_pos (And.intro h1 h2)]; omega
          go_wp2
          go_roundw
          case rel => exact ⟨k + 1, by omega, by go_num, HB.out.step hlt HN.out⟩
          case measure => simp [intOf]; omega
        · have HN : Hid (a[k].toNat = lowN a[k].toNat) := by simp only [Hid, lowN, if_neg (fun h : _ ∧ _ => h2 h.2)]
          go_wp2
          go_roundw
          case rel => exact ⟨k + 1, by omega, by go_num, HB.out.keep hlt HN.out⟩
          case measure => simp [intOf]; omega
      · have HN : Hid (a[k].toNat = lowN a[k].toNat) := by simp only [Hid, lowN, if_neg (fun h : _ ∧ _ => h1 h.1)]
        have hd : decide ((65 : Int) ≤ (a[k].toNat : Int)) = false := decide_eq_false (by omega)
        go_wp2
        go_roundw
        case rel => exact ⟨k + 1, by omega, by go_num, HB.out.keep hlt HN.out⟩
        case measure => simp [intOf]; omega
    · obtain rfl : k = a.size := by omega
      have hcv := HB.out.done (cap := cap)
      rw [HS.out] at hcv
      have HBE : Hid (Below w.heap.size w wr) := HB.out.bel
      clear hcv0
      go_wp2
      go_ret
      exact ⟨rfl, HBE.out⟩

theorem zz_yes (a : ByteArray) (h : a.size ≤ 1048576) (w : World) :
    Calls Try.prog 5 #[.string a] w fun e w' => e = .returned (.bool true) ∧ w = w' := by
  go_enter Try.func5, Try.ntmps5
  go_wp2
  go_ret
  exact ⟨rfl, rfl⟩
theorem zz_no (a : ByteArray) (ha : a.size ≤ maxLen) (h : ¬ a.size ≤ 1048576) (w : World) :
    Calls Try.prog 5 #[.string a] w fun e w' => e = .returned (.bool false) ∧ w = w' := by
  unfold maxLen at ha
  go_enter Try.func5, Try.ntmps5
  go_wp2
  go_ret
  exact ⟨rfl, rfl⟩

theorem law_any (a : ByteArray) (ha : a.size ≤ maxLen) (w : World) :
    Calls Try.prog 3 #[.string a] w fun e w' => e = .returned (.bool true) ∧ Below w.heap.size w w' := by
  by_cases h : a.size ≤ 1048576
  · have HF : Hid (∀ w, Calls Try.prog 6 #[.string a] w fun e w' => e = .returned (.string ⟨(lowL a.data.toList).toArray⟩) ∧ Below w.heap.size w w') := fun w => foldCase_any a h w
    have hrs : (⟨(lowL a.data.toList).toArray⟩ : ByteArray).size = a.size := by show (lowL a.data.toList).toArray.size = a.size; simp [lowL]
    have hrn : ∀ j (hj : j < (⟨(lowL a.data.toList).toArray⟩ : ByteArray).size), isUp ((⟨(lowL a.data.toList).toArray⟩ : ByteArray)[j]).toNat = false := fun j hj => lowL_not a.data.toList j (by have : j < (lowL a.data.toList).toArray.size := hj; simpa using this)
    have hru : (⟨(upL (⟨(lowL a.data.toList).toArray⟩ : ByteArray).data.toList).toArray⟩ : ByteArray) = ⟨(upL a.data.toList).toArray⟩ := by simp [upL_lowL]
    generalize (⟨(lowL a.data.toList).toArray⟩ : ByteArray) = r at *
    have HUR : Hid (∀ w, Calls Try.prog 8 #[.string r] w fun e w' => e = .returned (.string ⟨(upL a.data.toList).toArray⟩) ∧ Below w.heap.size w w') := by
      intro w
      have := upper_any r (by omega) w
      rwa [hru] at this
    have HUA : Hid (∀ w, Calls Try.prog 8 #[.string a] w fun e w' => e = .returned (.string ⟨(upL a.data.toList).toArray⟩) ∧ Below w.heap.size w w') := fun w => upper_any a h w
    clear hru
    generalize (⟨(upL a.data.toList).toArray⟩ : ByteArray) = u at *
    have HRN : Hid (∀ j (hj : j < r.size), isUp (r[j]).toNat = false) := hrn
    have HRS : Hid (r.size = a.size) := hrs
    have r1 : r.size ≤ a.size := by omega
    have hne : ((r.size : Int) != (a.size : Int)) = false := by rw [bne_eq_false_iff_eq]; omega
    clear hrs hrn
    go_enter Try.func3, Try.ntmps3
    go_wp2_with (first | (go_at_call 5; refine (zz_yes _ h _).mono ?_; rintro e w' ⟨rfl, rfl⟩) | (go_at_call 6; refine (HF.out _).mono ?_; rintro e w1 ⟨rfl, b1⟩))
    have HB1 : Hid (Below w.heap.size w w1) := b1
    clear b1
    go_loop [4] (fun i => ∃ k : Nat, k ≤ r.size ∧ i = .int .i64 k) (fun i => r.size - (intOf i).toNat)
    case atStart => exact ⟨0, Nat.zero_le _, rfl⟩
    case round =>
      obtain ⟨k, hk, rfl⟩ := hrel
      by_cases hlt : k < r.size
      · have hup := HRN.out k hlt
        go_wp2_with (go_at_call 7; refine (isUp_any _ _).mono ?_; rintro e w' ⟨rfl, rfl⟩)
        go_round
        case rel => exact ⟨k + 1, by omega, by go_num⟩
        case measure => simp [intOf]; omega
      · go_wp2_with fail
        refine (HUR.out _).mono ?_
        rintro e w2 ⟨rfl, b2⟩
        have HB2 : Hid (Below w.heap.size w w2) := HB1.out.trans (b2.mono HB1.out.size)
        clear b2
        go_wp2_with fail
        refine (HUA.out _).mono ?_
        rintro e w3 ⟨rfl, b3⟩
        have HB3 : Hid (Below w.heap.size w w3) := HB2.out.trans (b3.mono HB2.out.size)
        clear b3
        go_wp2_with fail
        go_ret
        exact ⟨rfl, HB3.out⟩
  · go_enter Try.func3, Try.ntmps3
    go_wp2_with (go_at_call 5; refine (zz_no _ ha h _).mono ?_; rintro e w' ⟨rfl, rfl⟩)
    go_ret
    exact ⟨rfl, Below.refl _ _⟩
end Go.Proofs.Qxb6605284a.fold
