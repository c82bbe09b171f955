import Derived.Test.Qxb6605252aJoinParts
namespace Go.Proofs.Qxb6605252a.join
open Go.RowKit Go.Proofs.Qxb6605252a.bs Go.Proofs.Qxb6605252a.add

/-- The copy of the strings, after k rounds. -/
def Cp (n : Nat) (L : List ByteArray) (w wr : World) (k : Nat) : Prop :=
  ∃ xs : List Value, wr.ownsRow w.heap.size 9 1 (.slice (some ⟨w.heap.size, 0, none⟩) n n) n xs ∧ (∀ j, j < k → xs[j]? = some (.string (L.getD j ByteArray.empty))) ∧ Below w.heap.size w wr

theorem Cp.cell {n : Nat} {L : List ByteArray} {w wr : World} {k : Nat} (h : Cp n L w wr k) (hk : k < n) : (∃ v, wr.cell? ⟨w.heap.size, k, none⟩ = some v) ∧ wr.frozen? ⟨w.heap.size, k, none⟩ = false := by
  obtain ⟨xs, hown, _, _⟩ := h
  refine ⟨?_, hown.frozenAt k⟩
  have hl := hown.1
  rw [hown.cellAt k (by omega)]
  exact ⟨_, List.getElem?_eq_getElem (by omega)⟩

theorem Cp.step {n : Nat} {L : List ByteArray} {w wr : World} {k : Nat} (h : Cp n L w wr k) (hk : k < n) {x : ByteArray} (hx : L.getD k ByteArray.empty = x) : Cp n L w (wr.setCell ⟨w.heap.size, k, none⟩ (.string x)) (k + 1) := by
  obtain ⟨xs, hown, hall, hb⟩ := h
  obtain ⟨ho, hg⟩ := hown.stored k (.string x)
  refine ⟨_, ho, ?_, hb.setCell (Nat.le_refl _) _⟩
  intro j hjk
  have hl := hown.1
  by_cases e : j = k
  · subst e
    rw [List.getElem?_set_self (by omega), hx]
  · rw [List.getElem?_set_ne (by omega)]
    exact hall j (by omega)

theorem Cp.done {n : Nat} {L : List ByteArray} {w wr : World} (h : Cp n L w wr n) : w.heap.size < wr.heap.size ∧ (∀ j, j < n → wr.cell? ⟨w.heap.size, j, none⟩ = some (.string (L.getD j ByteArray.empty))) ∧ Below w.heap.size w wr := by
  obtain ⟨xs, hown, hall, hb⟩ := h
  refine ⟨(hown.lt w.heap.size rfl).2, fun j hj => ?_, hb⟩
  rw [hown.cellAt j (by omega), hall j hj]

theorem join_in (b off spot : _) (n cap : Nat) (L : List ByteArray) (w : World) (hl : L.length = n) (hn : n ≤ 65536) (hspot : 0 < n → spot = none) (hcell : ∀ j, j < n → w.cell? ⟨b, off + j, none⟩ = some (.string (L.getD j ByteArray.empty)))
    (hm : ∀ j, (L.getD j ByteArray.empty).size ≤ maxLen) :
    Calls Try.prog 4 #[.slice (some ⟨b, off, spot⟩) n cap] w fun e w' => e = .returned (.bool true) ∧ Below w.heap.size w w' := by
  have HC : Hid (∀ j, j < n → w.cell? ⟨b, off + j, none⟩ = some (.string (L.getD j ByteArray.empty))) := hcell
  have HS : Hid (0 < n → spot = none) := hspot
  have HZ : Hid (Calls Try.prog 9 #[.slice (some ⟨b, off, spot⟩) n cap] w (ZZP n L w)) := by
    refine zz_any _ _ _ L w hl (by unfold maxLen; omega) ?_ hm
    by_cases h0 : n = 0
    · exact .inl (List.eq_nil_of_length_eq_zero (by omega))
    · rw [hspot (by omega)]
      exact .inr ⟨b, off, rfl, fun j hj => hcell j (by omega)⟩
  clear hl hspot hcell hm
  have hnq := fun w a n c => run_neq_slice_nil_any (P := Try.prog) w 27 9 a n c 0 0 Try.underlying27
  obtain ⟨i0, hi, hz0, hz1, hz2⟩ := info_parts Try.info9
  have hmx : n ≤ maxLen := by unfold maxLen; omega
  have hby : i0.bytes * n ≤ 281474976710656 := by rw [hz2]; omega
  go_enter Try.func4, Try.ntmps4
  go_wp2_with (go_at_call 9; refine HZ.out.mono ?_; rintro e w' ⟨bz, rfl, rfl, hbz⟩; cases bz)
  · go_ret
    exact ⟨rfl, Below.refl _ _⟩
  have HBZ : Hid (∀ j, j < n → (L.getD j ByteArray.empty).size ≤ 1048576) := hbz trivial
  clear hbz
  go_loop [3, 4] (fun t i => ∃ k : Nat, k ≤ n ∧ 16 * n + sumTo L k ≤ 1048576 ∧ t = .int .i64 ((16 * n + sumTo L k : Nat) : Int) ∧ i = .int .i64 k) (fun _ i => n - (intOf i).toNat)
  case atStart => exact ⟨0, Nat.zero_le _, by simp [sumTo]; omega, by simp [sumTo], rfl⟩
  case round =>
    obtain ⟨k, hk, hsum, rfl, rfl⟩ := hrel
    by_cases hlt : k < n
    · have hsp := HS.out (by omega)
      subst hsp
      have hck := HC.out k hlt
      have hkb := HBZ.out k hlt
      have HSU : Hid (sumTo L (k + 1) = sumTo L k + (L.getD k ByteArray.empty).size) := rfl
      generalize L.getD k ByteArray.empty = x at *
      generalize hT : 16 * n + sumTo L k = T at *
      have HT : Hid (16 * n + sumTo L k = T) := hT
      clear hT
      have hki : (k : Int) < (n : Int) := by omega
      by_cases hx : T + x.size ≤ 1048576
      · go_wp2
        go_round
        case rel => exact ⟨k + 1, by omega, by rw [HSU.out]; have := HT.out; omega, by rw [HSU.out, ← Nat.add_assoc, HT.out]; go_num, by go_num⟩
        case measure => simp [intOf]; omega
      · go_wp2
        go_ret
        exact ⟨rfl, Below.refl _ _⟩
    · have hkn : n = k := by omega
      subst hkn
      generalize hT : 16 * n + sumTo L n = T at *
      have HSUM : Hid (sumTo L n ≤ 1048576) := by show _ ≤ _; omega
      clear hT
      go_wp2_with (at_make; refine wpList_make_full _ rfl _ _ 27 rfl w.heap.size 9 i0 (.string ByteArray.empty) 1 Try.underlying27 hi hz0 hz1 _ _ _ _ n rfl rfl rfl rfl hby hmx (Nat.le_refl _) ?_; intro w1 hown hgrow)
      have HCP : Hid (Cp n L w w1 0) := ⟨_, hown, fun j h => absurd h (by omega), (Below.refl _ _).grown hgrow (Nat.le_refl _) (by simp)⟩
      clear hown hgrow hi hz0 hz1 hz2 hby hmx hk hlt
      go_loopw [6] (fun i wr => ∃ k : Nat, k ≤ n ∧ i = .int .i64 k ∧ Hid (Cp n L w wr k)) (fun i _ => n - (intOf i).toNat)
      case atStart => exact ⟨0, Nat.zero_le _, rfl, HCP⟩
      case round =>
        clear HCP
        obtain ⟨k, hk, rfl, HR⟩ := hrel
        by_cases hlt : k < n
        · have hsp := HS.out (by omega)
          subst hsp
          obtain ⟨⟨v, hv⟩, hf⟩ := HR.out.cell hlt
          have hblt : b < w.heap.size := by
            have h0 := HC.out k hlt
            unfold World.cell? at h0
            by_cases hb : b < w.heap.size
            · exact hb
            · have e : w.heap[b]? = none := by simp; omega
              simp only [e] at h0
              cases h0
          have hck : wr.cell? ⟨b, off + k, none⟩ = some (.string (L.getD k ByteArray.empty)) := by
            obtain ⟨_, _, _, hb⟩ := HR.out
            exact (hb.cell (p := ⟨b, off + k, none⟩) hblt).trans (HC.out k hlt)
          have hki : (k : Int) < (n : Int) := by omega
          have HX : Hid (∃ x, L.getD k ByteArray.empty = x) := ⟨_, rfl⟩
          generalize hx : L.getD k ByteArray.empty = x at *
          have HXX : Hid (L.getD k ByteArray.empty = x) := hx
          clear hx HX
          go_wp2
          go_roundw
          case rel => exact ⟨k + 1, by omega, by go_num, HR.out.step hlt HXX.out⟩
          case measure => simp [intOf]; omega
        · have hkn : n = k := by omega
          subst hkn
          obtain ⟨hw2, hc2, hb2⟩ := HR.out.done
          have HC2 : Hid (∀ j, j < n → wr.cell? ⟨w.heap.size, j, none⟩ = some (.string (L.getD j ByteArray.empty))) := hc2
          have HB2 : Hid (Below w.heap.size w wr) := hb2
          clear hc2 hb2 HR hk hlt
          obtain ⟨w2, hw2e⟩ : ∃ w2 : World, w2 = wr := ⟨_, rfl⟩
          subst hw2e
          go_wp2
          go_loopw [7, 8, 9, 10, 11, 12] (fun s b wn kp fi i wr => ∃ (k kept : Nat) (first : ByteArray) (cat : List UInt8) (ab : Option Addr) (nb cb : Nat) (lb : List UInt8) (aw : Option Addr) (nw cw : Nat), k ≤ n ∧ kept ≤ k ∧ s = .string first ∧ b = .slice ab nb cb ∧ wn = .slice aw nw cw ∧ kp = .int .i64 kept ∧ fi = .string first ∧ i = .int .i64 k ∧ first.size ≤ 1048576 ∧ Hid (Two w2.heap.size w2 wr ab nb cb lb aw nw cw cat) ∧ Hid (St kept first cat ab lb) ∧ Hid (cat.length = sumTo L k)) (fun _ _ _ _ _ i _ => n - (intOf i).toNat)
          case atStart => exact ⟨0, 0, ⟨#[]⟩, [], none, 0, 0, [], none, 0, 0, Nat.zero_le _, Nat.le_refl _, rfl, rfl, rfl, rfl, rfl, rfl, Nat.zero_le _, Two.start w2, St.start, rfl⟩
          case round =>
            obtain ⟨k, kept, first, cat, ab, nb, cb, lb, aw, nw, cw, hk, hkk, rfl, rfl, rfl, rfl, rfl, rfl, hfs, HT, HST, HCL⟩ := hrel
            have hq := fun w a n c => Go.Lib.run_eql_slice_nil (P := Try.prog) w 22 5 a n c 0 0 Try.underlying22
            have hnq2 := fun w a n c => run_neq_slice_nil_any (P := Try.prog) w 22 5 a n c 0 0 Try.underlying22
            have hnw : nw ≤ 1048576 := by
              have h1 := HT.out.two.len
              have h2 := HCL.out
              have h3 := sumTo_mono L hk
              have h4 := HSUM.out
              omega
            by_cases hlt : k < n
            · have hck : wr.cell? ⟨w.heap.size, k, none⟩ = some (.string (L.getD k ByteArray.empty)) := (HT.out.bel.cell (p := ⟨w.heap.size, k, none⟩) hw2).trans (HC2.out k hlt)
              have hkb := HBZ.out k hlt
              have HSU : Hid (sumTo L (k + 1) = sumTo L k + (L.getD k ByteArray.empty).size) := rfl
              have hki : (k : Int) < (n : Int) := by omega
              generalize L.getD k ByteArray.empty = x at *
              have hxl : x.data.toList.length = x.size := by simp
              cases hxe : x.toList.isEmpty
              · by_cases hk0 : kept = 0
                · subst hk0
                  have hse : first.toList.isEmpty = true := by rw [(HST.out.zero rfl).1, ByteArray.toList_eq]; rfl
                  have hab := HST.out.nil (by omega)
                  subst hab
                  obtain ⟨hnb0, hcb0⟩ : nb = 0 ∧ cb = 0 := by
                    rcases HT.out.one.row with ⟨_, h1, h2⟩ | ⟨g, h, _⟩
                    · exact ⟨h1, h2⟩
                    · cases h
                  subst hnb0; subst hcb0
                  go_wp2_with fail
                  refine (zadd_first _ _ _ hxe hse).mono ?_
                  rintro e w3 ⟨rfl, G3⟩
                  have T3 := HT.out.still G3
                  clear G3
                  go_wp2_with (at_builtin; refine wpList_app_str rfl (.tmp 75) (.tmp 76) 22 9 rfl Try.underlying22 Try.underlying9 Try.info5 _ _ _ rfl _ rfl cat T3.two (by omega) ?_; intro a4 n4 c4 w4 B4 G4 N4 E4)
                  have T4 : Hid (Two w2.heap.size w2 w4 none 0 0 lb a4 n4 c4 (cat ++ x.data.toList)) := (T3.swap.step B4 G4 N4).swap
                  clear T3 B4 G4 N4 E4
                  go_roundw
                  case rel => exact ⟨k + 1, 1, x, cat ++ x.data.toList, _, _, _, _, _, _, _, by omega, by omega, rfl, rfl, rfl, rfl, rfl, by go_num, hkb, T4, HST.out.first hxe, by rw [Hid, List.length_append, HCL.out, HSU.out, hxl]⟩
                  case measure => simp [intOf]; omega
                · by_cases hk1 : kept = 1
                  · subst hk1
                    have hse : first.toList.isEmpty = false := HST.out.pos (by omega)
                    have hab := HST.out.nil (by omega)
                    subst hab
                    obtain ⟨hnb0, hcb0⟩ : nb = 0 ∧ cb = 0 := by
                      rcases HT.out.one.row with ⟨_, h1, h2⟩ | ⟨g, h, _⟩
                      · exact ⟨h1, h2⟩
                      · cases h
                    subst hnb0; subst hcb0
                    go_wp2_with fail
                    refine (zadd_copy _ _ _ hxe hse (by omega)).mono ?_
                    rintro e w3 ⟨ab, nb, cb, rfl, B3, G3, N3, hne⟩
                    obtain ⟨y, rfl⟩ : ∃ y, ab = some y := by cases ab with | none => exact absurd rfl hne | some y => exact ⟨y, rfl⟩
                    have T3 := HT.out.step B3 G3 N3
                    clear B3 G3 N3 hne
                    go_wp2_with (at_builtin; refine wpList_app_str rfl (.tmp 75) (.tmp 76) 22 9 rfl Try.underlying22 Try.underlying9 Try.info5 _ _ _ rfl _ rfl cat T3.two (by omega) ?_; intro a4 n4 c4 w4 B4 G4 N4 E4)
                    have T4 : Hid (Two w2.heap.size w2 w4 (some y) nb cb (first.data.toList ++ x.data.toList) a4 n4 c4 (cat ++ x.data.toList)) := (T3.swap.step B4 G4 N4).swap
                    clear T3 B4 G4 N4 E4
                    go_roundw
                    case rel => exact ⟨k + 1, 2, first, cat ++ x.data.toList, _, _, _, _, _, _, _, by omega, by omega, rfl, rfl, rfl, rfl, rfl, by go_num, hfs, T4, HST.out.second, by rw [Hid, List.length_append, HCL.out, HSU.out, hxl]⟩
                    case measure => simp [intOf]; omega
                  · have hk2 : 2 ≤ kept := by omega
                    have hkz : ((kept : Int) == 0) = false := by rw [beq_eq_false_iff_ne]; omega
                    obtain ⟨g, hg⟩ : ∃ g, ab = some ⟨g, 0, none⟩ := by
                      rcases HT.out.one.row with ⟨h, _, _⟩ | ⟨g, h, _⟩
                      · exact absurd h (HST.out.set hk2).1
                      · exact ⟨g, h⟩
                    subst hg
                    have hnb : nb ≤ 1048576 := by
                      have h1 := HT.out.one.len
                      have h2 := HT.out.two.len
                      rw [(HST.out.set hk2).2] at h1
                      omega
                    go_wp2_with fail
                    refine (zadd_more _ _ _ _ lb _ _ hxe HT.out.one (by omega)).mono ?_
                    rintro e w3 ⟨ab, nb', cb', rfl, B3, G3, N3, hne⟩
                    obtain ⟨y, rfl⟩ : ∃ y, ab = some y := by cases ab with | none => exact absurd rfl hne | some y => exact ⟨y, rfl⟩
                    have T3 := HT.out.step B3 G3 N3
                    clear B3 G3 N3 hne
                    go_wp2_with (at_builtin; refine wpList_app_str rfl (.tmp 75) (.tmp 76) 22 9 rfl Try.underlying22 Try.underlying9 Try.info5 _ _ _ rfl _ rfl cat T3.two (by omega) ?_; intro a4 n4 c4 w4 B4 G4 N4 E4)
                    have T4 : Hid (Two w2.heap.size w2 w4 (some y) nb' cb' (lb ++ x.data.toList) a4 n4 c4 (cat ++ x.data.toList)) := (T3.swap.step B4 G4 N4).swap
                    clear T3 B4 G4 N4 E4
                    go_roundw
                    case rel => exact ⟨k + 1, kept + 1, first, cat ++ x.data.toList, _, _, _, _, _, _, _, by omega, by omega, rfl, rfl, rfl, by go_num, rfl, by go_num, hfs, T4, HST.out.more hk2, by rw [Hid, List.length_append, HCL.out, HSU.out, hxl]⟩
                    case measure => simp [intOf]; omega
              · by_cases hk1 : kept ≤ 1
                · have hab := HST.out.nil hk1
                  have hkd : decide ((kept : Int) ≤ 1) = true := decide_eq_true (by omega)
                  subst hab
                  obtain ⟨hnb0, hcb0⟩ : nb = 0 ∧ cb = 0 := by
                    rcases HT.out.one.row with ⟨_, h1, h2⟩ | ⟨g, h, _⟩
                    · exact ⟨h1, h2⟩
                    · cases h
                  subst hnb0; subst hcb0
                  go_wp2_with fail
                  refine (zadd_empty _ _ _ _ _ _ hxe).mono ?_
                  rintro e w3 ⟨rfl, G3⟩
                  have T3 := HT.out.still G3
                  clear G3
                  go_wp2_with (at_builtin; refine wpList_app_str rfl (.tmp 75) (.tmp 76) 22 9 rfl Try.underlying22 Try.underlying9 Try.info5 _ _ _ rfl _ rfl cat T3.two (by omega) ?_; intro a4 n4 c4 w4 B4 G4 N4 E4)
                  have T4 : Hid (Two w2.heap.size w2 w4 none 0 0 lb a4 n4 c4 (cat ++ x.data.toList)) := (T3.swap.step B4 G4 N4).swap
                  clear T3 B4 G4 N4 E4
                  go_roundw
                  case rel => exact ⟨k + 1, kept, first, cat ++ x.data.toList, _, _, _, _, _, _, _, by omega, by omega, rfl, rfl, rfl, rfl, rfl, by go_num, hfs, T4, HST.out.skip hxe, by rw [Hid, List.length_append, HCL.out, HSU.out, hxl]⟩
                  case measure => simp [intOf]; omega
                · have hk2 : 2 ≤ kept := by omega
                  obtain ⟨g, hg⟩ : ∃ g, ab = some ⟨g, 0, none⟩ := by
                    rcases HT.out.one.row with ⟨h, _, _⟩ | ⟨g, h, _⟩
                    · exact absurd h (HST.out.set hk2).1
                    · exact ⟨g, h⟩
                  subst hg
                  have hnb : nb ≤ 1048576 := by
                    have h1 := HT.out.one.len
                    have h2 := HT.out.two.len
                    rw [(HST.out.set hk2).2] at h1
                    omega
                  go_wp2_with fail
                  refine (zadd_empty _ _ _ _ _ _ hxe).mono ?_
                  rintro e w3 ⟨rfl, G3⟩
                  have T3 := HT.out.still G3
                  clear G3
                  go_wp2_with (at_builtin; refine wpList_app_str rfl (.tmp 75) (.tmp 76) 22 9 rfl Try.underlying22 Try.underlying9 Try.info5 _ _ _ rfl _ rfl cat T3.two (by omega) ?_; intro a4 n4 c4 w4 B4 G4 N4 E4)
                  have T4 : Hid (Two w2.heap.size w2 w4 (some ⟨g, 0, none⟩) nb cb lb a4 n4 c4 (cat ++ x.data.toList)) := (T3.swap.step B4 G4 N4).swap
                  clear T3 B4 G4 N4 E4
                  go_roundw
                  case rel => exact ⟨k + 1, kept, first, cat ++ x.data.toList, _, _, _, _, _, _, _, by omega, by omega, rfl, rfl, rfl, rfl, rfl, by go_num, hfs, T4, HST.out.skip hxe, by rw [Hid, List.length_append, HCL.out, HSU.out, hxl]⟩
                  case measure => simp [intOf]; omega
            · have hcvw := run_string_buf (P := Try.prog) wr 22 9 Try.underlying22 Try.underlying5 Try.underlying9 HT.out.two
              have HBF : Hid (Below w.heap.size w wr) := HB2.out.trans (HT.out.bel.mono HB2.out.size)
              by_cases hk1 : kept ≤ 1
              · have hab := HST.out.nil hk1
                subst hab
                obtain ⟨hnb0, hcb0⟩ : nb = 0 ∧ cb = 0 := by
                  rcases HT.out.one.row with ⟨_, h1, h2⟩ | ⟨g, h, _⟩
                  · exact ⟨h1, h2⟩
                  · cases h
                subst hnb0; subst hcb0
                have hgot := HST.out.got hk1
                generalize (⟨cat.toArray⟩ : ByteArray) = T at *
                go_wp2
                go_ret
                exact ⟨rfl, HBF.out⟩
              · have hk2 : 2 ≤ kept := by omega
                have hlb := (HST.out.set hk2).2
                obtain ⟨g, hg⟩ : ∃ g, ab = some ⟨g, 0, none⟩ := by
                  rcases HT.out.one.row with ⟨h, _, _⟩ | ⟨g, h, _⟩
                  · exact absurd h (HST.out.set hk2).1
                  · exact ⟨g, h⟩
                subst hg
                have hnb : nb ≤ 1048576 := by
                  have h1 := HT.out.one.len
                  have h2 := HT.out.two.len
                  rw [(HST.out.set hk2).2] at h1
                  omega
                have hcvb := run_string_buf (P := Try.prog) wr 22 9 Try.underlying22 Try.underlying5 Try.underlying9 HT.out.one
                rw [hlb] at hcvb
                clear hlb
                generalize (⟨cat.toArray⟩ : ByteArray) = T at *
                go_wp2
                go_ret
                exact ⟨rfl, HBF.out⟩

theorem join_nil (w : World) : Calls Try.prog 4 #[.slice none 0 0] w fun e w' => e = .returned (.bool true) ∧ Below w.heap.size w w' := by
  have HZ : Hid (Calls Try.prog 9 #[.slice none 0 0] w (ZZP 0 [] w)) := zz_any _ _ _ [] w rfl (by unfold maxLen; omega) (.inl rfl) (by simp)
  have hnq := fun w a n c => run_neq_slice_nil_any (P := Try.prog) w 27 9 a n c 0 0 Try.underlying27
  have hnq2 := fun w a n c => run_neq_slice_nil_any (P := Try.prog) w 22 5 a n c 0 0 Try.underlying22
  have hcvw := fun w => run_string_buf (P := Try.prog) w 22 9 Try.underlying22 Try.underlying5 Try.underlying9 (Buf.nil w)
  go_enter Try.func4, Try.ntmps4
  go_wp2_with (go_at_call 9; refine HZ.out.mono ?_; rintro e w' ⟨bz, rfl, rfl, hbz⟩; cases bz)
  · go_ret
    exact ⟨rfl, Below.refl _ _⟩
  clear hbz
  refine wp_loop_rounds 1 ?_; rw [rounds_succ]
  go_wp2
  refine wp_loop_rounds 1 ?_; rw [rounds_succ]
  go_wp2
  go_ret
  exact ⟨rfl, Below.refl _ _⟩
end Go.Proofs.Qxb6605252a.join
