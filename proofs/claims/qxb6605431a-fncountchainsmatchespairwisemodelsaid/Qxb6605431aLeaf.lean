import Derived.Test.Qxb6605431aRows
import Derived.Test.Qxb6605431aPlain
import Derived.WalkKit
import Derived.WalkLawsBesides
import Derived.WalkSpells
import Derived.OpenShut
import Derived.Deep.QuietTactic
import Derived.BigQuiet
namespace Go.Proofs.Qxb6605431a.cc
open Go.RowKit

theorem ret_int {k : IntKind} {a b : Int} (h : a = b) : Ending.returned (.int k a) = .returned (.int k b) := by rw [h]
theorem ret_bool {a b : Bool} (h : a = b) : Ending.returned (.bool a) = .returned (.bool b) := by rw [h]

/-- The numbers l lie behind ao. -/
def Seg (w : World) (ao : Option Addr) (l : List Int) : Prop :=
  l = [] ∨ ∃ b off, ao = some ⟨b, off, none⟩ ∧ ∀ j, j < l.length → w.cell? ⟨b, off + j, none⟩ = some (.int .u64 (l.getD j 0))

theorem Seg.addr {w : World} {ao : Option Addr} {l : List Int} (h : Seg w ao l) (hl : 0 < l.length) : ∃ b off, ao = some ⟨b, off, none⟩ ∧ ∀ j, j < l.length → w.cell? ⟨b, off + j, none⟩ = some (.int .u64 (l.getD j 0)) := by
  rcases h with h | h
  · subst h; simp at hl
  · exact h

theorem entry_any (ao : Option Addr) (n c : Nat) (l : List Int) (k : Nat) (w : World) (hl : l.length = n) (_hn : n ≤ 1048576) (hs : Seg w ao l) :
    Calls Try.prog 12 #[.slice ao n c, .int .i64 k] w fun e w' => e = .returned (.int .u64 (l.getD k 0)) ∧ w = w' := by
  have hd0 : decide ((k : Int) < 0) = false := decide_eq_false (by omega)
  by_cases hk : k < n
  · obtain ⟨b, off, rfl, hc⟩ := hs.addr (by omega)
    have hck := hc k (by omega)
    generalize l.getD k 0 = x at *
    clear hc hs hl
    have hki : (k : Int) < (n : Int) := by omega
    go_enter Try.func12, Try.ntmps12
    go_wp2
    go_ret
    exact ⟨rfl, rfl⟩
  · rw [getD_out l k (by omega)]
    clear hs hl
    go_enter Try.func12, Try.ntmps12
    go_wp2
    go_ret
    exact ⟨rfl, rfl⟩

theorem leq_any (aa : Option Addr) (na ca : Nat) (la : List Int) (ab : Option Addr) (nb cb : Nat) (lb : List Int) (w : World) (ha : la.length = na) (hb : lb.length = nb) (hna : na ≤ 1048576) (hnb : nb ≤ 1048576) (sa : Seg w aa la) (sb : Seg w ab lb) :
    Calls Try.prog 10 #[.slice aa na ca, .slice ab nb cb] w fun e w' => e = .returned (.bool (leqB la lb)) ∧ w = w' := by
  have HEA : Hid (∀ k : Nat, Calls Try.prog 12 #[.slice aa na ca, .int .i64 k] w fun e w' => e = .returned (.int .u64 (la.getD k 0)) ∧ w = w') := fun k => entry_any aa na ca la k w ha hna sa
  have HEB : Hid (∀ k : Nat, Calls Try.prog 12 #[.slice ab nb cb, .int .i64 k] w fun e w' => e = .returned (.int .u64 (lb.getD k 0)) ∧ w = w') := fun k => entry_any ab nb cb lb k w hb hnb sb
  have HA : Hid (la.length = na) := ha
  have HB : Hid (lb.length = nb) := hb
  clear ha hb sa sb
  obtain ⟨m, hm⟩ : ∃ m, m = max na nb := ⟨_, rfl⟩
  have m1 : na ≤ m := by omega
  have m2 : nb ≤ m := by omega
  have m3 : m ≤ 1048576 := by omega
  by_cases hab : na < nb
  · have e : nb = m := by omega
    clear hm
    subst e
    go_enter Try.func10, Try.ntmps10
    go_wp2
    go_loop [6] (fun i => ∃ k : Nat, k ≤ nb ∧ i = .int .i64 k ∧ Hid (∀ j, j < k → la.getD j 0 ≤ lb.getD j 0)) (fun i => nb - (intOf i).toNat)
    case atStart => exact ⟨0, Nat.zero_le _, rfl, fun j h => absurd h (by omega)⟩
    case round =>
      obtain ⟨k, hk, rfl, HE⟩ := hrel
      by_cases hlt : k < nb
      · have HX : Hid (la.getD k 0 ≤ lb.getD k 0 → ∀ j, j < k + 1 → la.getD j 0 ≤ lb.getD j 0) := by
          intro h j hj
          by_cases e : j = k
          · subst e; exact h
          · exact HE.out j (by omega)
        have HY : Hid (lb.getD k 0 < la.getD k 0 → leqB la lb = false) := leqB_bad la lb k
        have c1 := HEA.out k
        have c2 := HEB.out k
        generalize la.getD k 0 = x at *
        generalize lb.getD k 0 = y at *
        have C1 : Hid (Calls Try.prog 12 #[.slice aa na ca, .int .i64 k] w fun e w' => e = .returned (.int .u64 x) ∧ w = w') := c1
        have C2 : Hid (Calls Try.prog 12 #[.slice ab nb cb, .int .i64 k] w fun e w' => e = .returned (.int .u64 y) ∧ w = w') := c2
        clear c1 c2
        by_cases hxy : x ≤ y
        · go_wp2_with fail
          refine C1.out.mono ?_
          rintro e w' ⟨rfl, rfl⟩
          go_wp2_with fail
          refine C2.out.mono ?_
          rintro e w' ⟨rfl, rfl⟩
          go_wp2_with fail
          go_round
          case rel => exact ⟨k + 1, by omega, by go_num, HX.out hxy⟩
          case measure => simp [intOf]; omega
        · have HF : Hid (leqB la lb = false) := HY.out (by omega)
          go_wp2_with fail
          refine C1.out.mono ?_
          rintro e w' ⟨rfl, rfl⟩
          go_wp2_with fail
          refine C2.out.mono ?_
          rintro e w' ⟨rfl, rfl⟩
          go_wp2_with fail
          go_ret
          exact ⟨ret_bool HF.out.symm, rfl⟩
      · have HF : Hid (leqB la lb = true) := (leqB_iff la lb).2 fun i => by
          by_cases hi : i < nb
          · exact HE.out i (by omega)
          · rw [getD_out la i (by rw [HA.out]; omega), getD_out lb i (by rw [HB.out]; omega)]
            exact Int.le_refl _
        go_wp2_with fail
        go_ret
        exact ⟨ret_bool HF.out.symm, rfl⟩
  · have e : na = m := by omega
    clear hm
    subst e
    go_enter Try.func10, Try.ntmps10
    go_wp2
    go_loop [6] (fun i => ∃ k : Nat, k ≤ na ∧ i = .int .i64 k ∧ Hid (∀ j, j < k → la.getD j 0 ≤ lb.getD j 0)) (fun i => na - (intOf i).toNat)
    case atStart => exact ⟨0, Nat.zero_le _, rfl, fun j h => absurd h (by omega)⟩
    case round =>
      obtain ⟨k, hk, rfl, HE⟩ := hrel
      by_cases hlt : k < na
      · have HX : Hid (la.getD k 0 ≤ lb.getD k 0 → ∀ j, j < k + 1 → la.getD j 0 ≤ lb.getD j 0) := by
          intro h j hj
          by_cases e : j = k
          · subst e; exact h
          · exact HE.out j (by omega)
        have HY : Hid (lb.getD k 0 < la.getD k 0 → leqB la lb = false) := leqB_bad la lb k
        have c1 := HEA.out k
        have c2 := HEB.out k
        generalize la.getD k 0 = x at *
        generalize lb.getD k 0 = y at *
        have C1 : Hid (Calls Try.prog 12 #[.slice aa na ca, .int .i64 k] w fun e w' => e = .returned (.int .u64 x) ∧ w = w') := c1
        have C2 : Hid (Calls Try.prog 12 #[.slice ab nb cb, .int .i64 k] w fun e w' => e = .returned (.int .u64 y) ∧ w = w') := c2
        clear c1 c2
        by_cases hxy : x ≤ y
        · go_wp2_with fail
          refine C1.out.mono ?_
          rintro e w' ⟨rfl, rfl⟩
          go_wp2_with fail
          refine C2.out.mono ?_
          rintro e w' ⟨rfl, rfl⟩
          go_wp2_with fail
          go_round
          case rel => exact ⟨k + 1, by omega, by go_num, HX.out hxy⟩
          case measure => simp [intOf]; omega
        · have HF : Hid (leqB la lb = false) := HY.out (by omega)
          go_wp2_with fail
          refine C1.out.mono ?_
          rintro e w' ⟨rfl, rfl⟩
          go_wp2_with fail
          refine C2.out.mono ?_
          rintro e w' ⟨rfl, rfl⟩
          go_wp2_with fail
          go_ret
          exact ⟨ret_bool HF.out.symm, rfl⟩
      · have HF : Hid (leqB la lb = true) := (leqB_iff la lb).2 fun i => by
          by_cases hi : i < na
          · exact HE.out i (by omega)
          · rw [getD_out la i (by rw [HA.out]; omega), getD_out lb i (by rw [HB.out]; omega)]
            exact Int.le_refl _
        go_wp2_with fail
        go_ret
        exact ⟨ret_bool HF.out.symm, rfl⟩

theorem before_any (aa : Option Addr) (na ca : Nat) (la : List Int) (ab : Option Addr) (nb cb : Nat) (lb : List Int) (w : World) (ha : la.length = na) (hb : lb.length = nb) (hna : na ≤ 1048576) (hnb : nb ≤ 1048576) (sa : Seg w aa la) (sb : Seg w ab lb) :
    Calls Try.prog 5 #[.slice aa na ca, .slice ab nb cb] w fun e w' => e = .returned (.bool (befB la lb)) ∧ w = w' := by
  have C1 : Hid (Calls Try.prog 10 #[.slice aa na ca, .slice ab nb cb] w fun e w' => e = .returned (.bool (leqB la lb)) ∧ w = w') := leq_any aa na ca la ab nb cb lb w ha hb hna hnb sa sb
  have C2 : Hid (Calls Try.prog 10 #[.slice ab nb cb, .slice aa na ca] w fun e w' => e = .returned (.bool (leqB lb la)) ∧ w = w') := leq_any ab nb cb lb aa na ca la w hb ha hnb hna sb sa
  clear ha hb sa sb
  unfold befB
  generalize leqB la lb = x at *
  generalize leqB lb la = y at *
  cases x
  · go_enter Try.func5, Try.ntmps5
    go_wp2_with fail
    refine C1.out.mono ?_
    rintro e w' ⟨rfl, rfl⟩
    go_wp2_with fail
    go_ret
    exact ⟨rfl, rfl⟩
  · go_enter Try.func5, Try.ntmps5
    go_wp2_with fail
    refine C1.out.mono ?_
    rintro e w' ⟨rfl, rfl⟩
    go_wp2_with fail
    refine C2.out.mono ?_
    rintro e w' ⟨rfl, rfl⟩
    go_wp2_with fail
    go_ret
    exact ⟨rfl, rfl⟩

theorem nz_any (ao : Option Addr) (n c : Nat) (l : List Int) (w : World) (hl : l.length = n) (_hn : n ≤ 1048576) (hs : Seg w ao l) :
    Calls Try.prog 16 #[.slice ao n c] w fun e w' => e = .returned (.bool (nzB l)) ∧ w = w' := by
  have HS : Hid (Seg w ao l) := hs
  have HL : Hid (l.length = n) := hl
  clear hs hl
  go_enter Try.func16, Try.ntmps16
  go_wp2
  go_loop [7] (fun i => ∃ k : Nat, k ≤ n ∧ i = .int .i64 k ∧ Hid (∀ j, j < k → l.getD j 0 = 0)) (fun i => n - (intOf i).toNat)
  case atStart => exact ⟨0, Nat.zero_le _, rfl, fun j h => absurd h (by omega)⟩
  case round =>
    obtain ⟨k, hk, rfl, HE⟩ := hrel
    by_cases hlt : k < n
    · obtain ⟨b, off, hao, hc⟩ := HS.out.addr (by have := HL.out; omega)
      subst hao
      have hck := hc k (by have := HL.out; omega)
      have HX : Hid (l.getD k 0 = 0 → ∀ j, j < k + 1 → l.getD j 0 = 0) := by
        intro h j hj
        by_cases e : j = k
        · subst e; exact h
        · exact HE.out j (by omega)
      have HY : Hid (l.getD k 0 ≠ 0 → nzB l = true) := nzB_true l k (by have := HL.out; omega)
      generalize l.getD k 0 = x at *
      clear hc
      have hki : (k : Int) < (n : Int) := by omega
      by_cases hx : x = 0
      · have hne : (x != 0) = false := by simpa using hx
        have HZ : Hid (∀ j, j < k + 1 → l.getD j 0 = 0) := HX.out hx
        clear hx
        go_wp2
        go_round
        case rel => exact ⟨k + 1, by omega, by go_num, HZ⟩
        case measure => simp [intOf]; omega
      · have hne : (x != 0) = true := by simpa using hx
        have HZ : Hid (nzB l = true) := HY.out hx
        clear hx
        go_wp2
        go_ret
        exact ⟨ret_bool HZ.out.symm, rfl⟩
    · have HZ : Hid (nzB l = false) := nzB_false l (fun j hj => HE.out j (by have := HL.out; omega))
      go_wp2
      go_ret
      exact ⟨ret_bool HZ.out.symm, rfl⟩

theorem sumLess_any (h1 l1 h2 l2 : Int) (w : World) :
    Calls Try.prog 8 #[.int .u64 h1, .int .u64 l1, .int .u64 h2, .int .u64 l2] w fun e w' => e = .returned (.bool (decide (h1 < h2 ∨ h1 = h2 ∧ l1 < l2))) ∧ w = w' := by
  by_cases c1 : h1 < h2
  · rw [decide_eq_true (by omega)]
    go_enter Try.func8, Try.ntmps8
    go_wp2
    go_ret
    exact ⟨rfl, rfl⟩
  · have d1 : decide (h1 < h2) = false := decide_eq_false c1
    by_cases c2 : h1 = h2
    · subst c2
      by_cases c3 : l1 < l2
      · rw [decide_eq_true (by omega)]
        go_enter Try.func8, Try.ntmps8
        go_wp2
        go_ret
        exact ⟨rfl, rfl⟩
      · rw [decide_eq_false (by omega)]
        have d3 : decide (l1 < l2) = false := decide_eq_false c3
        go_enter Try.func8, Try.ntmps8
        go_wp2
        go_ret
        exact ⟨rfl, rfl⟩
    · rw [decide_eq_false (by omega)]
      have d2 : (h1 == h2) = false := by simpa using c2
      go_enter Try.func8, Try.ntmps8
      go_wp2
      go_ret
      exact ⟨rfl, rfl⟩

theorem sum_any (ao : Option Addr) (n c : Nat) (l : List Int) (w : World) (hl : l.length = n) (_hn : n ≤ 1048576) (hu : U64 l) (hs : Seg w ao l) :
    Calls Try.prog 7 #[.slice ao n c] w fun e w' => e = .returned (.tuple #[.int .u64 (sumZ l / 18446744073709551616), .int .u64 (sumZ l % 18446744073709551616)]) ∧ w = w' := by
  have HS : Hid (Seg w ao l) := hs
  have HL : Hid (l.length = n) := hl
  have HU : Hid (U64 l) := hu
  clear hs hl hu
  go_enter Try.func7, Try.ntmps7
  go_wp2
  go_loop [4, 5, 10] (fun h lo i => ∃ (k : Nat) (hz lz : Int), k ≤ n ∧ h = .int .u64 hz ∧ lo = .int .u64 lz ∧ i = .int .i64 k ∧ 0 ≤ hz ∧ hz ≤ k ∧ 0 ≤ lz ∧ lz ≤ 18446744073709551615 ∧ Hid (sumZ (l.take k) = hz * 18446744073709551616 + lz)) (fun _ _ i => n - (intOf i).toNat)
  case atStart => exact ⟨0, 0, 0, Nat.zero_le _, rfl, rfl, rfl, by omega, by omega, by omega, by omega, rfl⟩
  case round =>
    obtain ⟨k, hz, lz, hk, rfl, rfl, rfl, b1, b2, b3, b4, HE⟩ := hrel
    by_cases hlt : k < n
    · obtain ⟨b, off, hao, hc⟩ := HS.out.addr (by have := HL.out; omega)
      subst hao
      have hck := hc k (by have := HL.out; omega)
      have HX : Hid (sumZ (l.take (k + 1)) = sumZ (l.take k) + l.getD k 0) := by
        rw [Hid, take_snoc l k (by have := HL.out; omega), sumZ_snoc]
      have hxb := HU.out k
      generalize l.getD k 0 = x at *
      obtain ⟨x0, x1⟩ := hxb
      clear hc
      have hki : (k : Int) < (n : Int) := by omega
      by_cases hw : lz + x ≤ 18446744073709551615
      · go_wp2
        go_round
        case rel => exact ⟨k + 1, hz, lz + x, by omega, rfl, rfl, by go_num, b1, by omega, by omega, hw, by rw [Hid, HX.out, HE.out]; omega⟩
        case measure => simp [intOf]; omega
      · obtain ⟨y, hy⟩ : ∃ y, IntKind.u64.wrap (lz + x) = y := ⟨_, rfl⟩
        have hy2 : y = lz + x - 18446744073709551616 := by rw [← hy, IntKind.wrap_u64]; omega
        have y1 : y < x := by omega
        have y2 : 0 ≤ y := by omega
        have HY2 : Hid (y = lz + x - 18446744073709551616) := hy2
        clear hy2
        go_wp2
        go_round
        case rel => exact ⟨k + 1, hz + 1, y, by omega, rfl, rfl, by go_num, by omega, by omega, y2, by omega, by rw [Hid, HX.out, HE.out, HY2.out]; omega⟩
        case measure => simp [intOf]; omega
    · have HF : Hid (l.take k = l) := List.take_of_length_le (by have := HL.out; omega)
      go_wp2
      go_ret2
      refine ⟨?_, rfl⟩
      have e1 : sumZ l = hz * 18446744073709551616 + lz := by rw [← HE.out, HF.out]
      have e2 : sumZ l / 18446744073709551616 = hz := by rw [e1]; omega
      have e3 : sumZ l % 18446744073709551616 = lz := by rw [e1]; omega
      rw [e2, e3]
      rfl

/-- A cut of the numbers: from lo on. -/
theorem Seg.from {w : World} {b off : Nat} {l : List Int} (h : ∀ j, j < l.length → w.cell? ⟨b, off + j, none⟩ = some (.int .u64 (l.getD j 0))) (lo : Nat) {ao : Option Addr} (hao : lo < l.length → ao = some ⟨b, off + lo, none⟩) : Seg w ao (l.drop lo) := by
  by_cases hc : lo < l.length
  · refine .inr ⟨b, off + lo, hao hc, fun j hj => ?_⟩
    rw [List.length_drop] at hj
    rw [Nat.add_assoc, h (lo + j) (by omega), getD_drop]
  · exact .inl (List.drop_of_length_le (by omega))

/-- What a slice is, as the walks below take it: nil, or an address with room. -/
def Shp (ao : Option Addr) (n c : Nat) : Prop := (ao = none ∧ n = 0 ∧ c = 0) ∨ ∃ b off, ao = some ⟨b, off, none⟩ ∧ n ≤ c

theorem Seg.cells {w : World} {b off : Nat} {l : List Int} (h : Seg w (some ⟨b, off, none⟩) l) : ∀ j, j < l.length → w.cell? ⟨b, off + j, none⟩ = some (.int .u64 (l.getD j 0)) := by
  rcases h with h | ⟨b', o', e, h⟩
  · subst h; intro j hj; simp at hj
  · cases e; exact h

theorem Seg.nilD {w : World} {l : List Int} (h : Seg w none l) : l = [] := by
  rcases h with h | ⟨_, _, e, _⟩
  · exact h
  · cases e

/-- The slice 's[k:]', whatever the slice: what the walk makes of it. -/
theorem Seg.tail {w : World} {ao : Option Addr} {n c : Nat} {l : List Int} (hs : Seg w ao l) (hsh : Shp ao n c) (hl : l.length = n) (k : Nat) (ao' : Option Addr) (hao : ∀ b off, ao = some ⟨b, off, none⟩ → ¬ c = k → ao' = some ⟨b, off + k, none⟩) : Seg w ao' (l.drop k) := by
  rcases hsh with ⟨rfl, rfl, rfl⟩ | ⟨b, off, rfl, hn⟩
  · rw [hs.nilD]; exact .inl (by simp)
  · exact Seg.from hs.cells k (fun hk => hao b off rfl (by omega))

theorem exceeds_some (ba oa na ca : Nat) (la : List Int) (bb ob nb cb : Nat) (lb : List Int) (w : World) (ha : la.length = na) (hb : lb.length = nb) (_hna : na ≤ 1048576) (_hnb : nb ≤ 1048576) (_hca : na ≤ ca) (_hcb : nb ≤ cb) (ua : Nn la) (ub : Nn lb)
    (sa : ∀ j, j < la.length → w.cell? ⟨ba, oa + j, none⟩ = some (.int .u64 (la.getD j 0))) (sb : ∀ j, j < lb.length → w.cell? ⟨bb, ob + j, none⟩ = some (.int .u64 (lb.getD j 0))) :
    Calls Try.prog 15 #[.slice (some ⟨ba, oa, none⟩) na ca, .slice (some ⟨bb, ob, none⟩) nb cb] w fun e w' => e = .returned (.bool (!leqB la lb)) ∧ w = w' := by
  have HA : Hid (la.length = na) := ha
  have HB : Hid (lb.length = nb) := hb
  have SA : Hid (∀ j, j < la.length → w.cell? ⟨ba, oa + j, none⟩ = some (.int .u64 (la.getD j 0))) := sa
  have SB : Hid (∀ j, j < lb.length → w.cell? ⟨bb, ob + j, none⟩ = some (.int .u64 (lb.getD j 0))) := sb
  obtain ⟨m, hm⟩ : ∃ m, m = min na nb := ⟨_, rfl⟩
  have HM : Hid (m = min la.length lb.length) := by rw [Hid, ha, hb]; exact hm
  have HUA : Hid (Nn la) := ua
  have HUB : Hid (Nn lb) := ub
  have m1 : m ≤ na := by omega
  have m2 : m ≤ nb := by omega
  have hmn : ∀ w, (Builtin.min_ #[3, 3] 3 #[.int .i64 (na : Int), .int .i64 (nb : Int)]).run Try.prog w = .ok (.int .i64 (m : Int)) w := by
    intro w
    rw [run_min_int2]
    split
    · rw [show (nb : Int) = (m : Int) by omega]
    · rw [show (na : Int) = (m : Int) by omega]
  clear ha hb sa sb ua ub hm
  go_enter Try.func15, Try.ntmps15
  go_wp2
  go_loop [22] (fun i => ∃ k : Nat, k ≤ m ∧ i = .int .i64 k ∧ Hid (∀ j, j < k → la.getD j 0 ≤ lb.getD j 0)) (fun i => m - (intOf i).toNat)
  case atStart => exact ⟨0, Nat.zero_le _, rfl, fun j h => absurd h (by omega)⟩
  case round =>
    obtain ⟨k, hk, rfl, HE⟩ := hrel
    by_cases hlt : k < m
    · have c1 := SA.out k (by have := HA.out; omega)
      have c2 := SB.out k (by have := HB.out; omega)
      have HX : Hid (la.getD k 0 ≤ lb.getD k 0 → ∀ j, j < k + 1 → la.getD j 0 ≤ lb.getD j 0) := by
        intro h j hj
        by_cases e : j = k
        · subst e; exact h
        · exact HE.out j (by omega)
      have HY : Hid (lb.getD k 0 < la.getD k 0 → leqB la lb = false) := leqB_bad la lb k
      generalize la.getD k 0 = x at *
      generalize lb.getD k 0 = y at *
      have hki : (k : Int) < (m : Int) := by omega
      by_cases hxy : x ≤ y
      · go_wp2
        go_round
        case rel => exact ⟨k + 1, by omega, by go_num, HX.out hxy⟩
        case measure => simp [intOf]; omega
      · have HF : Hid (leqB la lb = false) := HY.out (by omega)
        go_wp2
        go_ret
        exact ⟨ret_bool (by rw [HF.out]; rfl), rfl⟩
    · have hkm : m = k := by omega
      subst hkm
      have HF : Hid (leqB la lb = !nzB (la.drop m)) := leq_of_exceeds la lb m HM.out HUB.out HE.out HUA.out
      have HZ : Hid (∀ ao, (m < la.length → ao = some ⟨ba, oa + m, none⟩) → ∀ c, Calls Try.prog 16 #[.slice ao (na - m) c] w fun e w' => e = .returned (.bool (nzB (la.drop m))) ∧ w = w') := by
        intro ao hao c
        exact nz_any ao (na - m) c (la.drop m) w (by rw [List.length_drop, HA.out]) (by omega) (Seg.from SA.out m hao)
      have hL : la.length ≤ na := by have := HA.out; omega
      by_cases hcm : ca = m
      · go_wp2_with (go_at_call 16; refine (HZ.out _ (fun h => absurd h (by omega)) _).mono ?_; rintro e w' ⟨rfl, rfl⟩)
        go_ret
        exact ⟨ret_bool (by rw [HF.out]; simp), rfl⟩
      · go_wp2_with (go_at_call 16; refine (HZ.out _ (fun _ => rfl) _).mono ?_; rintro e w' ⟨rfl, rfl⟩)
        go_ret
        exact ⟨ret_bool (by rw [HF.out]; simp), rfl⟩
end Go.Proofs.Qxb6605431a.cc
