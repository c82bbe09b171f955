import Derived.Test.Qxb6605431aIn
namespace Go.Proofs.Qxb6605431a.cc
open Go.RowKit

def BytesP (w : World) (e : Ending) (w' : World) : Prop := (∃ b, e = .returned (.bool b)) ∧ w' = w

set_option maxRecDepth 100000 in
set_option maxHeartbeats 4000000 in
theorem bytes_any (ao : Option Addr) (n c : Nat) (C : List (List (List Int))) (w : World) (hI : In3 w (.slice ao n c) C) :
    Calls Try.prog 4 #[.slice ao n c] w (BytesP w) := by
  obtain ⟨ao', n', c', hv, hn, hnil, hmx, hcs⟩ := hI
  simp only [Value.slice.injEq] at hv
  obtain ⟨h1, h2, h3⟩ := hv
  subst h1; subst h2; subst h3
  have HN : Hid (C.length = n) := hn
  have HCS : Hid (C = [] ∨ ∃ b off, ao = some ⟨b, off, none⟩ ∧ ∀ j, j < C.length → ∃ tv, w.cell? ⟨b, off + j, none⟩ = some tv ∧ In2 w tv (C.getD j [])) := hcs
  unfold maxLen at hmx
  clear hn hnil hcs
  by_cases hbig : n ≤ 1048576
  · have hbi : ¬ (1048576 : Int) < (n : Int) := by omega
    go_enter Try.func4, Try.ntmps4
    go_wp2_with fail
    go_loop [3, 4] (fun s i => ∃ (p : Nat) (z : Int), p ≤ n ∧ 0 ≤ z ∧ z ≤ 1048576 ∧ s = .int .i64 z ∧ i = .int .i64 p) (fun _ i => n - (intOf i).toNat)
    case atStart => exact ⟨0, _, Nat.zero_le _, by omega, by omega, rfl, rfl⟩
    case round =>
      obtain ⟨p, z, hp, hz0, hz1, rfl, rfl⟩ := hrel
      by_cases hlt : p < n
      · have hpi : (p : Int) < (n : Int) := by omega
        rcases HCS.out with hcs | ⟨b, off, e, hcs⟩
        · have := HN.out
          rw [hcs] at this
          simp at this
          omega
        · subst e
          obtain ⟨tv, hc, hT⟩ := hcs p (by rw [HN.out]; exact hlt)
          clear hcs
          generalize C.getD p [] = ll at hT
          obtain ⟨a2, n2, c2, hv2, hn2, hnil2, hmx2, hcs2⟩ := hT
          subst hv2
          have HN2 : Hid (ll.length = n2) := hn2
          have HCS2 : Hid (ll = [] ∨ ∃ b off, a2 = some ⟨b, off, none⟩ ∧ ∀ j, j < ll.length → ∃ tv, w.cell? ⟨b, off + j, none⟩ = some tv ∧ In1 w tv (ll.getD j [])) := hcs2
          unfold maxLen at hmx2
          clear hn2 hnil2 hcs2
          by_cases h2 : n2 ≤ 1048576
          · have h2i : ¬ (1048576 : Int) < (n2 : Int) := by omega
            by_cases h3 : z + (n2 : Int) ≤ 1048576
            · go_wp2_with fail
              go_loop [3, 5] (fun s i => ∃ (k : Nat) (z : Int), k ≤ n2 ∧ 0 ≤ z ∧ z ≤ 1048576 ∧ s = .int .i64 z ∧ i = .int .i64 k) (fun _ i => n2 - (intOf i).toNat)
              case atStart => exact ⟨0, _, Nat.zero_le _, by omega, h3, rfl, rfl⟩
              case round =>
                obtain ⟨k, y, hk, hy0, hy1, rfl, rfl⟩ := hrel
                by_cases hlt2 : k < n2
                · have hki : (k : Int) < (n2 : Int) := by omega
                  rcases HCS2.out with hcs | ⟨b2, off2, e, hcs⟩
                  · have := HN2.out
                    rw [hcs] at this
                    simp at this
                    omega
                  · subst e
                    obtain ⟨tv, hc2, hT⟩ := hcs k (by rw [HN2.out]; exact hlt2)
                    clear hcs
                    obtain ⟨a3, n3, c3, hv3, _, _, _, _, hmx3⟩ := hT
                    subst hv3
                    unfold maxLen at hmx3
                    by_cases h4 : n3 ≤ 1048576
                    · by_cases h5 : y + (n3 : Int) ≤ 1048576
                      · go_wp2_with fail
                        go_round
                        case rel => exact ⟨k + 1, _, by omega, by omega, h5, rfl, by go_num⟩
                        case measure => simp [intOf]; omega
                      · go_wp2_with fail
                        go_ret
                        exact ⟨⟨_, rfl⟩, rfl⟩
                    · go_wp2_with fail
                      go_ret
                      exact ⟨⟨_, rfl⟩, rfl⟩
                · go_wp2_with fail
                  go_round
                  case rel => exact ⟨p + 1, _, by omega, hy0, hy1, rfl, by go_num⟩
                  case measure => simp [intOf]; omega
            · go_wp2_with fail
              go_ret
              exact ⟨⟨_, rfl⟩, rfl⟩
          · go_wp2_with fail
            go_ret
            exact ⟨⟨_, rfl⟩, rfl⟩
      · go_wp2_with fail
        go_ret
        exact ⟨⟨_, rfl⟩, rfl⟩
  · have hbi : (1048576 : Int) < (n : Int) := by omega
    go_enter Try.func4, Try.ntmps4
    go_wp2_with fail
    go_ret
    exact ⟨⟨_, rfl⟩, rfl⟩
end Go.Proofs.Qxb6605431a.cc
