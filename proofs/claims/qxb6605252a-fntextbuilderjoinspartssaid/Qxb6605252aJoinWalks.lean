import Derived.Test.Qxb6605252aAddLaw
namespace Go.Proofs.Qxb6605252a.join
open Go.RowKit Go.Proofs.Qxb6605252a.bs Go.Proofs.Qxb6605252a.add

theorem Try.info9 : (Try.prog.info? 9).map (fun i => (i.zero, i.size, i.bytes)) = some (some (.string ByteArray.empty), 1, 16) := by kernel_rfl

/-- The strings L lie behind ao. -/
def SegS (w : World) (ao : Option Addr) (L : List ByteArray) : Prop :=
  L = [] ∨ ∃ b off, ao = some ⟨b, off, none⟩ ∧ ∀ j, j < L.length → w.cell? ⟨b, off + j, none⟩ = some (.string (L.getD j ByteArray.empty))

def ZZP (n : Nat) (L : List ByteArray) (w : World) (e : Ending) (w' : World) : Prop :=
  ∃ b, e = .returned (.bool b) ∧ w = w' ∧ (b = true → ∀ j, j < n → (L.getD j ByteArray.empty).size ≤ 1048576)

theorem zz_any (ao : Option Addr) (n cap : Nat) (L : List ByteArray) (w : World) (hl : L.length = n) (_hn : n ≤ maxLen) (hs : SegS w ao L) (hm : ∀ j, (L.getD j ByteArray.empty).size ≤ maxLen) :
    Calls Try.prog 9 #[.slice ao n cap] w (ZZP n L w) := by
  unfold maxLen at _hn
  have HS : Hid (SegS w ao L) := hs
  have HL : Hid (L.length = n) := hl
  have HM : Hid (∀ j, (L.getD j ByteArray.empty).size ≤ maxLen) := hm
  clear hs hl hm
  by_cases hb : n ≤ 1048576
  · go_enter Try.func9, Try.ntmps9
    go_wp2
    go_loop [3, 4] (fun z i => ∃ (t : Int) (k : Nat), 0 ≤ t ∧ t ≤ 1048576 ∧ k ≤ n ∧ z = .int .i64 t ∧ i = .int .i64 k ∧ Hid (∀ j, j < k → (L.getD j ByteArray.empty).size ≤ 1048576)) (fun _ i => n - (intOf i).toNat)
    case atStart => exact ⟨_, 0, by omega, by omega, Nat.zero_le _, rfl, rfl, fun j h => absurd h (by omega)⟩
    case round =>
      obtain ⟨t, k, ht0, ht1, hk, rfl, rfl, HE⟩ := hrel
      by_cases hlt : k < n
      · obtain ⟨b, off, hab, hcl⟩ : ∃ b off, ao = some ⟨b, off, none⟩ ∧ ∀ j, j < L.length → w.cell? ⟨b, off + j, none⟩ = some (.string (L.getD j ByteArray.empty)) := by
          rcases HS.out with h | h
          · have := HL.out; rw [h] at this; simp at this; omega
          · exact h
        subst hab
        have hck := hcl k (by have := HL.out; omega)
        have hkm := HM.out k
        have HE2 : Hid ((L.getD k ByteArray.empty).size ≤ 1048576 → ∀ j, j < k + 1 → (L.getD j ByteArray.empty).size ≤ 1048576) := by
          intro h j hj
          by_cases e : j = k
          · subst e; exact h
          · exact HE.out j (by omega)
        clear hcl
        generalize L.getD k ByteArray.empty = x at *
        unfold maxLen at hkm
        have hki : (k : Int) < (n : Int) := by omega
        by_cases hx : x.size ≤ 1048576
        · by_cases hx2 : t + x.size ≤ 1048576
          · go_wp2
            go_round
            case rel => exact ⟨_, k + 1, by omega, hx2, by omega, rfl, by go_num, HE2.out hx⟩
            case measure => simp [intOf]; omega
          · go_wp2
            go_ret
            exact ⟨false, rfl, rfl, by simp⟩
        · go_wp2
          go_ret
          exact ⟨false, rfl, rfl, by simp⟩
      · go_wp2
        go_ret
        exact ⟨true, rfl, rfl, fun _ j hj => HE.out j (by omega)⟩
  · go_enter Try.func9, Try.ntmps9
    go_wp2
    go_ret
    exact ⟨false, rfl, rfl, by simp⟩
end Go.Proofs.Qxb6605252a.join
