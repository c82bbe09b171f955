import Derived.Test.Qxb6605233aRows
import Derived.WalkKit
import Derived.WalkLawsBesides
import Derived.OpenShut
namespace Go.Proofs.Qxb6605233a.words
open Go.RowKit

def wd (a0 a1 a2 a3 k : Int) : Int := if k = 0 then a0 else if k = 1 then a1 else if k = 2 then a2 else a3
def wc (a0 a1 a2 a3 : Int) : Int := if a3 ≠ 0 then 4 else if a2 ≠ 0 then 3 else if a1 ≠ 0 then 2 else if a0 ≠ 0 then 1 else 0

theorem wordOf_any (a0 a1 a2 a3 k : Int) (w : World) :
    Calls Try.prog 20 #[.int .u64 a0, .int .u64 a1, .int .u64 a2, .int .u64 a3, .int .i64 k] w fun e w' => e = .returned (.int .u64 (wd a0 a1 a2 a3 k)) ∧ w' = w := by
  unfold wd
  by_cases h0 : k = 0
  · subst h0
    go_enter Try.func20, Try.ntmps20
    go_wp2
    go_ret
    exact ⟨rfl, rfl⟩
  by_cases h1 : k = 1
  · subst h1
    go_enter Try.func20, Try.ntmps20
    go_wp2
    go_ret
    exact ⟨rfl, rfl⟩
  by_cases h2 : k = 2
  · subst h2
    go_enter Try.func20, Try.ntmps20
    go_wp2
    go_ret
    exact ⟨rfl, rfl⟩
  rw [if_neg h0, if_neg h1, if_neg h2]
  have e0 : (k == 0) = false := by simpa using h0
  have e1 : (k == 1) = false := by simpa using h1
  have e2 : (k == 2) = false := by simpa using h2
  go_enter Try.func20, Try.ntmps20
  go_wp2
  go_ret
  exact ⟨rfl, rfl⟩

theorem words_n (a0 a1 a2 a3 n : Int) (hn : wc a0 a1 a2 a3 = n) (w : World) :
    Calls Try.prog 7 #[.int .u64 a0, .int .u64 a1, .int .u64 a2, .int .u64 a3] w fun e w' => e = .returned (.int .i64 n) ∧ Grown w w' := by
  unfold wc at hn
  by_cases h3 : a3 = 0
  · rw [if_neg (by simpa using h3)] at hn
    by_cases h2 : a2 = 0
    · rw [if_neg (by simpa using h2)] at hn
      by_cases h1 : a1 = 0
      · rw [if_neg (by simpa using h1)] at hn
        by_cases h0 : a0 = 0
        · rw [if_neg (by simpa using h0)] at hn
          subst hn; subst h0; subst h1; subst h2; subst h3
          go_enter Try.func7, Try.ntmps7
          go_wp2
          go_ret
          exact ⟨rfl, by repeat (first | exact Grown.refl _ | apply Grown.drew | apply Grown.alloc)⟩
        · rw [if_pos h0] at hn
          subst hn; subst h1; subst h2; subst h3
          have b : (a0 != 0) = true := by simpa using h0
          clear h0
          go_enter Try.func7, Try.ntmps7
          go_wp2
          go_ret
          exact ⟨rfl, by repeat (first | exact Grown.refl _ | apply Grown.drew | apply Grown.alloc)⟩
      · rw [if_pos h1] at hn
        subst hn; subst h2; subst h3
        have b : (a1 != 0) = true := by simpa using h1
        clear h1
        go_enter Try.func7, Try.ntmps7
        go_wp2
        go_ret
        exact ⟨rfl, by repeat (first | exact Grown.refl _ | apply Grown.drew | apply Grown.alloc)⟩
    · rw [if_pos h2] at hn
      subst hn; subst h3
      have b : (a2 != 0) = true := by simpa using h2
      clear h2
      go_enter Try.func7, Try.ntmps7
      go_wp2
      go_ret
      exact ⟨rfl, by repeat (first | exact Grown.refl _ | apply Grown.drew | apply Grown.alloc)⟩
  · rw [if_pos h3] at hn
    subst hn
    have b : (a3 != 0) = true := by simpa using h3
    clear h3
    go_enter Try.func7, Try.ntmps7
    go_wp2
    go_ret
    exact ⟨rfl, by repeat (first | exact Grown.refl _ | apply Grown.drew | apply Grown.alloc)⟩

/-- The scan stands at bit k: word q is below 2^(k+1-64q). -/
def Inv (a0 a1 a2 a3 k : Int) : Prop := ∀ q : Int, 0 ≤ q → q ≤ 3 → wd a0 a1 a2 a3 q < 2 ^ (k + 1 - 64 * q).toNat

theorem wd_bd (a0 a1 a2 a3 k : Int) (w0 : (Lit.int .u64 a0).wf = true) (w1 : (Lit.int .u64 a1).wf = true) (w2 : (Lit.int .u64 a2).wf = true) (w3 : (Lit.int .u64 a3).wf = true) :
    0 ≤ wd a0 a1 a2 a3 k ∧ wd a0 a1 a2 a3 k < 18446744073709551616 := by
  have b0 := bounds_u64 w0
  have b1 := bounds_u64 w1
  have b2 := bounds_u64 w2
  have b3 := bounds_u64 w3
  unfold wd
  split
  · omega
  split
  · omega
  split <;> omega

theorem pow_ge (m : Nat) (h : 64 ≤ m) : (18446744073709551616 : Int) ≤ 2 ^ m := by
  have h1 : (2 : Nat) ^ 64 ≤ 2 ^ m := Nat.pow_le_pow_right (by omega) h
  have h2 : (((2 : Nat) ^ m : Nat) : Int) = (2 : Int) ^ m := by simp
  rw [← h2]
  have h3 : (2 : Nat) ^ 64 = 18446744073709551616 := by decide
  omega

theorem inv_start (a0 a1 a2 a3 : Int) (hb : ∀ k, 0 ≤ wd a0 a1 a2 a3 k ∧ wd a0 a1 a2 a3 k < 18446744073709551616) : Inv a0 a1 a2 a3 255 := by
  intro q h0 h3
  have := hb q
  have := pow_ge (255 + 1 - 64 * q).toNat (by omega)
  omega

theorem pow_toNat_succ (n : Int) (h : 0 ≤ n) : (2 : Int) ^ (n + 1).toNat = 2 * 2 ^ n.toNat := by
  have e : (n + 1).toNat = n.toNat + 1 := by omega
  rw [e, Int.pow_succ, Int.mul_comm]

theorem pow_pos (m : Nat) : (0 : Int) < 2 ^ m := Int.pow_pos (by omega)

theorem inv_top (a0 a1 a2 a3 k : Int) (hk : 0 ≤ k) (hk1 : k ≤ 255) (hI : Inv a0 a1 a2 a3 k) : wd a0 a1 a2 a3 (k / 64) < 2 * 2 ^ (k % 64).toNat := by
  have h := hI (k / 64) (by omega) (by omega)
  have e : k + 1 - 64 * (k / 64) = k % 64 + 1 := by omega
  rw [e, pow_toNat_succ _ (by omega)] at h
  exact h

theorem inv_above (a0 a1 a2 a3 k q : Int) (hk : 0 ≤ k) (hI : Inv a0 a1 a2 a3 k) (hb : ∀ k, 0 ≤ wd a0 a1 a2 a3 k ∧ wd a0 a1 a2 a3 k < 18446744073709551616) (hq : k / 64 < q) (hq3 : q ≤ 3) : wd a0 a1 a2 a3 q = 0 := by
  have h := hI q (by omega) hq3
  have e : (k + 1 - 64 * q).toNat = 0 := by omega
  rw [e] at h
  have := hb q
  simp at h
  omega

/-- The bit is not set: the scan goes on. -/
theorem inv_step (a0 a1 a2 a3 k : Int) (hk : 0 ≤ k) (hk1 : k ≤ 255) (hI : Inv a0 a1 a2 a3 k) (hb : ∀ k, 0 ≤ wd a0 a1 a2 a3 k ∧ wd a0 a1 a2 a3 k < 18446744073709551616)
    (hbit : wd a0 a1 a2 a3 (k / 64) / 2 ^ (k % 64).toNat % 2 ≠ 1) : Inv a0 a1 a2 a3 (k - 1) := by
  intro q h0 h3
  have hq := hb q
  by_cases hlt : k / 64 < q
  · rw [inv_above a0 a1 a2 a3 k q hk hI hb hlt h3]
    exact pow_pos _
  by_cases heq : q = k / 64
  · subst heq
    have ht := inv_top a0 a1 a2 a3 k hk hk1 hI
    have e : (k - 1 + 1 - 64 * (k / 64)).toNat = (k % 64).toNat := by omega
    rw [e]
    have hp := pow_pos (k % 64).toNat
    generalize (2 : Int) ^ (k % 64).toNat = p at *
    generalize wd a0 a1 a2 a3 (k / 64) = x at *
    have hdiv : x / p < 2 := (Int.ediv_lt_iff_lt_mul hp).2 ht
    have hdiv0 : 0 ≤ x / p := Int.ediv_nonneg hq.1 (by omega)
    have hz : x / p = 0 := by omega
    have : x / p < 1 := by omega
    have h2 := (Int.ediv_lt_iff_lt_mul hp).1 this
    omega
  · have := pow_ge (k - 1 + 1 - 64 * q).toNat (by omega)
    omega

/-- The bit is set: the answer. -/
theorem inv_hit (a0 a1 a2 a3 k : Int) (hk : 0 ≤ k) (hk1 : k ≤ 255) (hI : Inv a0 a1 a2 a3 k) (hb : ∀ k, 0 ≤ wd a0 a1 a2 a3 k ∧ wd a0 a1 a2 a3 k < 18446744073709551616)
    (hbit : wd a0 a1 a2 a3 (k / 64) / 2 ^ (k % 64).toNat % 2 = 1) : (k + 1 + 63) / 64 = wc a0 a1 a2 a3 := by
  have hne : wd a0 a1 a2 a3 (k / 64) ≠ 0 := by
    intro h
    rw [h, Int.zero_ediv] at hbit
    omega
  have e : (k + 1 + 63) / 64 = k / 64 + 1 := by omega
  rw [e]
  have ha := fun q => inv_above a0 a1 a2 a3 k q hk hI hb
  have hq : k / 64 = 0 ∨ k / 64 = 1 ∨ k / 64 = 2 ∨ k / 64 = 3 := by omega
  rcases hq with h | h | h | h <;> rw [h] at hne ha ⊢ <;> simp [wd] at hne
  · have h1 := ha 1 (by omega) (by omega)
    have h2 := ha 2 (by omega) (by omega)
    have h3 := ha 3 (by omega) (by omega)
    simp [wd] at h1 h2 h3
    simp [wc, h1, h2, h3, hne]
  · have h2 := ha 2 (by omega) (by omega)
    have h3 := ha 3 (by omega) (by omega)
    simp [wd] at h2 h3
    simp [wc, h2, h3, hne]
  · have h3 := ha 3 (by omega) (by omega)
    simp [wd] at h3
    simp [wc, h3, hne]
  · simp [wc, hne]

theorem inv_none (a0 a1 a2 a3 : Int) (hI : Inv a0 a1 a2 a3 (-1)) (hb : ∀ k, 0 ≤ wd a0 a1 a2 a3 k ∧ wd a0 a1 a2 a3 k < 18446744073709551616) : wc a0 a1 a2 a3 = 0 := by
  have z : ∀ q : Int, 0 ≤ q → q ≤ 3 → wd a0 a1 a2 a3 q = 0 := by
    intro q h0 h3
    have h := hI q h0 h3
    have e : (-1 + 1 - 64 * q).toNat = 0 := by omega
    rw [e] at h
    have := hb q
    simp at h
    omega
  have z0 := z 0 (by omega) (by omega)
  have z1 := z 1 (by omega) (by omega)
  have z2 := z 2 (by omega) (by omega)
  have z3 := z 3 (by omega) (by omega)
  simp [wd] at z0 z1 z2 z3
  simp [wc, z0, z1, z2, z3]

theorem bit_mod (x : Int) (p : Int) (hx : 0 ≤ x ∧ x < 18446744073709551616) (hp : 0 < p) : bits BinOp.and IntKind.u64 (x / p) 1 = x / p % 2 :=
  and_one_u64 _ (Int.ediv_nonneg hx.1 (by omega)) (by
    have h := Int.ediv_le_self p hx.1
    omega)

theorem bl_any (a0 a1 a2 a3 : Int) (w : World) (hb : ∀ k, 0 ≤ wd a0 a1 a2 a3 k ∧ wd a0 a1 a2 a3 k < 18446744073709551616) :
    Calls Try.prog 8 #[.int .u64 a0, .int .u64 a1, .int .u64 a2, .int .u64 a3] w fun e w' => ∃ n, e = .returned (.int .i64 n) ∧ 0 ≤ n ∧ n ≤ 256 ∧ (n + 63) / 64 = wc a0 a1 a2 a3 ∧ w = w' := by
  have HB : Hid (∀ k, 0 ≤ wd a0 a1 a2 a3 k ∧ wd a0 a1 a2 a3 k < 18446744073709551616) := hb
  clear hb
  go_enter Try.func8, Try.ntmps8
  go_wp2
  go_loop [9] (fun i => ∃ k : Int, -1 ≤ k ∧ k ≤ 255 ∧ i = .int .i64 k ∧ Inv a0 a1 a2 a3 k) (fun i => (1 + intOf i).toNat)
  case atStart => exact ⟨255, by omega, by omega, rfl, inv_start _ _ _ _ HB.out⟩
  case round =>
    obtain ⟨k, hk0, hk1, rfl, hI⟩ := hrel
    by_cases hlt : 0 ≤ k
    · go_wp2_with (go_at_call 20; refine (wordOf_any _ _ _ _ _ _).mono ?_; rintro e w' ⟨rfl, rfl⟩)
      · have hbit : (bits BinOp.and IntKind.u64 (wd a0 a1 a2 a3 (k / 64) / 2 ^ (k % 64).toNat) 1 == 1) = true := by assumption
        rw [bit_mod _ _ (HB.out _) (pow_pos _)] at hbit
        go_ret
        exact ⟨_, rfl, by omega, by omega, inv_hit a0 a1 a2 a3 k hlt hk1 hI HB.out (by simpa using hbit), rfl⟩
      · have hbit : (bits BinOp.and IntKind.u64 (wd a0 a1 a2 a3 (k / 64) / 2 ^ (k % 64).toNat) 1 == 1) = false := by assumption
        rw [bit_mod _ _ (HB.out _) (pow_pos _)] at hbit
        go_round
        case rel => exact ⟨k - 1, by omega, by omega, rfl, inv_step a0 a1 a2 a3 k hlt hk1 hI HB.out (by simpa using hbit)⟩
        case measure => simp [intOf]; omega
    · have hk : k = -1 := by omega
      have hz := inv_none a0 a1 a2 a3 (by rw [hk] at hI; exact hI) HB.out
      have HZ : Hid (wc a0 a1 a2 a3 = 0) := hz
      clear hz hk
      go_wp2
      go_ret
      exact ⟨0, rfl, by omega, by omega, by rw [HZ.out]; omega, rfl⟩
end Go.Proofs.Qxb6605233a.words
