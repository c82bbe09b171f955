/- PLAIN: lower and upper case of ASCII, on lists of bytes. No Go in sight. -/
namespace Go.Proofs.Qxb6605284a.fold

def lowN (c : Nat) : Nat := if 65 ≤ c ∧ c ≤ 90 then c + 32 else c
def upN (c : Nat) : Nat := if 97 ≤ c ∧ c ≤ 122 then c - 32 else c
def isUp (c : Nat) : Bool := decide (65 ≤ c) && decide (c ≤ 90)
def lowL (l : List UInt8) : List UInt8 := l.map fun c => UInt8.ofNat (lowN c.toNat)
def upL (l : List UInt8) : List UInt8 := l.map fun c => UInt8.ofNat (upN c.toNat)
theorem all256 (p : Nat → Bool) (h : (List.range 256).all p = true) (c : UInt8) : p c.toNat = true := by
  rw [List.all_eq_true] at h
  exact h _ (List.mem_range.2 c.toNat_lt)
theorem low_lt (c : UInt8) : lowN c.toNat < 256 := by
  have := all256 (fun n => decide (lowN n < 256)) (by decide +kernel) c
  simpa using this
theorem up_lt (c : UInt8) : upN c.toNat < 256 := by
  have := all256 (fun n => decide (upN n < 256)) (by decide +kernel) c
  simpa using this
theorem toNat_low (c : UInt8) : (UInt8.ofNat (lowN c.toNat)).toNat = lowN c.toNat := by
  have h := low_lt c
  simp
  omega
theorem toNat_up (c : UInt8) : (UInt8.ofNat (upN c.toNat)).toNat = upN c.toNat := by
  have h := up_lt c
  simp
  omega
theorem up_low (c : UInt8) : upN (lowN c.toNat) = upN c.toNat := by
  have := all256 (fun n => decide (upN (lowN n) = upN n)) (by decide +kernel) c
  simpa using this
theorem isUp_low (c : UInt8) : isUp (lowN c.toNat) = false := by
  have := all256 (fun n => !isUp (lowN n)) (by decide +kernel) c
  simpa using this
theorem upL_lowL (l : List UInt8) : upL (lowL l) = upL l := by
  simp only [upL, lowL, List.map_map]
  apply List.map_congr_left
  intro c _
  simp only [Function.comp]
  rw [toNat_low, up_low]
theorem lowL_length (l : List UInt8) : (lowL l).length = l.length := by simp [lowL]
theorem upL_length (l : List UInt8) : (upL l).length = l.length := by simp [upL]
theorem lowL_not (l : List UInt8) (j : Nat) (h : j < (lowL l).length) : isUp ((lowL l)[j]).toNat = false := by
  simp only [lowL, List.getElem_map]
  rw [toNat_low, isUp_low]
end Go.Proofs.Qxb6605284a.fold
