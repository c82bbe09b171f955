/- PLAIN: lower case of ASCII, on lists of bytes. No Go in sight. -/
namespace Go.Proofs.Qxb6605233a.fold

def lowZ (c : Int) : Int := if 65 ≤ c ∧ c ≤ 90 then c + 32 else c
def lowL (l : List UInt8) : List Int := l.map fun c => lowZ (c.toNat : Int)
def eqF (a b : ByteArray) : Bool := decide (lowL a.data.toList = lowL b.data.toList)

theorem eqF_refl (a : ByteArray) : eqF a a = true := by simp [eqF]
theorem eqF_symm (a b : ByteArray) : eqF b a = eqF a b := by simp [eqF, eq_comm]
theorem eqF_of (a s : ByteArray) (h : lowL s.data.toList = lowL a.data.toList) : eqF a s = true ∧ eqF s a = true ∧ ∀ b, eqF s b = eqF a b := by simp [eqF, h]
theorem lowL_length (l : List UInt8) : (lowL l).length = l.length := by simp [lowL]
theorem eqF_size (a b : ByteArray) (h : a.size ≠ b.size) : eqF a b = false := by
  simp only [eqF, decide_eq_false_iff_not]
  intro h'
  have := congrArg List.length h'
  rw [lowL_length, lowL_length] at this
  apply h
  simpa using this
theorem eqF_diff (a b : ByteArray) (k : Nat) (ha : k < a.size) (hb : k < b.size) (h : lowZ (a[k].toNat : Int) ≠ lowZ (b[k].toNat : Int)) : eqF a b = false := by
  simp only [eqF, decide_eq_false_iff_not]
  intro h'
  apply h
  have h2 := congrArg (fun l => l[k]?) h'
  have ha' : k < a.data.toList.length := by simpa using ha
  have hb' : k < b.data.toList.length := by simpa using hb
  simp only [lowL, List.getElem?_map, List.getElem?_eq_getElem ha', List.getElem?_eq_getElem hb', Option.map_some, Option.some.injEq] at h2
  exact h2
theorem eqF_same (a b : ByteArray) (hs : a.size = b.size) (h : ∀ k (ha : k < a.size) (hb : k < b.size), lowZ (a[k].toNat : Int) = lowZ (b[k].toNat : Int)) : eqF a b = true := by
  simp only [eqF, decide_eq_true_eq]
  apply List.ext_getElem
  · rw [lowL_length, lowL_length]; simpa using hs
  · intro k h1 h2
    simp only [lowL, List.getElem_map]
    rw [lowL_length] at h1 h2
    exact h k (by simpa using h1) (by simpa using h2)

/-! swapping the case of a letter -/
def isLet (c : Nat) : Bool := (decide (65 ≤ c) && decide (c ≤ 90)) || (decide (97 ≤ c) && decide (c ≤ 122))
def sw (c : Nat) : Nat := if isLet c then c ^^^ 32 else c
def swL (l : List UInt8) : List UInt8 := l.map fun c => UInt8.ofNat (sw c.toNat)
theorem all256 (p : Nat → Bool) (h : (List.range 256).all p = true) (c : UInt8) : p c.toNat = true := by
  rw [List.all_eq_true] at h
  exact h _ (List.mem_range.2 c.toNat_lt)
theorem sw_lt (c : UInt8) : sw c.toNat < 256 := by
  have := all256 (fun n => decide (sw n < 256)) (by decide +kernel) c
  simpa using this
theorem sw_low (c : UInt8) : lowZ (sw c.toNat : Int) = lowZ (c.toNat : Int) := by
  have := all256 (fun n => decide (lowZ (sw n : Int) = lowZ (n : Int))) (by decide +kernel) c
  simpa using this
theorem toNat_sw (c : UInt8) : (UInt8.ofNat (sw c.toNat)).toNat = sw c.toNat := by
  have h := sw_lt c
  simp
  omega
theorem lowL_swL (l : List UInt8) : lowL (swL l) = lowL l := by
  simp only [lowL, swL, List.map_map]
  apply List.map_congr_left
  intro c _
  simp only [Function.comp]
  rw [toNat_sw, sw_low]
end Go.Proofs.Qxb6605233a.fold
