/- What the third loop of FnTextBuilderJoinsParts holds: the builder's bytes and the wanted bytes, in blocks apart. -/
import Derived.Test.Qxb6605252aJoinWalks
namespace Go.Proofs.Qxb6605252a.join
open Go.RowKit Go.Proofs.Qxb6605252a.bs Go.Proofs.Qxb6605252a.add

def sumTo (L : List ByteArray) : Nat → Nat
  | 0 => 0
  | k + 1 => sumTo L k + (L.getD k ByteArray.empty).size
theorem sumTo_mono (L : List ByteArray) {j k : Nat} (h : j ≤ k) : sumTo L j ≤ sumTo L k := by
  induction k with
  | zero => have : j = 0 := by omega
            subst this; exact Nat.le_refl _
  | succ k ih =>
    by_cases e : j = k + 1
    · subst e; exact Nat.le_refl _
    · have := ih (by omega)
      simp only [sumTo]
      omega

def Disj (a b : Option Addr) : Prop := ∀ k, blk a = some k → blk b ≠ some k

theorem Disj.symm {a b : Option Addr} (h : Disj a b) : Disj b a := fun k hb ha => h k ha hb

theorem Disj.ne {a b : Option Addr} (h : Disj a b) : blk a = none ∨ blk a ≠ blk b := by
  cases e : blk a with
  | none => exact .inl rfl
  | some k => exact .inr (fun e' => h k e e'.symm)

structure Two (B : Nat) (w0 w : World) (ab : Option Addr) (nb cb : Nat) (lb : List UInt8) (aw : Option Addr) (nw cw : Nat) (lw : List UInt8) : Prop where
  one : Buf w ab nb cb lb
  two : Buf w aw nw cw lw
  apart : Disj ab aw
  baseb : ∀ k, blk ab = some k → B ≤ k
  basew : ∀ k, blk aw = some k → B ≤ k
  bel : Below B w0 w
  size : B ≤ w.heap.size

theorem Two.swap {B : Nat} {w0 w : World} {ab : Option Addr} {nb cb : Nat} {lb : List UInt8} {aw : Option Addr} {nw cw : Nat} {lw : List UInt8} (h : Two B w0 w ab nb cb lb aw nw cw lw) : Two B w0 w aw nw cw lw ab nb cb lb :=
  ⟨h.two, h.one, h.apart.symm, h.basew, h.baseb, h.bel, h.size⟩

/-- The first of the two is turned (in its own block, or into a new one). -/
theorem Two.step {B : Nat} {w0 w w1 : World} {ab ab' : Option Addr} {nb cb nb' cb' : Nat} {lb lb' : List UInt8} {aw : Option Addr} {nw cw : Nat} {lw : List UInt8} (h : Two B w0 w ab nb cb lb aw nw cw lw)
    (hb : Buf w1 ab' nb' cb' lb') (hg : w.grownBy w1 (blk ab)) (hn : Near w ab ab') : Two B w0 w1 ab' nb' cb' lb' aw nw cw lw := by
  refine ⟨hb, h.two.kept hg h.apart.symm.ne, ?_, ?_, h.basew, h.bel.grown hg h.size h.baseb, Nat.le_trans h.size hg.size⟩
  · rcases hn with rfl | ⟨g, rfl, hlt⟩
    · exact h.apart
    · intro k hk hw
      have := h.two.blk_lt hw
      simp [blk] at hk
      omega
  · rcases hn with rfl | ⟨g, rfl, hlt⟩
    · exact h.baseb
    · intro k hk
      simp [blk] at hk
      have := h.size
      omega

/-- Nothing of the two is turned. -/
theorem Two.still {B : Nat} {w0 w w1 : World} {ab : Option Addr} {nb cb : Nat} {lb : List UInt8} {aw : Option Addr} {nw cw : Nat} {lw : List UInt8} (h : Two B w0 w ab nb cb lb aw nw cw lw) (hg : w.grownBy w1 none) : Two B w0 w1 ab nb cb lb aw nw cw lw :=
  ⟨h.one.kept hg (by cases ab <;> simp [blk]), h.two.kept hg (by cases aw <;> simp [blk]), h.apart, h.baseb, h.basew, h.bel.grown hg h.size (by simp), Nat.le_trans h.size hg.size⟩

theorem Two.start (w : World) : Two w.heap.size w w none 0 0 [] none 0 0 [] :=
  ⟨Buf.nil w, Buf.nil w, fun _ h => (by cases h), fun _ h => (by cases h), fun _ h => (by cases h), Below.refl _ _, Nat.le_refl _⟩

/-- The state at a round's head. -/
structure St (kept : Nat) (first : ByteArray) (cat : List UInt8) (ab : Option Addr) (lb : List UInt8) : Prop where
  zero : kept = 0 → first = ⟨#[]⟩ ∧ cat = []
  one : kept = 1 → cat = first.data.toList
  pos : 1 ≤ kept → first.toList.isEmpty = false
  nil : kept ≤ 1 → ab = none
  set : 2 ≤ kept → ab ≠ none ∧ lb = cat

theorem St.start : St 0 ⟨#[]⟩ [] none [] := ⟨fun _ => ⟨rfl, rfl⟩, fun h => (by omega), fun h => (by omega), fun _ => rfl, fun h => (by omega)⟩

theorem St.skip {kept : Nat} {first : ByteArray} {cat : List UInt8} {ab : Option Addr} {lb : List UInt8} (h : St kept first cat ab lb) {x : ByteArray} (hx : x.toList.isEmpty = true) : St kept first (cat ++ x.data.toList) ab lb := by
  have hx0 : x.data.toList = [] := by rw [ByteArray.toList_eq] at hx; simpa using hx
  rw [hx0, List.append_nil]
  exact h

theorem St.first {first : ByteArray} {cat : List UInt8} {ab : Option Addr} {lb : List UInt8} (h : St 0 first cat ab lb) {x : ByteArray} (hx : x.toList.isEmpty = false) {lb' : List UInt8} : St 1 x (cat ++ x.data.toList) none lb' := by
  obtain ⟨_, rfl⟩ := h.zero rfl
  exact ⟨fun h => (by omega), fun _ => by simp, fun _ => hx, fun _ => rfl, fun h => (by omega)⟩

theorem St.second {first : ByteArray} {cat : List UInt8} {ab : Option Addr} {lb : List UInt8} (h : St 1 first cat ab lb) {x : ByteArray} {y : Addr} : St 2 first (cat ++ x.data.toList) (some y) (first.data.toList ++ x.data.toList) := by
  have := h.one rfl
  subst this
  exact ⟨fun h => (by omega), fun h => (by omega), fun _ => h.pos (by omega), fun h => (by omega), fun _ => ⟨by simp, rfl⟩⟩

theorem St.more {kept : Nat} {first : ByteArray} {cat : List UInt8} {ab : Option Addr} {lb : List UInt8} (h : St kept first cat ab lb) (hk : 2 ≤ kept) {x : ByteArray} {y : Addr} : St (kept + 1) first (cat ++ x.data.toList) (some y) (lb ++ x.data.toList) := by
  obtain ⟨_, rfl⟩ := h.set hk
  exact ⟨fun h => (by omega), fun h => (by omega), fun _ => h.pos (by omega), fun h => (by omega), fun _ => ⟨by simp, rfl⟩⟩

/-- With at most one part kept the first is all. -/
theorem St.got {kept : Nat} {first : ByteArray} {cat : List UInt8} {ab : Option Addr} {lb : List UInt8} (h : St kept first cat ab lb) (hk : kept ≤ 1) : (first.toList == (⟨cat.toArray⟩ : ByteArray).toList) = true := by
  rw [ByteArray.toList_eq, ByteArray.toList_eq]
  by_cases h0 : kept = 0
  · obtain ⟨rfl, rfl⟩ := h.zero h0
    rfl
  · have := h.one (by omega)
    subst this
    simp
end Go.Proofs.Qxb6605252a.join
