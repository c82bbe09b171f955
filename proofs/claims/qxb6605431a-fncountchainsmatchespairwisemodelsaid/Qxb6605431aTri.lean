/- The counts of the pairs, as the law's main loops reckon them; and the arrays in order. -/
import Derived.Test.Qxb6605431aSort
import Derived.Test.Qxb6605431aZz
namespace Go.Proofs.Qxb6605431a.cc
open Go.RowKit

def rOf (C : List (List (List Int))) (o : Nat → Nat) : Run := ⟨C, cN C, fun a => eP C (o a), fun a => eK C (o a)⟩
def pE (x y : List Int) : Bool := leqB x y && leqB y x
def pO (x y : List Int) : Bool := !(leqB x y && leqB y x) && (leqB x y || leqB y x)
def pC (x y : List Int) : Bool := !(leqB x y || leqB y x)
def Tn (C : List (List (List Int))) (p : List Int → List Int → Bool) (a : Nat) : Nat := sumN (fun a' => cnt (fun b' => decide (a' < b') && p (eS C a') (eS C b')) (cN C)) a
def tri (C : List (List (List Int))) (p : List Int → List Int → Bool) (a b : Nat) : Nat := Tn C p a + cnt (fun b' => decide (a < b') && p (eS C a) (eS C b')) b

theorem cnt_zero (p : Nat → Bool) : ∀ n, (∀ k, k < n → p k = false) → cnt p n = 0 := by
  intro n
  induction n with
  | zero => intro _; rfl
  | succ n ih =>
    intro h
    unfold cnt
    rw [ih (fun k hk => h k (by omega)), h n (by omega)]
    rfl
theorem tri_start (C : List (List (List Int))) (p : List Int → List Int → Bool) (a : Nat) : tri C p a (a + 1) = Tn C p a := by
  unfold tri
  rw [cnt_zero _ _ (fun k hk => by rw [decide_eq_false (by omega)]; rfl)]
  rfl
theorem tri_step (C : List (List (List Int))) (p : List Int → List Int → Bool) {a b : Nat} (h : a < b) {t : Bool} (ht : p (eS C a) (eS C b) = t) : tri C p a (b + 1) = tri C p a b + (if t = true then 1 else 0) := by
  unfold tri
  have e : (decide (a < b) && p (eS C a) (eS C b)) = t := by rw [decide_eq_true h, ht, Bool.true_and]
  show Tn C p a + (cnt (fun b' => decide (a < b') && p (eS C a) (eS C b')) b + (if (decide (a < b) && p (eS C a) (eS C b)) = true then 1 else 0)) = _
  rw [e]
  omega
theorem tri_end (C : List (List (List Int))) (p : List Int → List Int → Bool) (a : Nat) : tri C p a (cN C) = Tn C p (a + 1) := rfl
theorem Tn_le (C : List (List (List Int))) (p : List Int → List Int → Bool) (a : Nat) (ha : a ≤ 4096) (hN : cN C ≤ 4096) : Tn C p a ≤ 16777216 :=
  sumN_bd (c := 4096) _ (fun _ _ => Nat.le_trans (cnt_le _ _) hN) ha
theorem tri_le (C : List (List (List Int))) (p : List Int → List Int → Bool) (a b : Nat) (ha : a ≤ 4096) (hb : b ≤ 4096) (hN : cN C ≤ 4096) : tri C p a b ≤ 16781312 := by
  have := Tn_le C p a ha hN
  have := cnt_le (fun b' => decide (a < b') && p (eS C a) (eS C b')) b
  unfold tri
  omega

/-- The arrays in the order. -/
structure S3 (C : List (List (List Int))) (wb : World) (tvs : Nat → Value) (wr : World) (g13 g14 g15 g16 g17 g25 : Nat) (o : Nat → Nat) (g30 g31 g32 m : Nat) : Prop where
  od : Od C wb tvs wr g13 g14 g15 g16 g17 g25 o
  p0 : g25 < g30
  p1 : g30 < g31
  p2 : g31 < g32
  a30 : FA wr g30 31 (cN C) (fun i => if i < m then tvs (o i) else .slice none 0 0)
  a31 : FA wr g31 3 (cN C) (fun i => if i < m then .int .i64 (eP C (o i) : Nat) else .int .i64 0)
  a32 : FA wr g32 3 (cN C) (fun i => if i < m then .int .i64 (eK C (o i) : Nat) else .int .i64 0)

variable {C : List (List (List Int))} {wb wr w' : World} {tvs : Nat → Value} {g13 g14 g15 g16 g17 g25 : Nat} {o : Nat → Nat} {g30 g31 g32 m : Nat}

theorem S3.grown (h : S3 C wb tvs wr g13 g14 g15 g16 g17 g25 o g30 g31 g32 m) (hg : wr.grownBy w' none) : S3 C wb tvs w' g13 g14 g15 g16 g17 g25 o g30 g31 g32 m :=
  ⟨h.od.grown hg, h.p0, h.p1, h.p2, h.a30.grown hg, h.a31.grown hg, h.a32.grown hg⟩
theorem S3.below (h : S3 C wb tvs wr g13 g14 g15 g16 g17 g25 o g30 g31 g32 m) (hg : Below wr.heap.size wr w') : S3 C wb tvs w' g13 g14 g15 g16 g17 g25 o g30 g31 g32 m :=
  ⟨h.od.below hg, h.p0, h.p1, h.p2, h.a30.below hg h.a30.lt, h.a31.below hg h.a31.lt, h.a32.below hg h.a32.lt⟩
theorem S3.other (h : S3 C wb tvs wr g13 g14 g15 g16 g17 g25 o g30 g31 g32 m) {g : Nat} (hg : g32 < g) (j : Nat) (v : Value) : S3 C wb tvs (wr.setCell ⟨g, j, none⟩ v) g13 g14 g15 g16 g17 g25 o g30 g31 g32 m := by
  have := h.p0
  have := h.p1
  have := h.p2
  exact ⟨h.od.other (by omega) j v, h.p0, h.p1, h.p2, h.a30.other (a := ⟨g, j, none⟩) (by simp; omega) v, h.a31.other (a := ⟨g, j, none⟩) (by simp; omega) v, h.a32.other (a := ⟨g, j, none⟩) (by simp; omega) v⟩
theorem S3.start {w1 w2 w3 : World} (h : Od C wb tvs wr g13 g14 g15 g16 g17 g25 o)
    (A1 : Arr w1 wr.heap.size 31 (List.replicate (cN C) (.slice none 0 0))) (G1 : wr.grownBy w1 none)
    (A2 : Arr w2 w1.heap.size 3 (List.replicate (cN C) (.int .i64 0))) (G2 : w1.grownBy w2 none)
    (A3 : Arr w3 w2.heap.size 3 (List.replicate (cN C) (.int .i64 0))) (G3 : w2.grownBy w3 none) :
    S3 C wb tvs w3 g13 g14 g15 g16 g17 g25 o wr.heap.size w1.heap.size w2.heap.size 0 := by
  have e : ∀ (f : Nat → Value) (z : Value), (fun i => if i < 0 then f i else z) = fun _ => z := fun f z => by funext i; simp
  refine ⟨((h.grown G1).grown G2).grown G3, h.a.lt, A1.lt, A2.lt, ?_, ?_, ?_⟩
  · rw [e fun i => tvs (o i)]; exact ((FA.made A1).grown G2).grown G3
  · rw [e fun i => .int .i64 (eP C (o i) : Nat)]; exact (FA.made A2).grown G3
  · rw [e fun i => .int .i64 (eK C (o i) : Nat)]; exact FA.made A3
theorem S3.step (h : S3 C wb tvs wr g13 g14 g15 g16 g17 g25 o g30 g31 g32 m) {v : Value} (hv : v = tvs (o m)) {z1 z2 : Int} (h1 : z1 = (eP C (o m) : Int)) (h2 : z2 = (eK C (o m) : Int)) :
    S3 C wb tvs (((wr.setCell ⟨g30, m, none⟩ v).setCell ⟨g31, m, none⟩ (.int .i64 z1)).setCell ⟨g32, m, none⟩ (.int .i64 z2)) g13 g14 g15 g16 g17 g25 o g30 g31 g32 (m + 1) := by
  subst hv h1 h2
  have := h.p0
  have := h.p1
  have := h.p2
  refine ⟨((h.od.other (g := g30) h.p0 m _).other (g := g31) (by omega) m _).other (g := g32) (by omega) m _, h.p0, h.p1, h.p2, ?_, ?_, ?_⟩
  · have := ((h.a30.set m (tvs (o m))).other (a := ⟨g31, m, none⟩) (by simp; omega) (.int .i64 (eP C (o m) : Int))).other (a := ⟨g32, m, none⟩) (by simp; omega) (.int .i64 (eK C (o m) : Int))
    rw [upd_fill (fun i => tvs (o i))] at this
    exact this
  · have := ((h.a31.other (a := ⟨g30, m, none⟩) (by simp; omega) (tvs (o m))).set m (.int .i64 (eP C (o m) : Int))).other (a := ⟨g32, m, none⟩) (by simp; omega) (.int .i64 (eK C (o m) : Int))
    rw [upd_fill (fun i => Value.int .i64 (eP C (o i) : Nat))] at this
    exact this
  · have := ((h.a32.other (a := ⟨g30, m, none⟩) (by simp; omega) (tvs (o m))).other (a := ⟨g31, m, none⟩) (by simp; omega) (.int .i64 (eP C (o m) : Int))).set m (.int .i64 (eK C (o m) : Int))
    rw [upd_fill (fun i => Value.int .i64 (eK C (o i) : Nat))] at this
    exact this
theorem S3.inp (h : S3 C wb tvs wr g13 g14 g15 g16 g17 g25 o g30 g31 g32 (cN C)) (hs : Stv C wb tvs) (hB : Bij o (cN C)) (hl : ∀ j k, (cS C j k).length ≤ 131072) (hu : ∀ j k, U64 (cS C j k)) : Inp (rOf C o) wr g30 g31 g32 := by
  refine ⟨fun a ha => ?_, fun a ha => ?_, fun a ha => ?_⟩
  · have := h.a30.cell a ha
    rw [if_pos (show a < cN C from ha)] at this
    exact ⟨_, this, ((hs _ (hB.lt a ha)).ts (hl _ _) (hu _ _)).kept h.od.b.bel⟩
  · have := h.a31.cell a ha
    rw [if_pos (show a < cN C from ha)] at this
    exact this
  · have := h.a32.cell a ha
    rw [if_pos (show a < cN C from ha)] at this
    exact this

/-- The plain law. -/
structure LawP (C : List (List (List Int))) (o : Nat → Nat) : Prop where
  ok : (rOf C o).Ok
  d : sumN (rOf C o).D (cN C) = Tn C pO (cN C)
  c : czOf (cN C) (sumN (rOf C o).D (cN C)) (sumN (rOf C o).Q (cN C)) = (Tn C pC (cN C) : Int)
  q : ((sumN (rOf C o).Q (cN C) : Nat) : Int) / 2 = (Tn C pE (cN C) : Int)
end Go.Proofs.Qxb6605431a.cc
