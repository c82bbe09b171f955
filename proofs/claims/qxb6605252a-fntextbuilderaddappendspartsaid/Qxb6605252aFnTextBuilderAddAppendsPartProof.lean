/-
  'Rows.FnTextBuilderAddAppendsPartSaid', PROVED. The frame is the guide's own shell for this function; the walk is ours (the texts that it imports).
-/
import Derived.Test.Qxb6605252aRows
import Derived.WalkKit
import Derived.ProofKit
import Derived.OpenShut
import Derived.ShutString
import Derived.ChangeOld
import Derived.Below
import Derived.Test.Qxb6605252aAddLaw
namespace Go.Proofs.Qxb6605252a.fnTextBuilderAddAppendsPart
open Go.ChangeShapes Go.WideShapes Go.ChangeAt Go.RowKit
open Go.ChangeMaps (open_string shut_string)
set_option linter.unusedVariables false

theorem own : ownKnob Try.prog.godebug = none := by kernel_rfl
theorem laidOut : laidOutB Try.prog = true := by kernel_rfl

/-- WHAT THE WALK IS TOLD OF A SLICE OF INTEGERS THAT CAME IN: it is nil; or it leads to a row of 'cap' cells, the numbers 'zs' (the first 'len' are its elements, the rest its spare room), each fitting its kind. -/
def IsRow (k : IntKind) (w : World) (a : Option Addr) (len cap : Nat) (zs : List Int) : Prop :=
  (a = none ∧ len = 0 ∧ cap = 0 ∧ zs = []) ∨
  ∃ x, a = some x ∧ len ≤ cap ∧ cap ≤ maxLen ∧ zs.length = cap ∧ (∀ i, i < zs.length → w.cell? (x.add i) = some (.int k (zs.getD i 0))) ∧ ∀ n ∈ zs, (Lit.int k n).wf = true

open Go.Proofs.Qxb6605252a.bs Go.Proofs.Qxb6605252a.add
def bytesOf (zs : List Int) : List UInt8 := zs.map fun z => UInt8.ofNat z.toNat
theorem seg_of_row {w : World} {a : Option Addr} {len cap : Nat} {zs : List Int} (h : IsRow .u8 w a len cap zs) : Seg w a (bytesOf (zs.take len)) ∧ (bytesOf (zs.take len)).length = len ∧ len ≤ maxLen := by
  rcases h with ⟨rfl, rfl, rfl, rfl⟩ | ⟨x, rfl, hl, hm, hz, hcell, hwf⟩
  · exact ⟨.inl rfl, rfl, Nat.zero_le _⟩
  · refine ⟨?_, by rw [bytesOf, List.length_map, List.length_take]; omega, Nat.le_trans hl hm⟩
    by_cases h0 : len = 0
    · subst h0; exact .inl (by simp [bytesOf])
    · obtain ⟨b, off, spot⟩ := x
      have hspot : spot = none := by simpa [Addr.add] using World.cell?_spot (hcell 0 (by omega))
      subst hspot
      refine .inr ⟨b, off, rfl, fun j hj => ?_⟩
      rw [bytesOf, List.length_map, List.length_take] at hj
      have := hcell j (by omega)
      rw [Addr.add_lit] at this
      rw [this]
      have hj' : j < zs.length := by omega
      have hb := bounds_u8 (hwf zs[j] (List.getElem_mem hj'))
      have e : zs.getD j 0 = zs[j] := by simp [List.getD, hj']
      simp only [bytesOf, List.getElem_map, List.getElem_take]
      rw [e]
      congr 2
      simp
      omega

/-! ### STEP 1: THE WALK: the Go text returns true, AND WRITES NOTHING THAT WAS THERE: 'Below w.heap.size w w'' (Derived/Below.lean: '.refl', '.alloc', '.drew', '.setCell' at a new block, '.trans'). Open each 'IsRow' by 'rcases' AHEAD of 'go_enter'; part every test ahead of the walk. -/
theorem walk (a0 : ByteArray) (a1 : Option Addr) (len1 cap1 : Nat) (z1 : List Int) (a2 : ByteArray) (w : World) (w0 : a0.size ≤ maxLen) (w1 : IsRow .u8 w a1 len1 cap1 z1) (w2 : a2.size ≤ maxLen) :
    Calls Try.prog 3 #[.string a0, .slice a1 len1 cap1, .string a2] w fun e w' => e = .returned (.bool true) ∧ Below w.heap.size w w' := by
  obtain ⟨s1, l1, m1⟩ := seg_of_row w1
  generalize bytesOf (z1.take len1) = l at s1 l1
  have hcap : a1 = none → len1 = 0 ∧ cap1 = 0 := by
    intro ha
    rcases w1 with ⟨_, h1, h2, _⟩ | ⟨x, h, _⟩
    · exact ⟨h1, h2⟩
    · rw [ha] at h; cases h
  clear w1
  by_cases h : a0.size + len1 + a2.size ≤ 1048576
  · by_cases h0 : a0.size ≤ 65536
    · by_cases h1 : len1 ≤ 65536
      · by_cases h2 : a2.size ≤ 65536
        · cases a1 with
          | none =>
            obtain ⟨rfl, rfl⟩ := hcap rfl
            exact law_nil a0 a2 w h h0 h2
          | some ad => exact law_some a0 ad len1 cap1 l a2 w l1 s1 h h0 h1 h2
        · clear s1 l1 hcap
          go_enter Try.func3, Try.ntmps3
          go_wp2_with (go_at_call 6; refine (zz_yes _ _ _ _ _ h _).mono ?_; rintro e w' ⟨rfl, rfl⟩)
          go_ret
          exact ⟨rfl, Below.refl _ _⟩
      · clear s1 l1 hcap
        go_enter Try.func3, Try.ntmps3
        go_wp2_with (go_at_call 6; refine (zz_yes _ _ _ _ _ h _).mono ?_; rintro e w' ⟨rfl, rfl⟩)
        go_ret
        exact ⟨rfl, Below.refl _ _⟩
    · clear s1 l1 hcap
      go_enter Try.func3, Try.ntmps3
      go_wp2_with (go_at_call 6; refine (zz_yes _ _ _ _ _ h _).mono ?_; rintro e w' ⟨rfl, rfl⟩)
      go_ret
      exact ⟨rfl, Below.refl _ _⟩
  · clear s1 l1 hcap
    go_enter Try.func3, Try.ntmps3
    go_wp2_with (go_at_call 6; refine (zz_no _ _ _ _ _ w0 m1 w2 h _).mono ?_; rintro e w' ⟨rfl, rfl⟩)
    go_ret
    exact ⟨rfl, Below.refl _ _⟩

/-! ### THE ROW's STEP: WRITTEN OUT: LEAVE IT -/
set_option maxRecDepth 100000 in
theorem lifted (os : Os) (started : os.Started) (H : Type) (enc : TypeId × Value → H) :
    ReturnsInHanded {} Try.checked os 3 .any (Rows.fnTextBuilderAddAppendsPartSpec.pre6 enc Try.prog Try.f3 Rows.fnTextBuilderAddAppendsPartRow.domain false) (Rows.fnTextBuilderAddAppendsPartSpec.post enc Try.prog Try.f3 false true false false) := by
  refine returnsInHanded_of_change (C := Try.checked) own started (by kernel_rfl) Try.func3
    (ChangeSpec.witness6 (enc := enc) (C := Try.checked) false ⟨#[], #[.string ByteArray.empty, .slice none 0 0, .string ByteArray.empty], []⟩ 8 (by kernel_rfl) (by kernel_rfl) (by kernel_rfl) (by kernel_rfl)) ?_
  intro W base args ds gs before hval0 hW hcnd _
  have hval : ∀ (j : Nat) t v, Try.f3.params[j]? = some t → args[j]? = some v → Value.okWide Try.prog W .any base t v := hval0
  have hW' := hW
  obtain ⟨p, q, hA0, hV, rfl, hfz, hnd⟩ := hW
  have hA : DataW.TrodAll enc Try.prog W 0 (fun _ => true) true Try.f3.params.toList args.toList ds p := hA0
  rw [Try.params3] at hA hval
  obtain ⟨v0, vs0, d0, ds0, p0, q0, hargs, rfl, rfl, h0, r0⟩ := trodAll_cons hA
  obtain ⟨v1, vs1, d1, ds1, p1, q1, rfl, rfl, rfl, h1, r1⟩ := trodAll_cons r0
  obtain ⟨v2, vs2, d2, ds2, p2, q2, rfl, rfl, rfl, h2, r2⟩ := trodAll_cons r1
  obtain ⟨rfl, rfl, rfl⟩ := trodAll_nil r2
  obtain rfl : args = #[v0, v1, v2] := by cases args; simp_all
  obtain ⟨rfl, rfl⟩ := trodVars_none hV
  obtain ⟨a0, rfl, rfl, rfl, w0⟩ := open_string Try.underlying9 (hval 0 9 v0 rfl rfl) h0
  obtain ⟨a1, len1, cap1, rfl⟩ := okWide_slice Try.underlying22 (hval 1 22 v1 rfl rfl)
  have k1 := h1
  have lt1 : ∀ x ∈ p1, x.block < W.heap.size := by obtain ⟨m, hm⟩ := k1; exact DataW.trod_lt m _ _ _ hm
  obtain ⟨z1, w1⟩ : ∃ zs, IsRow .u8 W a1 len1 cap1 zs := by
    obtain ⟨fuel, hf⟩ := h1
    rcases open_ints Try.underlying22 Try.underlying5 (by kernel_rfl) hf with ⟨hcs, _⟩ | ⟨x, l, c, zs, hcs, _, hl, hm, hz, _, hcell, hwz⟩
    · simp [Value.cells] at hcs
      obtain ⟨rfl, rfl, rfl⟩ := hcs
      exact ⟨[], .inl ⟨rfl, rfl, rfl, rfl⟩⟩
    · simp [Value.cells] at hcs
      obtain ⟨rfl, rfl, rfl⟩ := hcs
      exact ⟨zs, .inr ⟨_, rfl, hl, hm, by simpa using hz, hcell, hwz⟩⟩
  obtain ⟨a2, rfl, rfl, rfl, w2⟩ := open_string Try.underlying9 (hval 2 9 v2 rfl rfl) h2
  clear hA0 hval0
  refine (walk a0 a1 len1 cap1 z1 a2 W w0 w1 w2).mono fun e W' ⟨he, bel⟩ => ?_
  subst he
  exact ⟨_, rfl, _, _, _, [], _, [], hW', trodAll_mk1 (shut_bool Try.underlying4 _), (trodAll_cons_mk (shut_string Try.underlying9 w0) (trodAll_cons_mk (Below.trod laidOut (by kernel_rfl) (of_decide_eq_true (by kernel_rfl)) k1 bel lt1) (trodAll_cons_mk (shut_string Try.underlying9 w2) trodAll_mk0))), rfl, bel.frame _, fun h => by cases h⟩

theorem over : Rows.fnTextBuilderAddAppendsPartRow.holds Try.pinned (OpenSpec.ofChange Rows.fnTextBuilderAddAppendsPartSpec) :=
  OpenClaim.holds_of_wide 3 Try.f3 rfl rfl rfl rfl rfl rfl rfl ⟨rfl, rfl, rfl, rfl, rfl⟩ rfl rfl rfl rfl rfl (by kernel_rfl) Try.func3 (by kernel_rfl)
    (of_decide_eq_true (by kernel_rfl)) (by unfold Func.isWrapper; first | (rw [if_pos (by decide +kernel)]; kernel_rfl) | (rw [if_neg (by decide +kernel)]; exact ⟨rfl, rfl⟩))
    (fun os started H enc _ => lifted os started H enc)

/-- ████ THE STATEMENT ████ -/
theorem proved : Rows.FnTextBuilderAddAppendsPartSaid := over
end Go.Proofs.Qxb6605252a.fnTextBuilderAddAppendsPart
