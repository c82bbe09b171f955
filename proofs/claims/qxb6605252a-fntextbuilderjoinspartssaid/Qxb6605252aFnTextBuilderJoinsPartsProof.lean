/-
  'Rows.FnTextBuilderJoinsPartsSaid', PROVED. The frame is the guide's own way for a law over one slice, turned to a slice of strings; the walk is ours (the texts that it imports).
-/
import Derived.Test.Qxb6605252aRows
import Derived.WalkKit
import Derived.ProofKit
import Derived.OpenShut
import Derived.ShutString
import Derived.ChangeOld
import Derived.Below
import Derived.SliceStrings
import Derived.Test.Qxb6605252aJoinLaw
namespace Go.Proofs.Qxb6605252a.fnTextBuilderJoinsParts
open Go.ChangeShapes Go.WideShapes Go.ChangeAt Go.RowKit
open Go.ChangeMaps (open_string shut_string)
set_option linter.unusedVariables false

theorem own : ownKnob Try.prog.godebug = none := by kernel_rfl
theorem laidOut : laidOutB Try.prog = true := by kernel_rfl
theorem cells9 : Try.prog.cellsOf 9 = 1 := by kernel_rfl

/-- What the walk is told of a slice of strings that came in. -/
def IsRow (w : World) (a : Option Addr) (len cap : Nat) (ss : List ByteArray) : Prop :=
  (a = none ∧ len = 0 ∧ cap = 0 ∧ ss = []) ∨
  ∃ x, a = some x ∧ len ≤ cap ∧ cap ≤ maxLen ∧ ss.length = cap ∧ (∀ i, i < ss.length → w.cell? (x.add i) = some (.string (ss.getD i ByteArray.empty))) ∧ ∀ s ∈ ss, s.size ≤ maxLen

theorem walk (a0 : Option Addr) (len0 cap0 : Nat) (z0 : List ByteArray) (w : World) (w0 : IsRow w a0 len0 cap0 z0) :
    Calls Try.prog 4 #[.slice a0 len0 cap0] w fun e w' => e = .returned (.bool true) ∧ Below w.heap.size w w' := by
  rcases w0 with ⟨rfl, rfl, rfl, rfl⟩ | ⟨x, rfl, hl, hm, hz, hcell, hwf⟩
  · exact Go.Proofs.Qxb6605252a.join.join_nil w
  · obtain ⟨b, off, spot⟩ := x
    have hspot : 0 < len0 → spot = none := fun h => by simpa [Addr.add] using World.cell?_spot (hcell 0 (by omega))
    have hget : ∀ j, j < len0 → (z0.take len0).getD j ByteArray.empty = z0.getD j ByteArray.empty := fun j hj => by
      simp [List.getD, hj]
    have hsz : ∀ j, ((z0.take len0).getD j ByteArray.empty).size ≤ maxLen := fun j => by
      by_cases hj : j < (z0.take len0).length
      · have e : (z0.take len0).getD j ByteArray.empty = (z0.take len0)[j] := by rw [List.getD_eq_getElem?_getD, List.getElem?_eq_getElem hj]; rfl
        rw [e]
        exact hwf _ (List.mem_of_mem_take (List.getElem_mem hj))
      · have e : (z0.take len0).getD j ByteArray.empty = ByteArray.empty := by
          rw [List.getD_eq_getElem?_getD, List.getElem?_eq_none (by omega)]; rfl
        rw [e]
        exact Nat.zero_le _
    by_cases h65 : len0 ≤ 65536
    · refine Go.Proofs.Qxb6605252a.join.join_in b off spot len0 cap0 (z0.take len0) w (by rw [List.length_take]; omega) h65 hspot (fun j hj => ?_) hsz
      have := hcell j (by omega)
      rw [hspot (by omega), Addr.add_lit] at this
      rw [this, hget j hj]
    · have HZ : Hid (Calls Try.prog 9 #[.slice (some ⟨b, off, spot⟩) len0 cap0] w (Go.Proofs.Qxb6605252a.join.ZZP len0 (z0.take len0) w)) := by
        refine Go.Proofs.Qxb6605252a.join.zz_any _ _ _ (z0.take len0) w (by rw [List.length_take]; omega) (by omega) ?_ hsz
        rw [hspot (by omega)]
        refine .inr ⟨b, off, rfl, fun j hj => ?_⟩
        rw [List.length_take] at hj
        have := hcell j (by omega)
        rw [hspot (by omega), Addr.add_lit] at this
        rw [this, hget j (by omega)]
      unfold maxLen at hm
      clear hcell hwf hget hsz hspot
      go_enter Try.func4, Try.ntmps4
      go_wp2_with (go_at_call 9; refine HZ.out.mono ?_; rintro e w' ⟨bz, rfl, rfl, hbz⟩; cases bz)
      all_goals
        go_ret
        exact ⟨rfl, Below.refl _ _⟩

/-! ### The row's step -/
set_option maxRecDepth 100000 in
theorem lifted (os : Os) (started : os.Started) (H : Type) (enc : TypeId × Value → H) :
    ReturnsInHanded {} Try.checked os 4 .any (Rows.fnTextBuilderJoinsPartsSpec.pre6 enc Try.prog Try.f4 Rows.fnTextBuilderJoinsPartsRow.domain false) (Rows.fnTextBuilderJoinsPartsSpec.post enc Try.prog Try.f4 false true false false) := by
  refine returnsInHanded_of_change (C := Try.checked) own started (by kernel_rfl) Try.func4
    (ChangeSpec.witness6 (enc := enc) (C := Try.checked) false ⟨#[], #[.slice none 0 0], []⟩ 8 (by kernel_rfl) (by kernel_rfl) (by kernel_rfl) (by kernel_rfl)) ?_
  intro W base args ds gs before hval0 hW hcnd _
  have hval : ∀ (j : Nat) t v, Try.f4.params[j]? = some t → args[j]? = some v → Value.okWide Try.prog W .any base t v := hval0
  have hW' := hW
  obtain ⟨p, q, hA0, hV, rfl, hfz, hnd⟩ := hW
  have hA : DataW.TrodAll enc Try.prog W 0 (fun _ => true) true Try.f4.params.toList args.toList ds p := hA0
  rw [Try.params4] at hA hval
  obtain ⟨v0, vs0, d0, ds0, p0, q0, hargs, rfl, rfl, h0, r0⟩ := trodAll_cons hA
  obtain ⟨rfl, rfl, rfl⟩ := trodAll_nil r0
  obtain rfl : args = #[v0] := by cases args; simp_all
  obtain ⟨rfl, rfl⟩ := trodVars_none hV
  obtain ⟨a0, len0, cap0, rfl⟩ := okWide_slice Try.underlying27 (hval 0 27 v0 rfl rfl)
  have k0 := h0
  have lt0 : ∀ x ∈ p0, x.block < W.heap.size := by obtain ⟨m, hm⟩ := k0; exact DataW.trod_lt m _ _ _ hm
  obtain ⟨z0, w0⟩ : ∃ zs, IsRow W a0 len0 cap0 zs := by
    obtain ⟨fuel, hf⟩ := h0
    rcases open_strings Try.underlying27 Try.underlying9 cells9 hf with ⟨hcs, _⟩ | ⟨x, l, c, zs, hcs, _, hl, hm, hz, _, hcell, hwz⟩
    · simp [Value.cells] at hcs
      obtain ⟨rfl, rfl, rfl⟩ := hcs
      exact ⟨[], .inl ⟨rfl, rfl, rfl, rfl⟩⟩
    · simp [Value.cells] at hcs
      obtain ⟨rfl, rfl, rfl⟩ := hcs
      exact ⟨zs, .inr ⟨_, rfl, hl, hm, by simpa using hz, hcell, hwz⟩⟩
  clear hA0 hval0
  refine (walk a0 len0 cap0 z0 W w0).mono fun e W' ⟨he, bel⟩ => ?_
  subst he
  exact ⟨_, rfl, _, _, _, [], _, [], hW', trodAll_mk1 (shut_bool Try.underlying4 _), (trodAll_cons_mk (Below.trod laidOut (by kernel_rfl) (of_decide_eq_true (by kernel_rfl)) k0 bel lt0) trodAll_mk0), rfl, bel.frame _, fun h => by cases h⟩

theorem over : Rows.fnTextBuilderJoinsPartsRow.holds Try.pinned (OpenSpec.ofChange Rows.fnTextBuilderJoinsPartsSpec) :=
  OpenClaim.holds_of_wide 4 Try.f4 rfl rfl rfl rfl rfl rfl rfl ⟨rfl, rfl, rfl, rfl, rfl⟩ rfl rfl rfl rfl rfl (by kernel_rfl) Try.func4 (by kernel_rfl)
    (of_decide_eq_true (by kernel_rfl)) (by unfold Func.isWrapper; first | (rw [if_pos (by decide +kernel)]; kernel_rfl) | (rw [if_neg (by decide +kernel)]; exact ⟨rfl, rfl⟩))
    (fun os started H enc _ => lifted os started H enc)

/-- The statement. -/
theorem proved : Rows.FnTextBuilderJoinsPartsSaid := over
end Go.Proofs.Qxb6605252a.fnTextBuilderJoinsParts
