import Derived.Test.Qxb6605431aMem
namespace Go.Proofs.Qxb6605431a.cc
open Go.RowKit

theorem Try.info3 : (Try.prog.info? 3).map (fun i => (i.zero, i.size, i.bytes)) = some (some (.int .i64 0), 1, 8) := by kernel_rfl
theorem Try.info25 : (Try.prog.info? 25).map (fun i => (i.zero, i.size, i.bytes)) = some (some (.slice none 0 0), 1, 24) := by kernel_rfl
theorem Try.info29 : (Try.prog.info? 29).map (fun i => (i.zero, i.size, i.bytes)) = some (some (.slice none 0 0), 1, 24) := by kernel_rfl
theorem Try.info30 : (Try.prog.info? 30).map (fun i => (i.zero, i.size, i.bytes)) = some (some (.slice none 0 0), 1, 24) := by kernel_rfl
theorem Try.info31 : (Try.prog.info? 31).map (fun i => (i.zero, i.size, i.bytes)) = some (some (.slice none 0 0), 1, 24) := by kernel_rfl
theorem Try.info32 : (Try.prog.info? 32).map (fun i => (i.zero, i.size, i.bytes)) = some (some (.int .u64 0), 1, 8) := by kernel_rfl
theorem Try.zero3 : ∀ w, (zeroValue 3).run Try.prog w = .ok (.int .i64 0) w := fun _ => by kernel_rfl

theorem grownBy_trans {w w1 w2 : World} {r1 r2 : Option Nat} (h1 : w.grownBy w1 r1) (h2 : w1.grownBy w2 r2) (hr : ∀ k, r2 = some k → r1 = some k ∨ w.heap.size ≤ k) : w.grownBy w2 r1 :=
  ⟨h2.os.trans h1.os, h2.tape.trans h1.tape, h2.output.trans h1.output, Nat.le_trans h1.size h2.size, fun k hk hne => by
    rw [h2.block k (Nat.lt_of_lt_of_le hk h1.size) (fun e => by
      rcases hr k e.symm with h | h
      · exact hne h.symm
      · omega)]
    exact h1.block k hk hne⟩

theorem arr_setCells (g : Nat) (e : TypeId) : ∀ (vs : List Value) (o : Nat) (w : World) (xs : List Value), Arr w g e xs → o + vs.length ≤ xs.length → Arr (w.setCells g o vs) g e (xs.take o ++ vs ++ xs.drop (o + vs.length)) ∧ w.grownBy (w.setCells g o vs) (some g)
  | [], o, w, xs, h, _ => by
    refine ⟨?_, World.grownBy.refl w _⟩
    simpa [World.setCells] using h
  | v :: r, o, w, xs, h, hl => by
    have ih := arr_setCells g e r (o + 1) (w.setCell ⟨g, o, none⟩ v) (xs.set o v) (h.set o v) (by simp at hl ⊢; omega)
    refine ⟨?_, grownBy_trans (grownBy_setCell w ⟨g, o, none⟩ v) ih.2 (fun _ hk => .inl hk)⟩
    have e1 : (xs.set o v).take (o + 1) = xs.take o ++ [v] := by
      simp at hl
      rw [List.take_succ_eq_append_getElem (by simp; omega)]
      simp [List.take_set_of_le]
    have e2 : (xs.set o v).drop (o + 1 + r.length) = xs.drop (o + 1 + r.length) := by
      rw [List.drop_set_of_lt (by omega)]
    have := ih.1
    rw [e1, e2] at this
    simpa [World.setCells, Nat.add_assoc, Nat.add_comm 1] using this

def TakeP (nc : Nat) (row : Nat) (sp : Value) (w : World) (old : Option Nat) (e : Ending) (w' : World) : Prop :=
  e = .returned (.tuple #[.slice (some ⟨row, 0, none⟩) nc nc, sp]) ∧ Arr w' row 3 (List.replicate nc (.int .i64 0)) ∧ w.grownBy w' old

theorem take_new (ao : Option Addr) (c nc : Nat) (w : World) (hnc : nc ≤ 4096) :
    Calls Try.prog 13 #[.slice ao 0 c, .int .i64 nc] w (TakeP nc w.heap.size (.slice ao 0 c) w none) := by
  have hm : nc ≤ maxLen := by unfold maxLen; omega
  go_enter Try.func13, Try.ntmps13
  go_wp2_with (at_make; refine wpList_mk rfl _ _ 30 rfl 3 (.int .i64 0) 8 Try.underlying30 Try.info3 rfl _ _ _ _ nc rfl rfl rfl rfl (by omega) hm ?_; intro w1 A1 G1)
  go_ret2
  exact ⟨rfl, A1, G1⟩

theorem take_old (gs m cs gr nc : Nat) (xs : List Value) (w : World) (hnc : 0 < nc) (_hnc2 : nc ≤ 4096) (hm : m < cs) (hm2 : m ≤ 4096) (hl : xs.length = nc) (hA : Arr w gr 3 xs) (hc : w.cell? ⟨gs, m, none⟩ = some (.slice (some ⟨gr, 0, none⟩) nc nc)) :
    Calls Try.prog 13 #[.slice (some ⟨gs, 0, none⟩) (m + 1) cs, .int .i64 nc] w (TakeP nc gr (.slice (some ⟨gs, 0, none⟩) m cs) w (some gr)) := by
  have hrun := Go.Lib.run_clear_slice (P := Try.prog) w 30 3 0 (.int .i64 0) Try.underlying30 Try.zero3 rfl rfl gr 0 nc nc hnc (fun j hj => by rw [Nat.zero_add, hA.cell, List.getElem?_eq_getElem (by omega)]; rfl) (fun j hj => by rw [Nat.zero_add]; exact hA.free j)
  obtain ⟨A1, G1⟩ := arr_setCells gr 3 (List.replicate nc (.int .i64 0)) 0 w xs hA (by simp; omega)
  have e : xs.take 0 ++ List.replicate nc (Value.int .i64 0) ++ xs.drop (0 + (List.replicate nc (Value.int .i64 0)).length) = List.replicate nc (.int .i64 0) := by
    rw [List.drop_of_length_le (by simp; omega)]; simp
  rw [e] at A1
  generalize w.setCells gr 0 (List.replicate nc (.int .i64 0)) = w1 at *
  have HA : Hid (Arr w1 gr 3 (List.replicate nc (.int .i64 0))) := A1
  have HG : Hid (w.grownBy w1 (some gr)) := G1
  clear A1 G1 hA e hl
  have hne : ((m : Int) + 1 == 0) = false := by rw [beq_eq_false_iff_ne]; omega
  go_enter Try.func13, Try.ntmps13
  go_wp2
  go_quiet (fail)
  go_wp2
  go_ret2
  exact ⟨rfl, HA.out.drewN _, grownBy_trans HG.out (grownBy_drewN _ _ none) (fun k hk => by cases hk)⟩
end Go.Proofs.Qxb6605431a.cc
