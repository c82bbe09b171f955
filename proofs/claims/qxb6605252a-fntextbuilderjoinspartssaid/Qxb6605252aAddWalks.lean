import Derived.Test.Qxb6605252aBytes
import Derived.OpenShut
import Derived.Deep.QuietTactic
import Derived.BigQuiet
namespace Go.Proofs.Qxb6605252a.add
open Go.RowKit Go.Proofs.Qxb6605252a.bs

theorem Try.info5 : (Try.prog.info? 5).map (fun i => (i.zero, i.size, i.bytes)) = some (some (.int .u8 0), 1, 1) := by kernel_rfl
theorem Try.size5 : (Try.prog.info? 5).map (·.size) = some 1 := by kernel_rfl

theorem zadd_empty (s : ByteArray) (ao : Option Addr) (n cap : Nat) (w : World) (p : ByteArray) (hpe : p.toList.isEmpty = true) :
    Calls Try.prog 8 #[.string s, .slice ao n cap, .string p] w fun e w' => e = .returned (.tuple #[.string s, .slice ao n cap]) ∧ w.grownBy w' none := by
  go_enter Try.func8, Try.ntmps8
  go_wp2
  go_end0
  go_wp2
  go_quiet (fail)
  go_wp2
  go_ret2
  exact ⟨rfl, ⟨rfl, rfl, rfl, by simp, fun k hk _ => heap_alloc_old w _ hk⟩⟩

theorem zadd_first (s : ByteArray) (w : World) (p : ByteArray) (hpe : p.toList.isEmpty = false) (hse : s.toList.isEmpty = true) :
    Calls Try.prog 8 #[.string s, .slice none 0 0, .string p] w fun e w' => e = .returned (.tuple #[.string p, .slice none 0 0]) ∧ w.grownBy w' none := by
  have hq := fun w => Go.Lib.run_eql_slice_nil (P := Try.prog) w 22 5 none 0 0 0 0 Try.underlying22
  simp only [Option.isNone_none] at hq
  go_enter Try.func8, Try.ntmps8
  go_wp2
  go_end0
  go_wp2
  go_quiet (fail)
  go_wp2
  go_ret2
  exact ⟨rfl, ⟨rfl, rfl, rfl, by simp, fun k hk _ => heap_alloc_old w _ hk⟩⟩

def AddP (ao : Option Addr) (s : ByteArray) (l : List UInt8) (w : World) (e : Ending) (w' : World) : Prop :=
  ∃ ao' n' cap', e = .returned (.tuple #[.string s, .slice ao' n' cap']) ∧ Buf w' ao' n' cap' l ∧ w.grownBy w' (blk ao) ∧ Near w ao ao' ∧ ao' ≠ none

/-- The struct that the call has laid stands as it was, whatever another row has turned. -/
theorem box_kept {w w1 : World} {x y : Value} {row : Option Nat} (hg : (w.alloc (.cells #[x, y] 34)).grownBy w1 row) (hne : row ≠ some w.heap.size) :
    w1.cell? ⟨w.heap.size, 0, none⟩ = some x ∧ w1.cell? ⟨w.heap.size, 1, none⟩ = some y ∧ w1.frozen? ⟨w.heap.size, 0, none⟩ = false ∧ w1.frozen? ⟨w.heap.size, 1, none⟩ = false ∧ w.heap.size < w1.heap.size := by
  have hb : w1.heap[w.heap.size]? = (w.alloc (.cells #[x, y] 34)).heap[w.heap.size]? := hg.block _ (by simp) (fun e => hne e.symm)
  have e1 : ∀ j, w1.cell? ⟨w.heap.size, j, none⟩ = (w.alloc (.cells #[x, y] 34)).cell? ⟨w.heap.size, j, none⟩ := fun j => World.cell?_of_block (w := w.alloc (.cells #[x, y] 34)) hb
  have e2 : ∀ j, w1.frozen? ⟨w.heap.size, j, none⟩ = (w.alloc (.cells #[x, y] 34)).frozen? ⟨w.heap.size, j, none⟩ := fun j => World.frozen?_of_block (w := w.alloc (.cells #[x, y] 34)) hb
  have hs := hg.size
  simp only [e1, e2, World.cell?_alloc_mark, World.frozen?_alloc_mark]
  refine ⟨rfl, rfl, by simp, by simp, ?_⟩
  simp at hs
  omega

theorem add_fin {w w1 : World} {o : Obj} {ao a1 : Option Addr} {n1 c1 k : Nat} {l : List UInt8} {s : ByteArray} (B1 : Buf w1 a1 n1 c1 l) (G1 : (w.alloc o).grownBy w1 (blk ao)) (N1 : Near (w.alloc o) ao a1) (hao : ∀ g, blk ao = some g → g < w.heap.size) (h1 : a1 ≠ none) :
    AddP ao s l w (.returned (.tuple #[.string s, .slice a1 n1 c1])) ((w1.setCell ⟨w.heap.size, 1, none⟩ (.slice a1 n1 c1)).drewN k) := by
  have hne : blk a1 ≠ some w.heap.size := by
    rcases N1 with rfl | ⟨g, rfl, hg⟩
    · intro e
      have := hao _ e
      omega
    · simp at hg
      simp [blk]
      omega
  have G2 := grownBy_setCell w1 ⟨w.heap.size, 1, none⟩ (.slice a1 n1 c1)
  refine ⟨a1, n1, c1, rfl, (B1.kept G2 (.inr hne)).drewN k, ?_, ?_, h1⟩
  · have G0 : w.grownBy w1 (blk ao) := grownBy_trans (World.grownBy_alloc w o (blk ao)) G1 (fun k hk => .inl hk)
    exact grownBy_trans (grownBy_trans G0 G2 (fun k hk => .inr (by simp at hk; omega))) (grownBy_drewN _ _ none) (fun k hk => by cases hk)
  · rcases N1 with rfl | ⟨g, rfl, hg⟩
    · exact .inl rfl
    · simp at hg
      exact .inr ⟨g, rfl, by omega⟩

theorem zadd_more (s : ByteArray) (g : Nat) (n cap : Nat) (l : List UInt8) (w : World) (p : ByteArray) (hpe : p.toList.isEmpty = false) (hB : Buf w (some ⟨g, 0, none⟩) n cap l) (hb : n + p.size ≤ 1073741824) :
    Calls Try.prog 8 #[.string s, .slice (some ⟨g, 0, none⟩) n cap, .string p] w (AddP (some ⟨g, 0, none⟩) s (l ++ p.data.toList) w) := by
  have hq := fun w => Go.Lib.run_eql_slice_nil (P := Try.prog) w 22 5 (some ⟨g, 0, none⟩) n cap 0 0 Try.underlying22
  simp only [Option.isNone_some] at hq
  have hg : g < w.heap.size := hB.blk_lt rfl
  cases hse : s.toList.isEmpty
  all_goals
    go_enter Try.func8, Try.ntmps8
    go_wp2_with (first | (at_builtin; refine wpList_app_str rfl (.tmp 21) (.tmp 22) 22 9 rfl Try.underlying22 Try.underlying9 Try.info5 _ _ _ rfl _ rfl l (hB.alloc _) hb ?_; intro a1 n1 c1 w1 B1 G1 N1 E1; obtain ⟨k0, k1, f0, f1, hz⟩ := box_kept G1 (by simp [blk]; omega)) | go_in)
    go_end0
    go_wp2
    go_quiet (fail)
    go_wp2
    go_ret2
    exact add_fin B1 G1 N1 (by simpa [blk] using hg) (by simp [E1])

theorem zadd_copy (s : ByteArray) (w : World) (p : ByteArray) (hpe : p.toList.isEmpty = false) (hse : s.toList.isEmpty = false) (hb : s.size + p.size ≤ 1073741824) :
    Calls Try.prog 8 #[.string s, .slice none 0 0, .string p] w (AddP none s (s.data.toList ++ p.data.toList) w) := by
  have hq := fun w => Go.Lib.run_eql_slice_nil (P := Try.prog) w 22 5 none 0 0 0 0 Try.underlying22
  simp only [Option.isNone_none] at hq
  obtain ⟨c0, w0, hcv, B0, G0⟩ := run_bytes_buf (P := Try.prog) (w.alloc (.cells #[.string s, .slice none 0 0] 34)) 9 22 s Try.underlying9 Try.underlying22 Try.underlying5
  obtain ⟨k0, k1, f0, f1, hz⟩ := box_kept G0 (by simp)
  rw [World.size_alloc] at hcv B0
  have BS : Hid (Buf (w0.setCell ⟨w.heap.size, 1, none⟩ (.slice (some ⟨w.heap.size + 1, 0, none⟩) s.size c0)) (some ⟨w.heap.size + 1, 0, none⟩) s.size c0 s.data.toList) :=
    B0.kept (grownBy_setCell w0 ⟨w.heap.size, 1, none⟩ _) (.inr (by simp [blk]))
  have HG0 : Hid ((w.alloc (.cells #[.string s, .slice none 0 0] 34)).grownBy w0 none) := G0
  have kk : ∀ u, (w0.setCell ⟨w.heap.size, 1, none⟩ u).cell? ⟨w.heap.size, 1, none⟩ = some u := fun u => World.cell?_setCell_same _ _ _ k1
  have kk0 : ∀ u, (w0.setCell ⟨w.heap.size, 1, none⟩ u).cell? ⟨w.heap.size, 0, none⟩ = some (.string s) := fun u => (World.cell?_setCell_other _ _ _ _ (by simp)).trans k0
  have ff : ∀ u j, (w0.setCell ⟨w.heap.size, 1, none⟩ u).frozen? ⟨w.heap.size, j, none⟩ = w0.frozen? ⟨w.heap.size, j, none⟩ := fun u j => by simp
  have HFAR : Hid (∀ w2, (w0.setCell ⟨w.heap.size, 1, none⟩ (.slice (some ⟨w.heap.size + 1, 0, none⟩) s.size c0)).grownBy w2 (some (w.heap.size + 1)) → w2.cell? ⟨w.heap.size, 0, none⟩ = some (.string s) ∧ w2.cell? ⟨w.heap.size, 1, none⟩ = some (.slice (some ⟨w.heap.size + 1, 0, none⟩) s.size c0) ∧ w2.frozen? ⟨w.heap.size, 1, none⟩ = false ∧ w.heap.size < w2.heap.size) := by
    intro w2 hg
    have hb := hg.block w.heap.size (by simpa using hz) (by simp)
    refine ⟨?_, ?_, ?_, ?_⟩
    · rw [World.cell?_of_block (a := ⟨w.heap.size, 0, none⟩) hb, kk0]
    · rw [World.cell?_of_block (a := ⟨w.heap.size, 1, none⟩) hb, kk]
    · rw [World.frozen?_of_block (a := ⟨w.heap.size, 1, none⟩) hb, ff, f1]
    · have := hg.size
      simp at this
      omega
  clear kk kk0 ff B0 G0
  go_enter Try.func8, Try.ntmps8
  go_wp2_with (first | (at_builtin; refine wpList_app_str rfl (.tmp 21) (.tmp 22) 22 9 rfl Try.underlying22 Try.underlying9 Try.info5 _ _ _ rfl _ rfl s.data.toList BS.out hb ?_; intro a1 n1 c1 w1 B1 G1 N1 E1; obtain ⟨m0, m1, m2, m3⟩ := HFAR.out w1 G1) | go_in)
  go_end0
  go_wp2
  go_quiet (fail)
  go_wp2
  go_ret2
  have hgw : w.heap.size ≤ w0.heap.size := by omega
  have G01 : w.grownBy w0 none := grownBy_trans (World.grownBy_alloc w _ none) HG0.out (fun k hk => by cases hk)
  have G02 := grownBy_trans G01 (grownBy_setCell w0 ⟨w.heap.size, 1, none⟩ (.slice (some ⟨w.heap.size + 1, 0, none⟩) s.size c0)) (fun k hk => .inr (by simp at hk; omega))
  have G03 : w.grownBy w1 none := grownBy_trans G02 G1 (fun k hk => .inr (by simp [blk] at hk; omega))
  have hsz1 : w.heap.size + 1 < w0.heap.size := by simpa using BS.out.blk_lt (k := w.heap.size + 1) rfl
  have hN : ∃ g, a1 = some ⟨g, 0, none⟩ ∧ w.heap.size + 1 ≤ g := by
    rcases N1 with h | ⟨g, h, hg⟩
    · exact ⟨_, h, Nat.le_refl _⟩
    · simp at hg
      exact ⟨g, h, by omega⟩
  obtain ⟨g, rfl, hg⟩ := hN
  have G2 := grownBy_setCell w1 ⟨w.heap.size, 1, none⟩ (.slice (some ⟨g, 0, none⟩) n1 c1)
  refine ⟨_, n1, c1, rfl, (B1.kept G2 (.inr (by simp [blk]; omega))).drewN _, ?_, .inr ⟨g, rfl, by omega⟩, by simp⟩
  exact grownBy_trans (grownBy_trans G03 G2 (fun k hk => .inr (by simp at hk; omega))) (grownBy_drewN _ _ none) (fun k hk => by cases hk)
end Go.Proofs.Qxb6605252a.add
