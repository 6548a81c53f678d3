import Derived.Test.YbulkccjsDoorHEqual
import Derived.WalkKit
import Derived.WalkSpells
import Derived.WalkLawsBesides
import Derived.Below
import Derived.BigQuiet
import Derived.Deep.QuietTactic
import Derived.Deep.AppendLies
import Derived.Deep.DrawnRows
namespace Go.Proofs.YbulkccjsDoor.H
open Go.RowKit
set_option linter.unusedSimpArgs false
set_option linter.unusedVariables false

set_option maxRecDepth 100000 in
theorem newList_is (p : Option Addr) (n : Nat) (w : World) (hn : n ≤ 1024) :
    Calls Ybad.prog 21 #[.int .u8 0, .pointer p, .int .i64 n] w fun e w' => ∃ g c, e = .returned (.agg #[.int .u8 0, .slice (some ⟨g, 0, none⟩) 0 c, .map none]) ∧ w'.ownsRow w.heap.size 38 4 (.slice (some ⟨g, 0, none⟩) 0 c) 0 [] ∧ Below w.heap.size w w' := by
  obtain ⟨i0, hi0, hz0, hz1, hz2⟩ := info_parts info38
  go_enter Ybad.func21, Ybad.ntmps21
  go_wp2_with (at_make; refine wpList_make_own _ rfl _ _ 34 rfl w.heap.size 38 i0 _ 4 Ybad.underlying34 hi0 hz0 hz1 .i64 .i64 _ n rfl rfl rfl (by rw [hz2]; omega) (by unfold maxLen; omega) (by simp <;> omega) ?_)
  intro w1 hown hgrow
  have t0 : Turn [] w ((w.alloc (.cells #[.int .u8 0, .slice none 0 0, .map none] 120)).alloc (.cells #[.int .u8 0, .slice none 0 0, .map none] 120)) := ((Turn.refl [] _).alloc _).alloc _
  have t1 : Turn [] ((w.alloc (.cells #[.int .u8 0, .slice none 0 0, .map none] 120)).alloc (.cells #[.int .u8 0, .slice none 0 0, .map none] 120)) w1 := (Turn.refl [] _).grown hgrow (by simp)
  have a0 : w1.cell? ⟨w.heap.size, 0, none⟩ = some (.int .u8 0) := (t1.cell (by simp <;> omega) (by simp)).trans (by go_simp)
  have a1 : w1.cell? ⟨w.heap.size, 1, none⟩ = some (.slice none 0 0) := (t1.cell (by simp <;> omega) (by simp)).trans (by go_simp)
  have a2 : w1.cell? ⟨w.heap.size, 2, none⟩ = some (.map none) := (t1.cell (by simp <;> omega) (by simp)).trans (by go_simp)
  have b0 : w1.cell? ⟨w.heap.size + 1, 0, none⟩ = some (.int .u8 0) := (t1.cell (by simp <;> omega) (by simp)).trans (by go_simp)
  have b1 : w1.cell? ⟨w.heap.size + 1, 1, none⟩ = some (.slice none 0 0) := (t1.cell (by simp <;> omega) (by simp)).trans (by go_simp)
  have b2 : w1.cell? ⟨w.heap.size + 1, 2, none⟩ = some (.map none) := (t1.cell (by simp <;> omega) (by simp)).trans (by go_simp)
  have za : ∀ j, w1.frozen? ⟨w.heap.size, j, none⟩ = false := fun j => (t1.frozen (by simp <;> omega) (by simp)).trans (by go_simp)
  have zb : ∀ j, w1.frozen? ⟨w.heap.size + 1, j, none⟩ = false := fun j => (t1.frozen (by simp <;> omega) (by simp)).trans (by go_simp)
  have hbel : Below w.heap.size w w1 := (t0.toBelow (by simp) (Nat.le_refl _)).trans (t1.toBelow (by simp) (by simp <;> omega))
  go_wp2
  refine bodyPost_ret (v := .agg #[.int .u8 0, .slice (some ⟨w.heap.size + 1 + 1, 0, none⟩) 0 n, .map none]) (by simp [results, Ybad.results21, go_sem, a0, a1, a2, b0, b1, b2]) rfl ⟨_, _, rfl, ?_, ?_⟩
  · refine own_turn hown (((((Turn.refl [w.heap.size, w.heap.size + 1] w1).setCell (by simp) _).setCell (by simp) _).setCell (by simp) _).setCell (by simp) _) (fun k hk => ?_)
    have : k = w.heap.size + 1 + 1 := by simpa [blk] using hk
    simp; omega
  · exact (((hbel.setCell (by simp <;> omega) _).setCell (by simp <;> omega) _).setCell (by simp <;> omega) _).setCell (by simp <;> omega) _
end Go.Proofs.YbulkccjsDoor.H
