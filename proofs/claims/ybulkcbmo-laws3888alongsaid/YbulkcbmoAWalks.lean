import Derived.Test.YbulkcbmoRows
import Derived.WalkKit
import Derived.WalkSpells
import Derived.WalkLawsBesides
import Derived.Below
import Derived.RegionTactic
import Derived.Lib.EndianBits
namespace Go.Proofs.Ybulkcbmo.AWalks
open Go.RowKit

theorem lt_of_cell {w : World} {a : Addr} {v : Value} (h : w.cell? a = some v) : a.block < w.heap.size := by
  simp only [World.cell?] at h
  rcases Nat.lt_or_ge a.block w.heap.size with h' | h'
  · exact h'
  · simp [Array.getElem?_eq_none h'] at h
theorem cell_alloc {w : World} {a : Addr} {v : Value} (o : Obj) (h : w.cell? a = some v) : (w.alloc o).cell? a = some v := by
  rw [World.cell?_alloc_old _ _ _ (Nat.ne_of_lt (lt_of_cell h)), h]

theorem ret_int {k : IntKind} {a b : Int} (h : a = b) : Ending.returned (.int k a) = .returned (.int k b) := by rw [h]

theorem be_any (g o n c : Nat) (x0 x1 : Int) (w : World) (hn : 2 ≤ n) (h0 : 0 ≤ x0 ∧ x0 ≤ 255) (h1 : 0 ≤ x1 ∧ x1 ≤ 255)
    (c0 : w.cell? ⟨g, o, none⟩ = some (.int .u8 x0)) (c1 : w.cell? ⟨g, o + 1, none⟩ = some (.int .u8 x1)) :
    Calls Yba.prog 11 #[.agg #[], .slice (some ⟨g, o, none⟩) n c] w fun e w' => e = .returned (.int .u16 (x0 * 256 + x1)) ∧ Below w.heap.size w w' := by
  have d0 := cell_alloc (.cells #[] 81) c0
  have d1 := cell_alloc (.cells #[] 81) c1
  go_enter Yba.func11, Yba.ntmps11
  go_wp2
  go_region
  all_goals go_wp2
  all_goals go_ret
  all_goals
    refine ⟨?_, Below.drew ((Below.refl _ w).alloc (Nat.le_refl _) _)⟩
    simp (disch := omega) only [u16_or8]
    exact ret_int (by omega)

theorem be16_any (g o n c : Nat) (x0 x1 : Int) (w : World) (hn : 2 ≤ n) (h0 : 0 ≤ x0 ∧ x0 ≤ 255) (h1 : 0 ≤ x1 ∧ x1 ≤ 255)
    (c0 : w.cell? ⟨g, o, none⟩ = some (.int .u8 x0)) (c1 : w.cell? ⟨g, o + 1, none⟩ = some (.int .u8 x1)) :
    Calls Yba.prog 8 #[.slice (some ⟨g, o, none⟩) n c] w fun e w' => e = .returned (.int .u16 (x0 * 256 + x1)) ∧ Below w.heap.size w w' := by
  go_enter Yba.func8, Yba.ntmps8
  go_wp2_with (go_at_call 11; refine (be_any g o n c x0 x1 _ hn h0 h1 c0 c1).mono ?_; rintro e w' ⟨rfl, hb⟩)
  go_ret
  exact ⟨rfl, hb⟩

/-- variableLength of an empty slice. -/
theorem vl_none (a : Option Addr) (c : Nat) (w : World) :
    Calls Yba.prog 6 #[.slice a 0 c] w fun e w' => e = .returned (.tuple #[.int .i64 0, .int .i64 0]) ∧ w' = w := by
  go_enter Yba.func6, Yba.ntmps6
  go_wp2
  go_ret2
  exact ⟨rfl, rfl⟩

theorem vl_short (g n c : Nat) (x0 : Int) (w : World) (hn : 1 ≤ n) (hm : n ≤ 10000) (h0 : 0 ≤ x0 ∧ x0 < 255)
    (c0 : w.cell? ⟨g, 0, none⟩ = some (.int .u8 x0)) :
    Calls Yba.prog 6 #[.slice (some ⟨g, 0, none⟩) n c] w fun e w' => e = .returned (.tuple #[.int .i64 x0, .int .i64 1]) ∧ w' = w := by
  go_enter Yba.func6, Yba.ntmps6
  go_wp2
  go_ret2
  exact ⟨rfl, rfl⟩

theorem vl_cut (g n c : Nat) (w : World) (hn : 1 ≤ n) (hm : n < 3)
    (c0 : w.cell? ⟨g, 0, none⟩ = some (.int .u8 255)) :
    Calls Yba.prog 6 #[.slice (some ⟨g, 0, none⟩) n c] w fun e w' => e = .returned (.tuple #[.int .i64 0, .int .i64 0]) ∧ w' = w := by
  go_enter Yba.func6, Yba.ntmps6
  go_wp2
  go_ret2
  exact ⟨rfl, rfl⟩

theorem vl_long (g n c : Nat) (x1 x2 : Int) (w : World) (hn : 3 ≤ n) (hm : n ≤ 10000) (hnc : n ≤ c) (h1 : 0 ≤ x1 ∧ x1 ≤ 255) (h2 : 0 ≤ x2 ∧ x2 ≤ 255)
    (c0 : w.cell? ⟨g, 0, none⟩ = some (.int .u8 255)) (c1 : w.cell? ⟨g, 1, none⟩ = some (.int .u8 x1)) (c2 : w.cell? ⟨g, 2, none⟩ = some (.int .u8 x2)) :
    Calls Yba.prog 6 #[.slice (some ⟨g, 0, none⟩) n c] w fun e w' => e = .returned (.tuple #[.int .i64 (x1 * 256 + x2), .int .i64 3]) ∧ Below w.heap.size w w' := by
  go_enter Yba.func6, Yba.ntmps6
  go_wp2_with (go_at_call 8; refine (be16_any g 1 (n - 1) (c - 1) x1 x2 _ (by omega) h1 h2 c1 c2).mono ?_; rintro e w' ⟨rfl, hb⟩)
  go_ret2
  exact ⟨rfl, hb⟩
end Go.Proofs.Ybulkcbmo.AWalks
