import Derived.Test.YbulkccjsDoorHLeaf
import Derived.Test.YbulkccjsDoorHWorld
import Derived.WalkKit
import Derived.WalkSpells
import Derived.WalkLawsBesides
import Derived.Below
import Derived.BigQuiet
import Derived.Deep.QuietTactic
import Derived.Deep.AppendLies
import Derived.Lib.SliceRun
namespace Go.Proofs.YbulkccjsDoor.H
open Go.RowKit
set_option linter.unusedSimpArgs false
set_option linter.unusedVariables false

theorem info31 : (Ybad.prog.info? 31).map (fun i => (i.zero, i.size, i.bytes)) = some (some (.int .u16 0), 1, 2) := by kernel_rfl

set_option maxRecDepth 100000 in
theorem clone_u16 (o : Option Addr) (n c : Nat) (zs : List Int) (w : World) (h : U16 w o n zs) (hn : n ≤ 1024) :
    Calls Ybad.prog 6 #[.slice o n c] w fun e w' => ∃ o' c', e = .returned (.slice o' n c') ∧ U16 w' o' n zs ∧ Below w.heap.size w w' := by
  cases o with
  | none =>
    obtain rfl : n = 0 := by
      rcases h.2 with h | ⟨ad, h, _⟩
      · exact h
      · cases h
    have heq := Go.Lib.run_eql_slice_nil (P := Ybad.prog) w 23 31 none 0 c 0 0 Ybad.underlying23
    go_enter Ybad.func6, Ybad.ntmps6
    go_wp2
    go_ret
    exact ⟨none, _, rfl, h, Below.refl _ _⟩
  | some ad =>
    have heq := Go.Lib.run_eql_slice_nil (P := Ybad.prog) w 23 31 (some ad) n c 0 0 Ybad.underlying23
    by_cases h0 : n = 0
    · subst h0
      go_enter Ybad.func6, Ybad.ntmps6
      go_wp2
      go_ret
      exact ⟨some ⟨w.heap.size, 0, none⟩, 0, rfl, ⟨h.1, .inl rfl⟩, (Below.refl _ _).alloc (Nat.le_refl _) _⟩
    · obtain ⟨i0, hi0, hz0, hz1, hz2⟩ := info_parts info31
      obtain ⟨hl, h1 | ⟨ad', h1, h2⟩⟩ := h
      · omega
      · cases h1
        have hown : (w.alloc (.cells #[] 31)).ownsRow w.heap.size 31 1 (.slice (some ⟨w.heap.size, 0, none⟩) 0 0) 0 [] := by
          refine ⟨rfl, .inr ⟨w.heap.size, 0, #[], rfl, Nat.le_refl _, (MapKept.heap_alloc w _).1, ?_⟩⟩
          exact ⟨by omega, by unfold maxLen; omega, rfl, rfl⟩
        go_enter Ybad.func6, Ybad.ntmps6
        go_wp2_with (at_builtin; refine wpList_append_lies _ rfl (.tmp 5) (.tmp 6) 23 rfl w.heap.size 31 i0 (.int .u16 0) 1 2 Ybad.underlying23 hi0 hz0 hz1 hz2 rfl (by decide) (.slice (some ⟨w.heap.size, 0, none⟩) 0 0) 0 [] rfl hown ad n c (zs.map (.int .u16)) rfl (by simp [hl]) ?c1 ?c2 (by omega) (by unfold maxLen; omega) (by omega) (by simp) (w.heap.size + 1) (by simp) ?_)
        case c1 =>
          intro j u hj
          rw [List.getElem?_map] at hj
          obtain ⟨z, hz, rfl⟩ := Option.map_eq_some_iff.1 hj
          have hc := h2 j z hz
          exact (((Below.refl w.heap.size w).alloc (Nat.le_refl _) _).cell (lt_of_cell hc)).trans hc
        case c2 =>
          intro u hu
          obtain ⟨z, _, rfl⟩ := List.mem_map.1 hu
          rfl
        intro g cap w1 hown1 hgrow _ _
        go_wp2
        go_ret
        refine ⟨some ⟨g, 0, none⟩, cap, by simp, ⟨hl, .inr ⟨_, rfl, fun k u hu => ?_⟩⟩, ?_⟩
        · have hkn : k < n := by
            have := (List.getElem?_eq_some_iff.1 hu).1
            omega
          rw [Addr.add_lit, Nat.zero_add, hown1.cellAt k (by simpa using hkn)]
          simp [hu]
        · exact ((Below.refl w.heap.size w).alloc (Nat.le_refl _) _).grown hgrow (by simp) (by simp [Value.ownBlock])

theorem info38 : (Ybad.prog.info? 38).map (fun i => (i.zero, i.size, i.bytes)) = some (some (.agg #[.string ⟨#[]⟩, .string ⟨#[]⟩, .int .u16 0, .int .u16 0]), 4, 40) := by kernel_rfl

/-- The cells of a row of cells that have a CI only. -/
def cidCells (zs : List Int) : List Value := zs.flatMap fun z => [.string ⟨#[]⟩, .string ⟨#[]⟩, .int .u16 0, .int .u16 z]
theorem cidCells_length (zs : List Int) : (cidCells zs).length = zs.length * 4 := by
  induction zs with
  | nil => rfl
  | cons z zs ih =>
    have : cidCells (z :: zs) = [.string ⟨#[]⟩, .string ⟨#[]⟩, .int .u16 0, .int .u16 z] ++ cidCells zs := rfl
    rw [this, List.length_append, ih]; simp; omega
theorem cidCells_one (zs : List Int) : ∀ u ∈ cidCells zs, u.oneCell' = true := by
  intro u hu
  obtain ⟨z, _, hu⟩ := List.mem_flatMap.1 hu
  simp at hu
  rcases hu with rfl | rfl | rfl <;> rfl

set_option maxRecDepth 100000 in
theorem clone_cid (cb n c base : Nat) (zs : List Int) (w : World) (h : w.ownsRow base 38 4 (.slice (some ⟨cb, 0, none⟩) n c) n (cidCells zs)) (hn : n ≤ 1024) :
    Calls Ybad.prog 7 #[.slice (some ⟨cb, 0, none⟩) n c] w fun e w' => ∃ g c', e = .returned (.slice (some ⟨g, 0, none⟩) n c') ∧ w'.ownsRow w.heap.size 38 4 (.slice (some ⟨g, 0, none⟩) n c') n (cidCells zs) ∧ Below w.heap.size w w' := by
  have heq := Go.Lib.run_eql_slice_nil (P := Ybad.prog) w 34 38 (some ⟨cb, 0, none⟩) n c 0 0 Ybad.underlying34
  have hl := h.1
  have hown : (w.alloc (.cells #[] 38)).ownsRow w.heap.size 38 4 (.slice (some ⟨w.heap.size, 0, none⟩) 0 0) 0 [] := by
    refine ⟨rfl, .inr ⟨w.heap.size, 0, #[], rfl, Nat.le_refl _, (MapKept.heap_alloc w _).1, ?_⟩⟩
    exact ⟨by omega, by unfold maxLen; omega, rfl, rfl⟩
  by_cases h0 : n = 0
  · subst h0
    obtain rfl : zs = [] := by
      rw [cidCells_length] at hl
      exact List.length_eq_zero_iff.1 (by omega)
    go_enter Ybad.func7, Ybad.ntmps7
    go_wp2
    go_ret
    exact ⟨w.heap.size, 0, rfl, hown, (Below.refl _ _).alloc (Nat.le_refl _) _⟩
  · obtain ⟨i0, hi0, hz0, hz1, hz2⟩ := info_parts info38
    go_enter Ybad.func7, Ybad.ntmps7
    go_wp2_with (at_builtin; refine wpList_append_lies _ rfl (.tmp 5) (.tmp 6) 34 rfl w.heap.size 38 i0 _ 4 40 Ybad.underlying34 hi0 hz0 hz1 hz2 rfl (by decide) (.slice (some ⟨w.heap.size, 0, none⟩) 0 0) 0 [] rfl hown ⟨cb, 0, none⟩ n c (cidCells zs) rfl hl ?c1 (cidCells_one zs) (by omega) (by unfold maxLen; omega) (by omega) (by simp) (w.heap.size + 1) (by simp) ?_)
    case c1 =>
      intro j u hj
      have hc : w.cell? ⟨cb, j, none⟩ = some u := by rw [h.cellAt j (by have := (List.getElem?_eq_some_iff.1 hj).1; omega)]; exact hj
      rw [Addr.add_lit, Nat.zero_add]
      exact (((Below.refl w.heap.size w).alloc (Nat.le_refl _) _).cell (lt_of_cell hc)).trans hc
    intro g cap w1 hown1 hgrow _ _
    go_wp2
    go_ret
    refine ⟨g, cap, by simp, ?_, ?_⟩
    · simpa using hown1
    · exact ((Below.refl w.heap.size w).alloc (Nat.le_refl _) _).grown hgrow (by simp) (by simp [Value.ownBlock])
end Go.Proofs.YbulkccjsDoor.H
