import Derived.Test.YbulkccjsDoorHMap
import Derived.WalkKit
import Derived.WalkSpells
import Derived.WalkLawsBesides
import Derived.Below
import Derived.BigQuiet
import Derived.Deep.QuietTactic
import Derived.Lib.SliceRun
namespace Go.Proofs.YbulkccjsDoor.H
open Go.RowKit
set_option linter.unusedSimpArgs false
set_option linter.unusedVariables false

theorem row_at {w : World} {base g n c : Nat} {zs : List Int} (h : w.ownsRow base 38 4 (.slice (some ⟨g, 0, none⟩) n c) n (cidCells zs)) (k : Nat) (hk : k < n) :
    ∃ z, zs[k]? = some z ∧ w.cell? ⟨g, k * 4, none⟩ = some (.string ⟨#[]⟩) ∧ w.cell? ⟨g, k * 4 + 1, none⟩ = some (.string ⟨#[]⟩) ∧ w.cell? ⟨g, k * 4 + 2, none⟩ = some (.int .u16 0) ∧ w.cell? ⟨g, k * 4 + 3, none⟩ = some (.int .u16 z) := by
  have hl : zs.length = n := by have := h.1; rw [cidCells_length] at this; omega
  have key : ∀ (zs : List Int) (k : Nat) (hk : k < zs.length) (j : Nat), j < 4 → (cidCells zs)[k * 4 + j]? = ([.string ⟨#[]⟩, .string ⟨#[]⟩, .int .u16 0, .int .u16 zs[k]] : List Value)[j]? := by
    intro zs
    induction zs with
    | nil => intro k hk; simp at hk
    | cons z zs ih =>
      intro k hk j hj
      have e : cidCells (z :: zs) = [.string ⟨#[]⟩, .string ⟨#[]⟩, .int .u16 0, .int .u16 z] ++ cidCells zs := rfl
      rw [e]
      cases k with
      | zero => rw [List.getElem?_append_left (by simp; omega)]; simp
      | succ k =>
        rw [List.getElem?_append_right (by simp; omega)]
        have := ih k (by simpa using hk) j hj
        simp only [List.length_cons, List.length_nil, List.getElem_cons_succ]
        rw [← this]
        congr 1
        omega
  refine ⟨zs[k], List.getElem?_eq_getElem (by omega), ?_, ?_, ?_, ?_⟩
  · rw [h.cellAt _ (by omega)]; exact key zs k (by omega) 0 (by omega)
  · rw [h.cellAt _ (by omega)]; exact key zs k (by omega) 1 (by omega)
  · rw [h.cellAt _ (by omega)]; exact key zs k (by omega) 2 (by omega)
  · rw [h.cellAt _ (by omega)]; exact key zs k (by omega) 3 (by omega)

theorem equal_is (g g' n c c' base base' : Nat) (zs : List Int) (w : World) (h : w.ownsRow base 38 4 (.slice (some ⟨g, 0, none⟩) n c) n (cidCells zs)) (h' : w.ownsRow base' 38 4 (.slice (some ⟨g', 0, none⟩) n c') n (cidCells zs)) (hn : n ≤ 1024) (hz : ∀ z ∈ zs, wf16 z) :
    Calls Ybad.prog 13 #[.slice (some ⟨g, 0, none⟩) n c, .slice (some ⟨g', 0, none⟩) n c'] w fun e w' => e = .returned (.bool true) ∧ ∃ m, w' = w.drewN m := by
  go_enter Ybad.func13, Ybad.ntmps13
  go_wp2_with fail
  go_loopw [13] (fun i W => ∃ k : Nat, k ≤ n ∧ i = .int .i64 k ∧ ∃ m, W = w.drewN m) (fun i _ => n - (intOf i).toNat)
  case atStart => exact ⟨0, by omega, rfl, 0, rfl⟩
  case round =>
    obtain ⟨k, hk, rfl, m, rfl⟩ := hrel
    by_cases hlt : k < n
    · obtain ⟨z, hz1, a0, a1, a2, a3⟩ := row_at h k hlt
      obtain ⟨z', hz2, b0, b1, b2, b3⟩ := row_at h' k hlt
      obtain rfl : z = z' := Option.some.inj (hz1.symm.trans hz2)
      have y1 : (k : Int) < (n : Int) := by omega
      have hne := fun W => neq_cid W z (hz z (List.mem_of_getElem? hz1))
      unfold cid at hne
      go_wp2_with fail
      go_quiet (fail)
      go_wp2
      go_roundw
      case rel => exact ⟨k + 1, by omega, by go_num, _, rfl⟩
      case measure => simp [intOf]; omega
    · obtain rfl : n = k := by omega
      go_wp2
      go_ret
      exact ⟨rfl, m, rfl⟩
end Go.Proofs.YbulkccjsDoor.H
