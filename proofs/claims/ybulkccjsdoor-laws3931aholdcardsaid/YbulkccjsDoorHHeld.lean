import Derived.Test.YbulkccjsDoorHAdd
namespace Go.Proofs.YbulkccjsDoor.H
open Go.RowKit
set_option linter.unusedSimpArgs false
set_option linter.unusedVariables false

theorem cause_sum (ci t : Int) (w : World) :
    Calls Ybad.prog 12 #[.int .u16 ci, .int .u8 t] w fun e w' => e = .returned (.int .u8 ((ci + t) % 256)) ∧ w' = w := by
  refine (cause_is ci t w).mono ?_
  rintro e w' ⟨rfl, rfl⟩
  exact ⟨by rw [Int.emod_add_emod], rfl⟩

set_option maxRecDepth 100000 in
set_option maxHeartbeats 4000000 in
theorem heldm_is (S : Nat) (o : Option Addr) (n c : Nat) (hs : List Int) (ci t k : Int) (w : World) (h : U16 w o n hs) (hn : n ≤ 1024)
    (s0 : w.cell? ⟨S, 0, none⟩ = some (.slice o n c)) (s1 : w.cell? ⟨S, 1, none⟩ = some (.int .i64 k)) (z1 : w.frozen? ⟨S, 1, none⟩ = false) (hk : 0 ≤ k) (hk2 : k ≤ 1024) (ho : ∀ ad, o = some ad → ad.block ≠ S) (B : Bool) (HB : Hid (B = decide (ci ∈ hs))) :
    Calls Ybad.prog 63 #[.pointer (some ⟨S, 0, none⟩), cid ci, .int .u8 t] w fun e w' => e = .returned (.tuple #[.int .u8 ((ci + t) % 256), .bool B]) ∧ w'.cell? ⟨S, 1, none⟩ = some (.int .i64 (k + 1)) ∧ Turn [S] w w' ∧ w'.cell? ⟨S, 0, none⟩ = some (.slice o n c) ∧ w'.frozen? ⟨S, 1, none⟩ = false := by
  have hSl := lt_of_cell s0
  unfold cid
  go_enter Ybad.func63, Ybad.ntmps63
  go_wp2_with fail
  have ht : Turn [S] w ((w.setCell ⟨S, 1, none⟩ (.int .i64 (k + 1))).alloc (.cells #[.string ⟨#[]⟩, .string ⟨#[]⟩, .int .u16 0, .int .u16 ci] 38)) := ((Turn.refl [S] w).setCell (by simp) _).alloc _
  have e0 : ((w.setCell ⟨S, 1, none⟩ (.int .i64 (k + 1))).alloc (.cells #[.string ⟨#[]⟩, .string ⟨#[]⟩, .int .u16 0, .int .u16 ci] 38)).cell? ⟨S, 0, none⟩ = some (.slice o n c) := by go_simp
  have e1 : ((w.setCell ⟨S, 1, none⟩ (.int .i64 (k + 1))).alloc (.cells #[.string ⟨#[]⟩, .string ⟨#[]⟩, .int .u16 0, .int .u16 ci] 38)).cell? ⟨S, 1, none⟩ = some (.int .i64 (k + 1)) := by go_simp
  have b3 : ((w.setCell ⟨S, 1, none⟩ (.int .i64 (k + 1))).alloc (.cells #[.string ⟨#[]⟩, .string ⟨#[]⟩, .int .u16 0, .int .u16 ci] 38)).cell? ⟨w.heap.size, 3, none⟩ = some (.int .u16 ci) := by go_simp
  have z2 : ((w.setCell ⟨S, 1, none⟩ (.int .i64 (k + 1))).alloc (.cells #[.string ⟨#[]⟩, .string ⟨#[]⟩, .int .u16 0, .int .u16 ci] 38)).frozen? ⟨S, 1, none⟩ = false := by go_simp
  generalize (w.setCell ⟨S, 1, none⟩ (.int .i64 (k + 1))).alloc (.cells #[.string ⟨#[]⟩, .string ⟨#[]⟩, .int .u16 0, .int .u16 ci] 38) = W at *
  obtain ⟨A, hA⟩ : ∃ A, A = w.heap.size := ⟨_, rfl⟩
  rw [← hA] at b3 ⊢
  clear hA s0 s1 z1
  have hU : U16 W.drew o n hs := ⟨h.1, h.2.imp id fun ⟨ad, h1, h2⟩ => ⟨ad, h1, fun j u hu => by
    have := h2 j u hu
    exact (ht.cell (lt_of_cell this) (by simp only [Addr.add]; split <;> simpa using ho ad h1)).trans this⟩⟩
  go_region_with (first
    | (go_at_call 12; refine (cause_sum ci t _).mono ?_; rintro e w5 ⟨rfl, rfl⟩)
    | (go_at_call 10; refine (contains_is o n c hs ci _ hU hn B HB).mono ?_; rintro e w5 ⟨rfl, rfl⟩))
  all_goals
    go_wp2
    go_ret2
    exact ⟨rfl, e1, ht.drew, e0, z2⟩
end Go.Proofs.YbulkccjsDoor.H
