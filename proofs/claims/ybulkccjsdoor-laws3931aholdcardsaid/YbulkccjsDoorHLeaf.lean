import Derived.Test.YbulkccjsDoorRows
import Derived.WalkKit
import Derived.WalkSpells
import Derived.WalkLawsBesides
import Derived.Below
import Derived.BigQuiet
import Derived.Deep.QuietTactic
namespace Go.Proofs.YbulkccjsDoor.H
open Go.RowKit
set_option linter.unusedSimpArgs false
set_option linter.unusedVariables false

/-- The table's first row, as the door lays it. -/
structure Tab (w : World) : Prop where
  n : ∃ s : ByteArray, w.cell? ⟨1, 0, none⟩ = some (.string s) ∧ s.toList.isEmpty = false
  p : w.cell? ⟨1, 1, none⟩ = some (.bool true)
  l : w.cell? ⟨1, 2, none⟩ = some (.bool true)
  c : w.cell? ⟨1, 3, none⟩ = some (.bool true)

/-- The identification of a cell that has a CI only. -/
def cid (ci : Int) : Value := .agg #[.string ⟨#[]⟩, .string ⟨#[]⟩, .int .u16 0, .int .u16 ci]

theorem Tab.below {w w' : World} (h : Tab w) (hb : 1 < w.heap.size) (hB : Below w.heap.size w w') : Tab w' := by
  obtain ⟨s, h0, hs⟩ := h.n
  exact ⟨⟨s, (hB.cell (p := ⟨1, 0, none⟩) hb).trans h0, hs⟩, (hB.cell (p := ⟨1, 1, none⟩) hb).trans h.p, (hB.cell (p := ⟨1, 2, none⟩) hb).trans h.l, (hB.cell (p := ⟨1, 3, none⟩) hb).trans h.c⟩

theorem used_cgi (w : World) (h : Tab w) :
    Calls Ybad.prog 42 #[.int .u8 0] w fun e w' => e = .returned (.bool true) ∧ w' = w := by
  obtain ⟨s, h0, hs⟩ := h.n
  go_enter Ybad.func42, Ybad.ntmps42
  go_wp2
  go_ret
  exact ⟨by simp [hs], rfl⟩

theorem cause_is (ci t : Int) (w : World) :
    Calls Ybad.prog 12 #[.int .u16 ci, .int .u8 t] w fun e w' => e = .returned (.int .u8 ((ci % 256 + t) % 256)) ∧ w' = w := by
  go_enter Ybad.func12, Ybad.ntmps12
  go_wp2
  go_ret
  exact ⟨rfl, rfl⟩

theorem identify_cgi (ci : Int) (w : World) (h : Tab w) (hb : 1 < w.heap.size) :
    Calls Ybad.prog 35 #[.int .u8 0, cid ci] w fun e w' => e = .returned (cid ci) ∧ Below w.heap.size w w' := by
  obtain ⟨s, h0, hs⟩ := h.n
  have h1 := h.p
  have h2 := h.l
  have h3 := h.c
  have hb4 : 1 < w.heap.size + 1 + 1 := by omega
  have hb3 : 1 < w.heap.size + 1 := by omega
  unfold cid
  go_enter Ybad.func35, Ybad.ntmps35
  go_wp2_with fail
  refine (used_cgi _ (h.below hb ((((Below.refl _ _).alloc (Nat.le_refl _) _).alloc (by simp <;> omega) _).alloc (by simp <;> omega) _))).mono ?_
  rintro e w' ⟨rfl, rfl⟩
  go_wp2
  refine bodyPost_ret (v := cid ci) (by simp [results, Ybad.results35, go_sem, cid]) rfl ⟨rfl, ?_⟩
  repeat (first | exact Below.refl _ _ | refine Below.setCell ?_ (by simp <;> omega) _ | refine Below.alloc ?_ (by simp <;> omega) _)

/-- What the cells of a slice of uint16 hold. -/
def U16 (w : World) (o : Option Addr) (n : Nat) (zs : List Int) : Prop :=
  zs.length = n ∧ (n = 0 ∨ ∃ ad, o = some ad ∧ ∀ k u, zs[k]? = some u → w.cell? (ad.add k) = some (.int .u16 u))

theorem U16.at {w : World} {o : Option Addr} {n : Nat} {zs : List Int} (h : U16 w o n zs) (k : Nat) (hk : k < n) : ∃ ad u, o = some ad ∧ zs[k]? = some u ∧ w.cell? (ad.add k) = some (.int .u16 u) := by
  obtain ⟨h1, h2 | ⟨ad, h2, h3⟩⟩ := h
  · omega
  · exact ⟨ad, zs[k], h2, List.getElem?_eq_getElem _, h3 k _ (List.getElem?_eq_getElem _)⟩

theorem idx_first (v : Int) : ∀ (zs : List Int) (k : Nat) (hk : k < zs.length), zs[k] = v → v ∉ zs.take k → zs.idxOf v = k
  | [], k, hk, _, _ => by simp at hk
  | z :: zs, 0, _, h, _ => by simp at h; simp [h]
  | z :: zs, k + 1, hk, h, hn => by
    simp at h hk hn
    rw [List.idxOf_cons]
    have hz : (z == v) = false := by simpa using fun e : z = v => hn.1 e.symm
    rw [hz, idx_first v zs k hk h hn.2]; rfl

theorem index_is (o : Option Addr) (n c : Nat) (zs : List Int) (v : Int) (w : World) (h : U16 w o n zs) (hn : n ≤ 1024) (R : Int) (HR : Hid (R = if v ∈ zs then (zs.idxOf v : Int) else -1)) :
    Calls Ybad.prog 11 #[.slice o n c, .int .u16 v] w fun e w' => e = .returned (.int .i64 R) ∧ w' = w := by
  go_enter Ybad.func11, Ybad.ntmps11
  go_wp2_with fail
  go_loop [8] (fun i => ∃ k : Nat, k ≤ n ∧ i = .int .i64 k ∧ v ∉ zs.take k) (fun i => n - (intOf i).toNat)
  case atStart => exact ⟨0, by omega, rfl, by simp⟩
  case round =>
    obtain ⟨k, hk, rfl, hv⟩ := hrel
    by_cases hlt : k < n
    · obtain ⟨ad, u, rfl, hu, hc⟩ := h.at k hlt
      have y1 : (k : Int) < (n : Int) := by omega
      have hkl : k < zs.length := by have := h.1; omega
      have HZ : Hid (zs[k] = u) := by rw [List.getElem?_eq_getElem hkl] at hu; exact Option.some.inj hu
      clear hu
      by_cases he : v = u
      · have hb : (v == u) = true := by simpa using he
        have HE : Hid (v = u) := he
        have HV : Hid (v ∉ zs.take k) := hv
        clear he hv
        go_wp2
        go_ret
        have hm : v ∈ zs := by rw [HE.out, ← HZ.out]; exact List.getElem_mem _
        have hR : R = k := by rw [HR.out, if_pos hm, idx_first v zs k hkl (HZ.out.trans HE.out.symm) HV.out]
        exact ⟨by rw [hR]; rfl, rfl⟩
      · have hb : (v == u) = false := by simpa using he
        go_wp2
        go_round
        case rel => exact ⟨k + 1, by omega, by go_num, by rw [List.take_succ_eq_append_getElem hkl]; simp [hv, HZ.out, he]⟩
        case measure => simp [intOf]; omega
    · obtain rfl : n = k := by omega
      go_wp2
      go_ret
      have hm : v ∉ zs := by rw [List.take_of_length_le (by have := h.1; omega)] at hv; exact hv
      have hR : R = -1 := by rw [HR.out, if_neg hm]
      exact ⟨by rw [hR]; rfl, rfl⟩

theorem contains_is (o : Option Addr) (n c : Nat) (zs : List Int) (v : Int) (w : World) (h : U16 w o n zs) (hn : n ≤ 1024) (B : Bool) (HB : Hid (B = decide (v ∈ zs))) :
    Calls Ybad.prog 10 #[.slice o n c, .int .u16 v] w fun e w' => e = .returned (.bool B) ∧ w' = w := by
  obtain ⟨R, hR⟩ : ∃ R : Int, R = if v ∈ zs then (zs.idxOf v : Int) else -1 := ⟨_, rfl⟩
  have HR : Hid (R = if v ∈ zs then (zs.idxOf v : Int) else -1) := hR
  clear hR
  go_enter Ybad.func10, Ybad.ntmps10
  go_wp2_with fail
  refine (index_is o n c zs v w h hn R HR).mono ?_
  rintro e w' ⟨rfl, rfl⟩
  go_wp2
  go_ret
  refine ⟨?_, rfl⟩
  rw [HB.out]
  show Ending.returned (.bool _) = _
  by_cases hm : v ∈ zs
  · have : R = zs.idxOf v := by rw [HR.out, if_pos hm]
    simp [this, hm]
  · have : R = -1 := by rw [HR.out, if_neg hm]
    simp [this, hm]
end Go.Proofs.YbulkccjsDoor.H
