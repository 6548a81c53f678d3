import Derived.Test.YbulkcbmoDTwo
import Derived.WalkKit
import Derived.WalkSpells
import Derived.WalkLawsBesides
import Derived.Deep.RegionHeld3
import Derived.Deep.RegionWith
import Derived.Deep.DrawnRows
namespace Go.Proofs.Ybulkcbmo.D
open Go.RowKit
set_option linter.unusedSimpArgs false
set_option linter.unusedVariables false
attribute [local go_sem ↓] Go.wp_at_zero Go.wp_at_succ

set_option maxRecDepth 100000 in
set_option maxHeartbeats 4000000 in
theorem set_UN (D : Nat) (id : Int) (m2 : Option Nat) (m3 : Option Nat) (es2 es3 : List (Int × Value)) (w : World) (hd : Dom w D m2 m3 es2 es3) (h2 : look es2 id = none) (h3 : look es3 id = none) :
    Calls Yba.prog 12 #[.pointer (some ⟨D, 0, none⟩), .int .u16 id, sv false (.slice none 0 0)] w fun e w' => e = .returned (.int .i64 0) ∧ Turn (exs D m2 m3) w w' ∧ Dom w' D m2 m3 es2 es3 := by
  have hl : D < w.heap.size := lt_of_cell hd.c0
  have hmk := @run_makeMap Yba.prog
  have HD := hd.below ((Below.refl _ _).alloc (Nat.le_refl _) (.cells #[.pointer none, .int .u64 0, .int .i64 0, .pointer none, .bool false, .slice none 0 0] 41))
  go_enter Yba.func12, Yba.ntmps12
  go_wp2_with fail
  refine (slot_none D id m2 m3 es2 es3 _ HD h2 h3).mono ?_
  rintro e w1 ⟨rfl, hb1⟩
  have ht := Two.start (bb := false) (hb := .slice none 0 0) hb1
  have HB : Hid (Below w.heap.size w w1) := ((Below.refl _ _).alloc (Nat.le_refl _) _).trans (hb1.mono (by simp))
  have HS : Hid (w.heap.size ≤ w1.heap.size) := HB.out.size
  go_wp2
  have HB2 : Below w.heap.size w (w1.alloc (.cells #[.pointer none, .int .u64 0, .int .i64 0, .pointer none, .bool false, .slice none 0 0] 41)) := HB.out.alloc HS.out _
  have hs : St (exs D m2 m3) w (w1.alloc (.cells #[.pointer none, .int .u64 0, .int .i64 0, .pointer none, .bool false, .slice none 0 0] 41)) D w.heap.size w1.heap.size m2 m3 es2 es3 false (.slice none 0 0) false (.slice none 0 0) := ⟨ht, hd.below HB2, Turn.below HB2, by omega, by have := HS.out; omega⟩
  clear hb1 HB HB2 ht HD hd
  generalize w1.alloc (.cells #[.pointer none, .int .u64 0, .int .i64 0, .pointer none, .bool false, .slice none 0 0] 41) = W at *
  generalize w1.heap.size = B at *
  obtain ⟨A, hA⟩ : ∃ A, A = w.heap.size := ⟨_, rfl⟩
  rw [← hA] at hs ⊢
  have HA : Hid (A = w.heap.size) := hA
  clear hA hl HS
  obtain ⟨k0, k1, k2, k3, k4, k5, k6, k7, k8, k9, k10, k11, k12, k13⟩ := hs.conj
  refine wp_region_noPanic ?_
  refine wp_region_any (by kernel_rfl) ?_
  change wpAny _ _ _ _ _ _ _ (World.drew _)
  refine wpAny_ready (rs := [0]) (by kernel_rfl) (by simp) ?_
  refine BigFrame.allReady_want rfl (by rfl) (fun K hK => ?_) AllReady.nil
  go_simp
  refine hK _ _ ?_
  clear hK K
  refine wpAny_ready (rs := [1]) (by kernel_rfl) (by simp) ?_
  refine BigFrame.allReady_want rfl (by rfl) (fun K hK => ?_) AllReady.nil
  go_simp
  refine (unused_yes _).mono ?_
  rintro e w2 ⟨rfl, hb⟩
  clear k0 k1 k2 k3 k4 k5 k6 k7 k8 k9 k10 k11 k12 k13
  replace hs := hs.next hb
  obtain ⟨k0, k1, k2, k3, k4, k5, k6, k7, k8, k9, k10, k11, k12, k13⟩ := hs.conj
  clear hb
  refine hK _ _ ?_
  clear hK K
  refine wpAny_ready (rs := [2]) (by kernel_rfl) (by simp) ?_
  refine BigFrame.allReady_want rfl (by rfl) (fun K hK => ?_) AllReady.nil
  go_simp
  refine hK _ _ ?_
  clear hK K
  refine wpAny_ready (rs := [3]) (by kernel_rfl) (by simp) ?_
  refine BigFrame.allReady_want rfl (by rfl) (fun K hK => ?_) AllReady.nil
  go_simp
  refine hK _ _ ?_
  clear hK K
  refine wpAny_take (i := 4) (v := undef) rfl (by kernel_rfl) (by kernel_rfl) (by kernel_rfl) (fun _ _ _ h => h) (Or.inr ⟨by rfl, rfl⟩) ?_
  simp only [List.getElem_toArray, List.getElem_cons_succ, List.getElem_cons_zero, Act.put, List.setIfInBounds_toArray, List.set_cons_zero, List.set_cons_succ]
  refine wpAny_ready (rs := [5]) (by kernel_rfl) (by simp) ?_
  refine BigFrame.allReady_skip rfl (by rfl) ?_ AllReady.nil
  simp only [List.getElem_toArray, List.getElem_cons_succ, List.getElem_cons_zero, Act.put, List.setIfInBounds_toArray, List.set_cons_zero, List.set_cons_succ]
  refine wpAny_take (i := 6) (v := undef) rfl (by kernel_rfl) (by kernel_rfl) (by kernel_rfl) (fun _ _ _ h => h) (Or.inr ⟨by rfl, rfl⟩) ?_
  simp only [List.getElem_toArray, List.getElem_cons_succ, List.getElem_cons_zero, Act.put, List.setIfInBounds_toArray, List.set_cons_zero, List.set_cons_succ]
  refine wpAny_take (i := 7) (v := undef) rfl (by kernel_rfl) (by kernel_rfl) (by kernel_rfl) (fun _ _ _ h => h) (Or.inr ⟨by rfl, rfl⟩) ?_
  simp only [List.getElem_toArray, List.getElem_cons_succ, List.getElem_cons_zero, Act.put, List.setIfInBounds_toArray, List.set_cons_zero, List.set_cons_succ]
  refine wpAny_take (i := 9) (v := undef) rfl (by kernel_rfl) (by kernel_rfl) (by kernel_rfl) (fun _ _ _ h => h) (Or.inr ⟨by rfl, rfl⟩) ?_
  simp only [List.getElem_toArray, List.getElem_cons_succ, List.getElem_cons_zero, Act.put, List.setIfInBounds_toArray, List.set_cons_zero, List.set_cons_succ]
  refine wpAny_ready (rs := [8]) (by kernel_rfl) (by simp) ?_
  refine BigFrame.allReady_skip rfl (by rfl) ?_ AllReady.nil
  simp only [List.getElem_toArray, List.getElem_cons_succ, List.getElem_cons_zero, Act.put, List.setIfInBounds_toArray, List.set_cons_zero, List.set_cons_succ]
  refine wpAny_ready (rs := [10]) (by kernel_rfl) (by simp) ?_
  refine BigFrame.allReady_skip rfl (by rfl) ?_ AllReady.nil
  simp only [List.getElem_toArray, List.getElem_cons_succ, List.getElem_cons_zero, Act.put, List.setIfInBounds_toArray, List.set_cons_zero, List.set_cons_succ]
  refine wpAny_take (i := 11) (v := undef) rfl (by kernel_rfl) (by kernel_rfl) (by kernel_rfl) (fun _ _ _ h => h) (Or.inr ⟨by rfl, rfl⟩) ?_
  simp only [List.getElem_toArray, List.getElem_cons_succ, List.getElem_cons_zero, Act.put, List.setIfInBounds_toArray, List.set_cons_zero, List.set_cons_succ]
  refine wpAny_take (i := 12) (v := undef) rfl (by kernel_rfl) (by kernel_rfl) (by kernel_rfl) (fun _ _ _ h => h) (Or.inr ⟨by rfl, rfl⟩) ?_
  simp only [List.getElem_toArray, List.getElem_cons_succ, List.getElem_cons_zero, Act.put, List.setIfInBounds_toArray, List.set_cons_zero, List.set_cons_succ]
  refine wpAny_ready (rs := [13]) (by kernel_rfl) (by simp) ?_
  refine BigFrame.allReady_want rfl (by rfl) (fun K hK => ?_) AllReady.nil
  go_simp
  refine hK _ _ ?_
  clear hK K
  refine wpAny_done (by kernel_rfl) ?_ _
  refine NoPanic.normal ?_
  go_wp2_with (go_at_call 13; refine (unused_yes _).mono ?_; rintro e w6 ⟨rfl, hb⟩; clear k0 k1 k2 k3 k4 k5 k6 k7 k8 k9 k10 k11 k12 k13; replace hs := hs.next hb; obtain ⟨k0, k1, k2, k3, k4, k5, k6, k7, k8, k9, k10, k11, k12, k13⟩ := hs.conj; clear hb)
  clear k0 k1 k2 k3 k4 k5 k6 k7 k8 k9 k10 k11 k12 k13
  go_region_held3 (fun w' => w'.cell? ⟨A, 0, none⟩ = some (.pointer none) ∧ w'.cell? ⟨A, 1, none⟩ = some (.int .u64 0) ∧ w'.cell? ⟨A, 2, none⟩ = some (.int .i64 0) ∧ w'.cell? ⟨A, 3, none⟩ = some (.pointer none) ∧ w'.cell? ⟨A, 4, none⟩ = some (.bool false) ∧ w'.cell? ⟨A, 5, none⟩ = some (.slice none 0 0) ∧ w'.cell? ⟨B, 0, none⟩ = some (.pointer none) ∧ w'.cell? ⟨B, 1, none⟩ = some (.int .u64 0) ∧ w'.cell? ⟨B, 2, none⟩ = some (.int .i64 0) ∧ w'.cell? ⟨B, 3, none⟩ = some (.pointer none) ∧ w'.cell? ⟨B, 4, none⟩ = some (.bool false) ∧ w'.cell? ⟨B, 5, none⟩ = some (.slice none 0 0) ∧ w'.cell? ⟨D, 2, none⟩ = some (.map m2) ∧ w'.cell? ⟨D, 3, none⟩ = some (.map m3)) (exact hs.conj)
    (first | (go_at_call 15; refine (cost_none _).mono ?_; rintro e w4 ⟨rfl, hb⟩; replace hs := hs.next hb; clear hb))
  go_wp2
  go_ret
  exact ⟨rfl, hs.turn, hs.dom⟩

set_option maxRecDepth 100000 in
set_option maxHeartbeats 4000000 in
theorem set_UX (D : Nat) (id : Int) (m2 : Option Nat) (es2 : List (Int × Value)) (w : World) (hd : Dom w D m2 none es2 []) (h2 : look es2 id = none) (h3 : look [] id = none) :
    Calls Yba.prog 12 #[.pointer (some ⟨D, 0, none⟩), .int .u16 id, sv true (.slice none 0 0)] w fun e w' => e = .returned (.int .i64 96) ∧ Turn (exs D m2 none) w w' ∧ ∃ q, w.heap.size ≤ q ∧ Dom w' D m2 (some q) es2 (put [] id (sv true (.slice none 0 0))) := by
  have hl : D < w.heap.size := lt_of_cell hd.c0
  have hmk := @run_makeMap Yba.prog
  have hm2 : ∀ p, m2 = some p → p < w.heap.size := fun p hp => by
    rcases hd.i2 with ⟨h, _⟩ | ⟨r, arr, c, h, hb, _⟩
    · cases h <;> cases hp
    · cases h; cases hp; exact (Array.getElem?_eq_some_iff.1 hb).1
  have HD := hd.below ((Below.refl _ _).alloc (Nat.le_refl _) (.cells #[.pointer none, .int .u64 0, .int .i64 0, .pointer none, .bool true, .slice none 0 0] 41))
  go_enter Yba.func12, Yba.ntmps12
  go_wp2_with fail
  refine (slot_none D id m2 none es2 [] _ HD h2 h3).mono ?_
  rintro e w1 ⟨rfl, hb1⟩
  have ht := Two.start (bb := false) (hb := .slice none 0 0) hb1
  have HB : Hid (Below w.heap.size w w1) := ((Below.refl _ _).alloc (Nat.le_refl _) _).trans (hb1.mono (by simp))
  have HS : Hid (w.heap.size ≤ w1.heap.size) := HB.out.size
  go_wp2
  have HB2 : Below w.heap.size w (w1.alloc (.cells #[.pointer none, .int .u64 0, .int .i64 0, .pointer none, .bool false, .slice none 0 0] 41)) := HB.out.alloc HS.out _
  have hs : St (exs D m2 none) w (w1.alloc (.cells #[.pointer none, .int .u64 0, .int .i64 0, .pointer none, .bool false, .slice none 0 0] 41)) D w.heap.size w1.heap.size m2 none es2 [] true (.slice none 0 0) false (.slice none 0 0) := ⟨ht, hd.below HB2, Turn.below HB2, by omega, by have := HS.out; omega⟩
  clear hb1 HB HB2 ht HD hd
  generalize w1.alloc (.cells #[.pointer none, .int .u64 0, .int .i64 0, .pointer none, .bool false, .slice none 0 0] 41) = W at *
  generalize w1.heap.size = B at *
  obtain ⟨A, hA⟩ : ∃ A, A = w.heap.size := ⟨_, rfl⟩
  rw [← hA] at hs ⊢
  have HA : Hid (A = w.heap.size) := hA
  clear hA hl HS
  obtain ⟨k0, k1, k2, k3, k4, k5, k6, k7, k8, k9, k10, k11, k12, k13⟩ := hs.conj
  refine wp_region_noPanic ?_
  refine wp_region_any (by kernel_rfl) ?_
  change wpAny _ _ _ _ _ _ _ (World.drew _)
  refine wpAny_ready (rs := [0]) (by kernel_rfl) (by simp) ?_
  refine BigFrame.allReady_want rfl (by rfl) (fun K hK => ?_) AllReady.nil
  go_simp
  refine hK _ _ ?_
  clear hK K
  refine wpAny_ready (rs := [1]) (by kernel_rfl) (by simp) ?_
  refine BigFrame.allReady_want rfl (by rfl) (fun K hK => ?_) AllReady.nil
  go_simp
  refine (unused_yes _).mono ?_
  rintro e w2 ⟨rfl, hb⟩
  clear k0 k1 k2 k3 k4 k5 k6 k7 k8 k9 k10 k11 k12 k13
  replace hs := hs.next hb
  obtain ⟨k0, k1, k2, k3, k4, k5, k6, k7, k8, k9, k10, k11, k12, k13⟩ := hs.conj
  clear hb
  refine hK _ _ ?_
  clear hK K
  refine wpAny_ready (rs := [2]) (by kernel_rfl) (by simp) ?_
  refine BigFrame.allReady_want rfl (by rfl) (fun K hK => ?_) AllReady.nil
  go_simp
  refine hK _ _ ?_
  clear hK K
  refine wpAny_ready (rs := [3]) (by kernel_rfl) (by simp) ?_
  refine BigFrame.allReady_want rfl (by rfl) (fun K hK => ?_) AllReady.nil
  go_simp
  refine hK _ _ ?_
  clear hK K
  refine wpAny_take (i := 4) (v := undef) rfl (by kernel_rfl) (by kernel_rfl) (by kernel_rfl) (fun _ _ _ h => h) (Or.inr ⟨by rfl, rfl⟩) ?_
  simp only [List.getElem_toArray, List.getElem_cons_succ, List.getElem_cons_zero, Act.put, List.setIfInBounds_toArray, List.set_cons_zero, List.set_cons_succ]
  refine wpAny_ready (rs := [5]) (by kernel_rfl) (by simp) ?_
  refine BigFrame.allReady_skip rfl (by rfl) ?_ AllReady.nil
  simp only [List.getElem_toArray, List.getElem_cons_succ, List.getElem_cons_zero, Act.put, List.setIfInBounds_toArray, List.set_cons_zero, List.set_cons_succ]
  refine wpAny_take (i := 6) (v := undef) rfl (by kernel_rfl) (by kernel_rfl) (by kernel_rfl) (fun _ _ _ h => h) (Or.inr ⟨by rfl, rfl⟩) ?_
  simp only [List.getElem_toArray, List.getElem_cons_succ, List.getElem_cons_zero, Act.put, List.setIfInBounds_toArray, List.set_cons_zero, List.set_cons_succ]
  refine wpAny_take (i := 7) (v := undef) rfl (by kernel_rfl) (by kernel_rfl) (by kernel_rfl) (fun _ _ _ h => h) (Or.inr ⟨by rfl, rfl⟩) ?_
  simp only [List.getElem_toArray, List.getElem_cons_succ, List.getElem_cons_zero, Act.put, List.setIfInBounds_toArray, List.set_cons_zero, List.set_cons_succ]
  refine wpAny_take (i := 9) (v := undef) rfl (by kernel_rfl) (by kernel_rfl) (by kernel_rfl) (fun _ _ _ h => h) (Or.inr ⟨by rfl, rfl⟩) ?_
  simp only [List.getElem_toArray, List.getElem_cons_succ, List.getElem_cons_zero, Act.put, List.setIfInBounds_toArray, List.set_cons_zero, List.set_cons_succ]
  refine wpAny_ready (rs := [8]) (by kernel_rfl) (by simp) ?_
  refine BigFrame.allReady_skip rfl (by rfl) ?_ AllReady.nil
  simp only [List.getElem_toArray, List.getElem_cons_succ, List.getElem_cons_zero, Act.put, List.setIfInBounds_toArray, List.set_cons_zero, List.set_cons_succ]
  refine wpAny_ready (rs := [10]) (by kernel_rfl) (by simp) ?_
  refine BigFrame.allReady_skip rfl (by rfl) ?_ AllReady.nil
  simp only [List.getElem_toArray, List.getElem_cons_succ, List.getElem_cons_zero, Act.put, List.setIfInBounds_toArray, List.set_cons_zero, List.set_cons_succ]
  refine wpAny_take (i := 11) (v := undef) rfl (by kernel_rfl) (by kernel_rfl) (by kernel_rfl) (fun _ _ _ h => h) (Or.inr ⟨by rfl, rfl⟩) ?_
  simp only [List.getElem_toArray, List.getElem_cons_succ, List.getElem_cons_zero, Act.put, List.setIfInBounds_toArray, List.set_cons_zero, List.set_cons_succ]
  refine wpAny_take (i := 12) (v := undef) rfl (by kernel_rfl) (by kernel_rfl) (by kernel_rfl) (fun _ _ _ h => h) (Or.inr ⟨by rfl, rfl⟩) ?_
  simp only [List.getElem_toArray, List.getElem_cons_succ, List.getElem_cons_zero, Act.put, List.setIfInBounds_toArray, List.set_cons_zero, List.set_cons_succ]
  refine wpAny_ready (rs := [13]) (by kernel_rfl) (by simp) ?_
  refine BigFrame.allReady_want rfl (by rfl) (fun K hK => ?_) AllReady.nil
  go_simp
  refine hK _ _ ?_
  clear hK K
  refine wpAny_done (by kernel_rfl) ?_ _
  refine NoPanic.normal ?_
  go_wp2_with (go_at_call 13; refine (unused_gone _).mono ?_; rintro e w6 ⟨rfl, hb⟩; clear k0 k1 k2 k3 k4 k5 k6 k7 k8 k9 k10 k11 k12 k13; replace hs := hs.next hb; obtain ⟨k0, k1, k2, k3, k4, k5, k6, k7, k8, k9, k10, k11, k12, k13⟩ := hs.conj; clear hb)
  clear k0 k1 k2 k3 k4 k5 k6 k7 k8 k9 k10 k11 k12 k13
  go_region_held3 (fun w' => w'.cell? ⟨A, 0, none⟩ = some (.pointer none) ∧ w'.cell? ⟨A, 1, none⟩ = some (.int .u64 0) ∧ w'.cell? ⟨A, 2, none⟩ = some (.int .i64 0) ∧ w'.cell? ⟨A, 3, none⟩ = some (.pointer none) ∧ w'.cell? ⟨A, 4, none⟩ = some (.bool true) ∧ w'.cell? ⟨A, 5, none⟩ = some (.slice none 0 0) ∧ w'.cell? ⟨B, 0, none⟩ = some (.pointer none) ∧ w'.cell? ⟨B, 1, none⟩ = some (.int .u64 0) ∧ w'.cell? ⟨B, 2, none⟩ = some (.int .i64 0) ∧ w'.cell? ⟨B, 3, none⟩ = some (.pointer none) ∧ w'.cell? ⟨B, 4, none⟩ = some (.bool false) ∧ w'.cell? ⟨B, 5, none⟩ = some (.slice none 0 0) ∧ w'.cell? ⟨D, 2, none⟩ = some (.map m2) ∧ w'.cell? ⟨D, 3, none⟩ = some (.map none)) (exact hs.conj)
    (first | (go_at_call 14; refine (state_gone _ _).mono ?_; rintro e w4 ⟨rfl, hb⟩; replace hs := hs.next hb; clear hb))
  have hel := fun W => run_eql_map_nil (P := Yba.prog) W 30 27 41 none Yba.underlying30
  go_wp2_with fail
  have hm7 : MapIs (w4.alloc (.map #[] 0)) (.map (some w4.heap.size)) [] := .inr ⟨_, #[], 0, rfl, (MapKept.heap_alloc _ _).1, rfl⟩
  have hq : w.heap.size ≤ w4.heap.size := hs.turn.size
  replace hs := hs.alloc (.map #[] 0)
  generalize w4.alloc (.map #[] 0) = W7 at *
  generalize w4.heap.size = q at *
  go_region_held3 (fun w' => w'.cell? ⟨A, 0, none⟩ = some (.pointer none) ∧ w'.cell? ⟨A, 1, none⟩ = some (.int .u64 0) ∧ w'.cell? ⟨A, 2, none⟩ = some (.int .i64 0) ∧ w'.cell? ⟨A, 3, none⟩ = some (.pointer none) ∧ w'.cell? ⟨A, 4, none⟩ = some (.bool true) ∧ w'.cell? ⟨A, 5, none⟩ = some (.slice none 0 0) ∧ w'.cell? ⟨B, 0, none⟩ = some (.pointer none) ∧ w'.cell? ⟨B, 1, none⟩ = some (.int .u64 0) ∧ w'.cell? ⟨B, 2, none⟩ = some (.int .i64 0) ∧ w'.cell? ⟨B, 3, none⟩ = some (.pointer none) ∧ w'.cell? ⟨B, 4, none⟩ = some (.bool false) ∧ w'.cell? ⟨B, 5, none⟩ = some (.slice none 0 0) ∧ w'.cell? ⟨D, 2, none⟩ = some (.map m2)) (first | exact hs.conj2 | exact (hs.hang hm7 (by simp [exs])).conj2)
    (first | (go_at_call 14; refine (state_gone _ _).mono ?_; rintro e w8 ⟨rfl, hb⟩; replace hs := hs.next hb; replace hm7 := hm7.keep (fun r _ hr => hb.block r hr); clear hb; have c3 := hs.dom.c3; have z3 := hs.dom.z3))
  replace hs := hs.hang hm7 (by simp [exs])
  clear c3 z3 hm7
  generalize w8.setCell ⟨D, 3, none⟩ (.map (some q)) = W9 at *
  obtain ⟨w9, hput, hm9, ht9⟩ := put_run (P := Yba.prog) (w := W9) Yba.underlying30 Yba.underlying27 hs.dom.i3 id (sv true (.slice none 0 0))
  dsimp only [sv] at hput
  obtain ⟨k0, k1, k2, k3, k4, k5, k6, k7, k8, k9, k10, k11, k12, k13⟩ := hs.conj
  go_wp2_with fail
  clear k0 k1 k2 k3 k4 k5 k6 k7 k8 k9 k10 k11 k12 k13
  replace hs := hs.del3 ht9 hm9 (Or.inr hq) (fun p hp => by have := hm2 p hp; omega)
  clear hput hm9 ht9
  go_region_held3 (fun w' => w'.cell? ⟨A, 0, none⟩ = some (.pointer none) ∧ w'.cell? ⟨A, 1, none⟩ = some (.int .u64 0) ∧ w'.cell? ⟨A, 2, none⟩ = some (.int .i64 0) ∧ w'.cell? ⟨A, 3, none⟩ = some (.pointer none) ∧ w'.cell? ⟨A, 4, none⟩ = some (.bool true) ∧ w'.cell? ⟨A, 5, none⟩ = some (.slice none 0 0) ∧ w'.cell? ⟨B, 0, none⟩ = some (.pointer none) ∧ w'.cell? ⟨B, 1, none⟩ = some (.int .u64 0) ∧ w'.cell? ⟨B, 2, none⟩ = some (.int .i64 0) ∧ w'.cell? ⟨B, 3, none⟩ = some (.pointer none) ∧ w'.cell? ⟨B, 4, none⟩ = some (.bool false) ∧ w'.cell? ⟨B, 5, none⟩ = some (.slice none 0 0) ∧ w'.cell? ⟨D, 2, none⟩ = some (.map m2) ∧ w'.cell? ⟨D, 3, none⟩ = some (.map (some q))) (exact hs.conj)
    (first | (go_at_call_of 15 (Value.bool false); refine (cost_none _).mono ?_; rintro e w4 ⟨rfl, hb⟩; replace hs := hs.next hb; clear hb) | (go_at_call_of 15 (Value.bool true); refine (cost_gone _).mono ?_; rintro e w4 ⟨rfl, hb⟩; replace hs := hs.next hb; clear hb))
  go_wp2
  go_ret
  exact ⟨rfl, hs.turn, q, hq, hs.dom⟩

set_option maxRecDepth 100000 in
set_option maxHeartbeats 4000000 in
theorem set_HN (D : Nat) (id : Int) (r2 : Nat) (m3 : Option Nat) (es2 es3 : List (Int × Value)) (ho : Option Addr) (hn hc : Nat) (hn0 : 0 < hn) (hn1 : hn ≤ 100000) (w : World) (hd : Dom w D (some r2) m3 es2 es3) (h2 : look es2 id = some (sv false (.slice ho hn hc))) (hne : ∀ q, m3 = some q → q ≠ r2) :
    Calls Yba.prog 12 #[.pointer (some ⟨D, 0, none⟩), .int .u16 id, sv false (.slice none 0 0)] w fun e w' => e = .returned (.int .i64 (-96)) ∧ Turn (exs D (some r2) m3) w w' ∧ Dom w' D (some r2) m3 (del es2 id) es3 := by
  have hl : D < w.heap.size := lt_of_cell hd.c0
  have hmk := @run_makeMap Yba.prog
  have HD := hd.below ((Below.refl _ _).alloc (Nat.le_refl _) (.cells #[.pointer none, .int .u64 0, .int .i64 0, .pointer none, .bool false, .slice none 0 0] 41))
  go_enter Yba.func12, Yba.ntmps12
  go_wp2_with fail
  refine (slot_at2 D id false ho hn hc (some r2) m3 es2 es3 _ HD h2).mono ?_
  rintro e w1 ⟨rfl, hb1⟩
  have ht := Two.start (bb := false) (hb := .slice ho hn hc) hb1
  have HB : Hid (Below w.heap.size w w1) := ((Below.refl _ _).alloc (Nat.le_refl _) _).trans (hb1.mono (by simp))
  have HS : Hid (w.heap.size ≤ w1.heap.size) := HB.out.size
  go_wp2
  have HB2 : Below w.heap.size w (w1.alloc (.cells #[.pointer none, .int .u64 0, .int .i64 0, .pointer none, .bool false, .slice ho hn hc] 41)) := HB.out.alloc HS.out _
  have hs : St (exs D (some r2) m3) w (w1.alloc (.cells #[.pointer none, .int .u64 0, .int .i64 0, .pointer none, .bool false, .slice ho hn hc] 41)) D w.heap.size w1.heap.size (some r2) m3 es2 es3 false (.slice none 0 0) false (.slice ho hn hc) := ⟨ht, hd.below HB2, Turn.below HB2, by omega, by have := HS.out; omega⟩
  clear hb1 HB HB2 ht HD hd
  generalize w1.alloc (.cells #[.pointer none, .int .u64 0, .int .i64 0, .pointer none, .bool false, .slice ho hn hc] 41) = W at *
  generalize w1.heap.size = B at *
  obtain ⟨A, hA⟩ : ∃ A, A = w.heap.size := ⟨_, rfl⟩
  rw [← hA] at hs ⊢
  have HA : Hid (A = w.heap.size) := hA
  clear hA hl HS
  obtain ⟨k0, k1, k2, k3, k4, k5, k6, k7, k8, k9, k10, k11, k12, k13⟩ := hs.conj
  refine wp_region_noPanic ?_
  refine wp_region_any (by kernel_rfl) ?_
  change wpAny _ _ _ _ _ _ _ (World.drew _)
  refine wpAny_ready (rs := [0]) (by kernel_rfl) (by simp) ?_
  refine BigFrame.allReady_want rfl (by rfl) (fun K hK => ?_) AllReady.nil
  go_simp
  refine hK _ _ ?_
  clear hK K
  refine wpAny_ready (rs := [1]) (by kernel_rfl) (by simp) ?_
  refine BigFrame.allReady_want rfl (by rfl) (fun K hK => ?_) AllReady.nil
  go_simp
  refine (unused_held ho hn hc hn0 hn1 _).mono ?_
  rintro e w2 ⟨rfl, hb⟩
  clear k0 k1 k2 k3 k4 k5 k6 k7 k8 k9 k10 k11 k12 k13
  replace hs := hs.next hb
  obtain ⟨k0, k1, k2, k3, k4, k5, k6, k7, k8, k9, k10, k11, k12, k13⟩ := hs.conj
  clear hb
  refine hK _ _ ?_
  clear hK K
  refine wpAny_ready (rs := [2]) (by kernel_rfl) (by simp) ?_
  refine BigFrame.allReady_want rfl (by rfl) (fun K hK => ?_) AllReady.nil
  go_simp
  refine hK _ _ ?_
  clear hK K
  refine wpAny_ready (rs := [3]) (by kernel_rfl) (by simp) ?_
  refine BigFrame.allReady_want rfl (by rfl) (fun K hK => ?_) AllReady.nil
  go_simp
  refine hK _ _ ?_
  clear hK K
  refine wpAny_ready (rs := [4]) (by kernel_rfl) (by simp) ?_
  refine BigFrame.allReady_want rfl (by rfl) (fun K hK => ?_) AllReady.nil
  go_simp
  refine hK _ _ ?_
  clear hK K
  refine wpAny_ready (rs := [5]) (by kernel_rfl) (by simp) ?_
  refine BigFrame.allReady_want rfl (by rfl) (fun K hK => ?_) AllReady.nil
  go_simp
  refine (unused_yes _).mono ?_
  rintro e w2 ⟨rfl, hb⟩
  clear k0 k1 k2 k3 k4 k5 k6 k7 k8 k9 k10 k11 k12 k13
  replace hs := hs.next hb
  obtain ⟨k0, k1, k2, k3, k4, k5, k6, k7, k8, k9, k10, k11, k12, k13⟩ := hs.conj
  clear hb
  refine hK _ _ ?_
  clear hK K
  refine wpAny_ready (rs := [6]) (by kernel_rfl) (by simp) ?_
  refine BigFrame.allReady_want rfl (by rfl) (fun K hK => ?_) AllReady.nil
  go_simp
  refine hK _ _ ?_
  clear hK K
  refine wpAny_take (i := 7) (v := undef) rfl (by kernel_rfl) (by kernel_rfl) (by kernel_rfl) (fun _ _ _ h => h) (Or.inr ⟨by rfl, rfl⟩) ?_
  simp only [List.getElem_toArray, List.getElem_cons_succ, List.getElem_cons_zero, Act.put, List.setIfInBounds_toArray, List.set_cons_zero, List.set_cons_succ]
  refine wpAny_take (i := 9) (v := undef) rfl (by kernel_rfl) (by kernel_rfl) (by kernel_rfl) (fun _ _ _ h => h) (Or.inr ⟨by rfl, rfl⟩) ?_
  simp only [List.getElem_toArray, List.getElem_cons_succ, List.getElem_cons_zero, Act.put, List.setIfInBounds_toArray, List.set_cons_zero, List.set_cons_succ]
  refine wpAny_ready (rs := [8]) (by kernel_rfl) (by simp) ?_
  refine BigFrame.allReady_skip rfl (by rfl) ?_ AllReady.nil
  simp only [List.getElem_toArray, List.getElem_cons_succ, List.getElem_cons_zero, Act.put, List.setIfInBounds_toArray, List.set_cons_zero, List.set_cons_succ]
  refine wpAny_ready (rs := [10]) (by kernel_rfl) (by simp) ?_
  refine BigFrame.allReady_skip rfl (by rfl) ?_ AllReady.nil
  simp only [List.getElem_toArray, List.getElem_cons_succ, List.getElem_cons_zero, Act.put, List.setIfInBounds_toArray, List.set_cons_zero, List.set_cons_succ]
  refine wpAny_take (i := 11) (v := undef) rfl (by kernel_rfl) (by kernel_rfl) (by kernel_rfl) (fun _ _ _ h => h) (Or.inr ⟨by rfl, rfl⟩) ?_
  simp only [List.getElem_toArray, List.getElem_cons_succ, List.getElem_cons_zero, Act.put, List.setIfInBounds_toArray, List.set_cons_zero, List.set_cons_succ]
  refine wpAny_ready (rs := [12]) (by kernel_rfl) (by simp) ?_
  refine BigFrame.allReady_want rfl (by rfl) (fun K hK => ?_) AllReady.nil
  go_simp
  refine hK _ _ ?_
  clear hK K
  refine wpAny_ready (rs := [13]) (by kernel_rfl) (by simp) ?_
  refine BigFrame.allReady_want rfl (by rfl) (fun K hK => ?_) AllReady.nil
  go_simp
  refine hK _ _ ?_
  clear hK K
  refine wpAny_done (by kernel_rfl) ?_ _
  refine NoPanic.normal ?_
  go_wp2_with fail
  clear k0 k1 k2 k3 k4 k5 k6 k7 k8 k9 k10 k11 k12 k13
  go_region_held3 (fun w' => w'.cell? ⟨A, 0, none⟩ = some (.pointer none) ∧ w'.cell? ⟨A, 1, none⟩ = some (.int .u64 0) ∧ w'.cell? ⟨A, 2, none⟩ = some (.int .i64 0) ∧ w'.cell? ⟨A, 3, none⟩ = some (.pointer none) ∧ w'.cell? ⟨A, 4, none⟩ = some (.bool false) ∧ w'.cell? ⟨A, 5, none⟩ = some (.slice none 0 0) ∧ w'.cell? ⟨B, 0, none⟩ = some (.pointer none) ∧ w'.cell? ⟨B, 1, none⟩ = some (.int .u64 0) ∧ w'.cell? ⟨B, 2, none⟩ = some (.int .i64 0) ∧ w'.cell? ⟨B, 3, none⟩ = some (.pointer none) ∧ w'.cell? ⟨B, 4, none⟩ = some (.bool false) ∧ w'.cell? ⟨B, 5, none⟩ = some (.slice ho hn hc) ∧ w'.cell? ⟨D, 2, none⟩ = some (.map (some r2)) ∧ w'.cell? ⟨D, 3, none⟩ = some (.map m3)) (first | exact hs.conj | exact (hs.del2 ht5 hm5 (by simp [exs]) hne).conj)
    (first | (go_at_call 14; refine (state_held _ _).mono ?_; rintro e w4 ⟨rfl, hb⟩; replace hs := hs.next hb; clear hb; obtain ⟨w5, hdel, hm5, ht5⟩ := del_run (P := Yba.prog) (w := w4) Yba.underlying30 Yba.underlying27 hs.dom.i2 id 0))
  replace hs := hs.del2 ht5 hm5 (by simp [exs]) hne
  clear hdel hm5 ht5
  obtain ⟨k0, k1, k2, k3, k4, k5, k6, k7, k8, k9, k10, k11, k12, k13⟩ := hs.conj
  go_wp2_with (go_at_call 13; refine (unused_yes _).mono ?_; rintro e w6 ⟨rfl, hb⟩; clear k0 k1 k2 k3 k4 k5 k6 k7 k8 k9 k10 k11 k12 k13; replace hs := hs.next hb; obtain ⟨k0, k1, k2, k3, k4, k5, k6, k7, k8, k9, k10, k11, k12, k13⟩ := hs.conj; clear hb)
  clear k0 k1 k2 k3 k4 k5 k6 k7 k8 k9 k10 k11 k12 k13
  go_region_held3 (fun w' => w'.cell? ⟨A, 0, none⟩ = some (.pointer none) ∧ w'.cell? ⟨A, 1, none⟩ = some (.int .u64 0) ∧ w'.cell? ⟨A, 2, none⟩ = some (.int .i64 0) ∧ w'.cell? ⟨A, 3, none⟩ = some (.pointer none) ∧ w'.cell? ⟨A, 4, none⟩ = some (.bool false) ∧ w'.cell? ⟨A, 5, none⟩ = some (.slice none 0 0) ∧ w'.cell? ⟨B, 0, none⟩ = some (.pointer none) ∧ w'.cell? ⟨B, 1, none⟩ = some (.int .u64 0) ∧ w'.cell? ⟨B, 2, none⟩ = some (.int .i64 0) ∧ w'.cell? ⟨B, 3, none⟩ = some (.pointer none) ∧ w'.cell? ⟨B, 4, none⟩ = some (.bool false) ∧ w'.cell? ⟨B, 5, none⟩ = some (.slice ho hn hc) ∧ w'.cell? ⟨D, 2, none⟩ = some (.map (some r2)) ∧ w'.cell? ⟨D, 3, none⟩ = some (.map m3)) (exact hs.conj)
    (first | (go_at_call_of 15 (hn); refine (cost_held ho hn hc hn0 hn1 _).mono ?_; rintro e w4 ⟨rfl, hb⟩; replace hs := hs.next hb; clear hb) | (go_at_call_of 15 (Value.slice none 0 0); refine (cost_none _).mono ?_; rintro e w4 ⟨rfl, hb⟩; replace hs := hs.next hb; clear hb))
  go_wp2
  go_ret
  exact ⟨rfl, hs.turn, hs.dom⟩

set_option maxRecDepth 100000 in
set_option maxHeartbeats 4000000 in
theorem set_HX (D : Nat) (id : Int) (r2 : Nat) (es2 : List (Int × Value)) (ho : Option Addr) (hn hc : Nat) (hn0 : 0 < hn) (hn1 : hn ≤ 100000) (w : World) (hd : Dom w D (some r2) none es2 []) (h2 : look es2 id = some (sv false (.slice ho hn hc))) :
    Calls Yba.prog 12 #[.pointer (some ⟨D, 0, none⟩), .int .u16 id, sv true (.slice none 0 0)] w fun e w' => e = .returned (.int .i64 0) ∧ Turn (exs D (some r2) none) w w' ∧ ∃ q, w.heap.size ≤ q ∧ Dom w' D (some r2) (some q) (del es2 id) (put [] id (sv true (.slice none 0 0))) := by
  have hl : D < w.heap.size := lt_of_cell hd.c0
  have hmk := @run_makeMap Yba.prog
  have hm2 : ∀ p, (some r2) = some p → p < w.heap.size := fun p hp => by
    rcases hd.i2 with ⟨h, _⟩ | ⟨r, arr, c, h, hb, _⟩
    · cases h <;> cases hp
    · cases h; cases hp; exact (Array.getElem?_eq_some_iff.1 hb).1
  have HD := hd.below ((Below.refl _ _).alloc (Nat.le_refl _) (.cells #[.pointer none, .int .u64 0, .int .i64 0, .pointer none, .bool true, .slice none 0 0] 41))
  go_enter Yba.func12, Yba.ntmps12
  go_wp2_with fail
  refine (slot_at2 D id false ho hn hc (some r2) none es2 [] _ HD h2).mono ?_
  rintro e w1 ⟨rfl, hb1⟩
  have ht := Two.start (bb := false) (hb := .slice ho hn hc) hb1
  have HB : Hid (Below w.heap.size w w1) := ((Below.refl _ _).alloc (Nat.le_refl _) _).trans (hb1.mono (by simp))
  have HS : Hid (w.heap.size ≤ w1.heap.size) := HB.out.size
  go_wp2
  have HB2 : Below w.heap.size w (w1.alloc (.cells #[.pointer none, .int .u64 0, .int .i64 0, .pointer none, .bool false, .slice ho hn hc] 41)) := HB.out.alloc HS.out _
  have hs : St (exs D (some r2) none) w (w1.alloc (.cells #[.pointer none, .int .u64 0, .int .i64 0, .pointer none, .bool false, .slice ho hn hc] 41)) D w.heap.size w1.heap.size (some r2) none es2 [] true (.slice none 0 0) false (.slice ho hn hc) := ⟨ht, hd.below HB2, Turn.below HB2, by omega, by have := HS.out; omega⟩
  clear hb1 HB HB2 ht HD hd
  generalize w1.alloc (.cells #[.pointer none, .int .u64 0, .int .i64 0, .pointer none, .bool false, .slice ho hn hc] 41) = W at *
  generalize w1.heap.size = B at *
  obtain ⟨A, hA⟩ : ∃ A, A = w.heap.size := ⟨_, rfl⟩
  rw [← hA] at hs ⊢
  have HA : Hid (A = w.heap.size) := hA
  clear hA hl HS
  obtain ⟨k0, k1, k2, k3, k4, k5, k6, k7, k8, k9, k10, k11, k12, k13⟩ := hs.conj
  clear k0 k1 k2 k3 k4 k5 k6 k7 k8 k9 k10 k11 k12 k13
  go_region_held3 (fun w' => w'.cell? ⟨A, 0, none⟩ = some (.pointer none) ∧ w'.cell? ⟨A, 1, none⟩ = some (.int .u64 0) ∧ w'.cell? ⟨A, 2, none⟩ = some (.int .i64 0) ∧ w'.cell? ⟨A, 3, none⟩ = some (.pointer none) ∧ w'.cell? ⟨A, 4, none⟩ = some (.bool true) ∧ w'.cell? ⟨A, 5, none⟩ = some (.slice none 0 0) ∧ w'.cell? ⟨B, 0, none⟩ = some (.pointer none) ∧ w'.cell? ⟨B, 1, none⟩ = some (.int .u64 0) ∧ w'.cell? ⟨B, 2, none⟩ = some (.int .i64 0) ∧ w'.cell? ⟨B, 3, none⟩ = some (.pointer none) ∧ w'.cell? ⟨B, 4, none⟩ = some (.bool false) ∧ w'.cell? ⟨B, 5, none⟩ = some (.slice ho hn hc) ∧ w'.cell? ⟨D, 2, none⟩ = some (.map (some r2)) ∧ w'.cell? ⟨D, 3, none⟩ = some (.map none)) (exact hs.conj)
    (first | (go_at_call_of 13 (Value.bool false); refine (unused_held ho hn hc hn0 hn1 _).mono ?_; rintro e w4 ⟨rfl, hb⟩; replace hs := hs.next hb; clear hb) | (go_at_call_of 13 (Value.bool true); refine (unused_gone _).mono ?_; rintro e w4 ⟨rfl, hb⟩; replace hs := hs.next hb; clear hb) | (go_at_call_of 14 (Value.bool false); refine (state_held _ _).mono ?_; rintro e w4 ⟨rfl, hb⟩; replace hs := hs.next hb; clear hb) | (go_at_call_of 14 (Value.bool true); refine (state_gone _ _).mono ?_; rintro e w4 ⟨rfl, hb⟩; replace hs := hs.next hb; clear hb))
  obtain ⟨k0, k1, k2, k3, k4, k5, k6, k7, k8, k9, k10, k11, k12, k13⟩ := hs.conj
  go_wp2_with fail
  clear k0 k1 k2 k3 k4 k5 k6 k7 k8 k9 k10 k11 k12 k13
  go_region_held3 (fun w' => w'.cell? ⟨A, 0, none⟩ = some (.pointer none) ∧ w'.cell? ⟨A, 1, none⟩ = some (.int .u64 0) ∧ w'.cell? ⟨A, 2, none⟩ = some (.int .i64 0) ∧ w'.cell? ⟨A, 3, none⟩ = some (.pointer none) ∧ w'.cell? ⟨A, 4, none⟩ = some (.bool true) ∧ w'.cell? ⟨A, 5, none⟩ = some (.slice none 0 0) ∧ w'.cell? ⟨B, 0, none⟩ = some (.pointer none) ∧ w'.cell? ⟨B, 1, none⟩ = some (.int .u64 0) ∧ w'.cell? ⟨B, 2, none⟩ = some (.int .i64 0) ∧ w'.cell? ⟨B, 3, none⟩ = some (.pointer none) ∧ w'.cell? ⟨B, 4, none⟩ = some (.bool false) ∧ w'.cell? ⟨B, 5, none⟩ = some (.slice ho hn hc) ∧ w'.cell? ⟨D, 2, none⟩ = some (.map (some r2)) ∧ w'.cell? ⟨D, 3, none⟩ = some (.map none)) (first | exact hs.conj | exact (hs.del2 ht5 hm5 (by simp [exs]) (by simp)).conj)
    (first | (go_at_call 14; refine (state_held _ _).mono ?_; rintro e w4 ⟨rfl, hb⟩; replace hs := hs.next hb; clear hb; obtain ⟨w5, hdel, hm5, ht5⟩ := del_run (P := Yba.prog) (w := w4) Yba.underlying30 Yba.underlying27 hs.dom.i2 id 0))
  replace hs := hs.del2 ht5 hm5 (by simp [exs]) (by simp)
  clear hdel hm5 ht5
  obtain ⟨k0, k1, k2, k3, k4, k5, k6, k7, k8, k9, k10, k11, k12, k13⟩ := hs.conj
  go_wp2_with (go_at_call 13; refine (unused_gone _).mono ?_; rintro e w6 ⟨rfl, hb⟩; clear k0 k1 k2 k3 k4 k5 k6 k7 k8 k9 k10 k11 k12 k13; replace hs := hs.next hb; obtain ⟨k0, k1, k2, k3, k4, k5, k6, k7, k8, k9, k10, k11, k12, k13⟩ := hs.conj; clear hb)
  clear k0 k1 k2 k3 k4 k5 k6 k7 k8 k9 k10 k11 k12 k13
  go_region_held3 (fun w' => w'.cell? ⟨A, 0, none⟩ = some (.pointer none) ∧ w'.cell? ⟨A, 1, none⟩ = some (.int .u64 0) ∧ w'.cell? ⟨A, 2, none⟩ = some (.int .i64 0) ∧ w'.cell? ⟨A, 3, none⟩ = some (.pointer none) ∧ w'.cell? ⟨A, 4, none⟩ = some (.bool true) ∧ w'.cell? ⟨A, 5, none⟩ = some (.slice none 0 0) ∧ w'.cell? ⟨B, 0, none⟩ = some (.pointer none) ∧ w'.cell? ⟨B, 1, none⟩ = some (.int .u64 0) ∧ w'.cell? ⟨B, 2, none⟩ = some (.int .i64 0) ∧ w'.cell? ⟨B, 3, none⟩ = some (.pointer none) ∧ w'.cell? ⟨B, 4, none⟩ = some (.bool false) ∧ w'.cell? ⟨B, 5, none⟩ = some (.slice ho hn hc) ∧ w'.cell? ⟨D, 2, none⟩ = some (.map (some r2)) ∧ w'.cell? ⟨D, 3, none⟩ = some (.map none)) (exact hs.conj)
    (first | (go_at_call 14; refine (state_gone _ _).mono ?_; rintro e w4 ⟨rfl, hb⟩; replace hs := hs.next hb; clear hb))
  have hel := fun W => run_eql_map_nil (P := Yba.prog) W 30 27 41 none Yba.underlying30
  go_wp2_with fail
  have hm7 : MapIs (w4.alloc (.map #[] 0)) (.map (some w4.heap.size)) [] := .inr ⟨_, #[], 0, rfl, (MapKept.heap_alloc _ _).1, rfl⟩
  have hq : w.heap.size ≤ w4.heap.size := hs.turn.size
  replace hs := hs.alloc (.map #[] 0)
  generalize w4.alloc (.map #[] 0) = W7 at *
  generalize w4.heap.size = q at *
  go_region_held3 (fun w' => w'.cell? ⟨A, 0, none⟩ = some (.pointer none) ∧ w'.cell? ⟨A, 1, none⟩ = some (.int .u64 0) ∧ w'.cell? ⟨A, 2, none⟩ = some (.int .i64 0) ∧ w'.cell? ⟨A, 3, none⟩ = some (.pointer none) ∧ w'.cell? ⟨A, 4, none⟩ = some (.bool true) ∧ w'.cell? ⟨A, 5, none⟩ = some (.slice none 0 0) ∧ w'.cell? ⟨B, 0, none⟩ = some (.pointer none) ∧ w'.cell? ⟨B, 1, none⟩ = some (.int .u64 0) ∧ w'.cell? ⟨B, 2, none⟩ = some (.int .i64 0) ∧ w'.cell? ⟨B, 3, none⟩ = some (.pointer none) ∧ w'.cell? ⟨B, 4, none⟩ = some (.bool false) ∧ w'.cell? ⟨B, 5, none⟩ = some (.slice ho hn hc) ∧ w'.cell? ⟨D, 2, none⟩ = some (.map (some r2))) (first | exact hs.conj2 | exact (hs.hang hm7 (by simp [exs])).conj2)
    (first | (go_at_call 14; refine (state_gone _ _).mono ?_; rintro e w8 ⟨rfl, hb⟩; replace hs := hs.next hb; replace hm7 := hm7.keep (fun r _ hr => hb.block r hr); clear hb; have c3 := hs.dom.c3; have z3 := hs.dom.z3))
  replace hs := hs.hang hm7 (by simp [exs])
  clear c3 z3 hm7
  generalize w8.setCell ⟨D, 3, none⟩ (.map (some q)) = W9 at *
  obtain ⟨w9, hput, hm9, ht9⟩ := put_run (P := Yba.prog) (w := W9) Yba.underlying30 Yba.underlying27 hs.dom.i3 id (sv true (.slice none 0 0))
  dsimp only [sv] at hput
  obtain ⟨k0, k1, k2, k3, k4, k5, k6, k7, k8, k9, k10, k11, k12, k13⟩ := hs.conj
  go_wp2_with fail
  clear k0 k1 k2 k3 k4 k5 k6 k7 k8 k9 k10 k11 k12 k13
  replace hs := hs.del3 ht9 hm9 (Or.inr hq) (fun p hp => by have := hm2 p hp; omega)
  clear hput hm9 ht9
  go_region_held3 (fun w' => w'.cell? ⟨A, 0, none⟩ = some (.pointer none) ∧ w'.cell? ⟨A, 1, none⟩ = some (.int .u64 0) ∧ w'.cell? ⟨A, 2, none⟩ = some (.int .i64 0) ∧ w'.cell? ⟨A, 3, none⟩ = some (.pointer none) ∧ w'.cell? ⟨A, 4, none⟩ = some (.bool true) ∧ w'.cell? ⟨A, 5, none⟩ = some (.slice none 0 0) ∧ w'.cell? ⟨B, 0, none⟩ = some (.pointer none) ∧ w'.cell? ⟨B, 1, none⟩ = some (.int .u64 0) ∧ w'.cell? ⟨B, 2, none⟩ = some (.int .i64 0) ∧ w'.cell? ⟨B, 3, none⟩ = some (.pointer none) ∧ w'.cell? ⟨B, 4, none⟩ = some (.bool false) ∧ w'.cell? ⟨B, 5, none⟩ = some (.slice ho hn hc) ∧ w'.cell? ⟨D, 2, none⟩ = some (.map (some r2)) ∧ w'.cell? ⟨D, 3, none⟩ = some (.map (some q))) (exact hs.conj)
    (first | (go_at_call_of 15 (Value.bool false); refine (cost_held ho hn hc hn0 hn1 _).mono ?_; rintro e w4 ⟨rfl, hb⟩; replace hs := hs.next hb; clear hb) | (go_at_call_of 15 (Value.bool true); refine (cost_gone _).mono ?_; rintro e w4 ⟨rfl, hb⟩; replace hs := hs.next hb; clear hb))
  go_wp2
  go_ret
  exact ⟨rfl, hs.turn, q, hq, hs.dom⟩

set_option maxRecDepth 100000 in
set_option maxHeartbeats 4000000 in
theorem set_WN (D : Nat) (id : Int) (m2 : Option Nat) (r3 : Nat) (es2 es3 : List (Int × Value)) (w : World) (hd : Dom w D m2 (some r3) es2 es3) (h2 : look es2 id = none) (h3 : look es3 id = some (sv true (.slice none 0 0))) (hne : ∀ q, m2 = some q → q ≠ r3) :
    Calls Yba.prog 12 #[.pointer (some ⟨D, 0, none⟩), .int .u16 id, sv false (.slice none 0 0)] w fun e w' => e = .returned (.int .i64 (-96)) ∧ Turn (exs D m2 (some r3)) w w' ∧ Dom w' D m2 (some r3) es2 (del es3 id) := by
  have hl : D < w.heap.size := lt_of_cell hd.c0
  have hmk := @run_makeMap Yba.prog
  have HD := hd.below ((Below.refl _ _).alloc (Nat.le_refl _) (.cells #[.pointer none, .int .u64 0, .int .i64 0, .pointer none, .bool false, .slice none 0 0] 41))
  go_enter Yba.func12, Yba.ntmps12
  go_wp2_with fail
  refine (slot_at3 D id true none 0 0 m2 (some r3) es2 es3 _ HD h2 h3).mono ?_
  rintro e w1 ⟨rfl, hb1⟩
  have ht := Two.start (bb := true) (hb := .slice none 0 0) hb1
  have HB : Hid (Below w.heap.size w w1) := ((Below.refl _ _).alloc (Nat.le_refl _) _).trans (hb1.mono (by simp))
  have HS : Hid (w.heap.size ≤ w1.heap.size) := HB.out.size
  go_wp2
  have HB2 : Below w.heap.size w (w1.alloc (.cells #[.pointer none, .int .u64 0, .int .i64 0, .pointer none, .bool true, .slice none 0 0] 41)) := HB.out.alloc HS.out _
  have hs : St (exs D m2 (some r3)) w (w1.alloc (.cells #[.pointer none, .int .u64 0, .int .i64 0, .pointer none, .bool true, .slice none 0 0] 41)) D w.heap.size w1.heap.size m2 (some r3) es2 es3 false (.slice none 0 0) true (.slice none 0 0) := ⟨ht, hd.below HB2, Turn.below HB2, by omega, by have := HS.out; omega⟩
  clear hb1 HB HB2 ht HD hd
  generalize w1.alloc (.cells #[.pointer none, .int .u64 0, .int .i64 0, .pointer none, .bool true, .slice none 0 0] 41) = W at *
  generalize w1.heap.size = B at *
  obtain ⟨A, hA⟩ : ∃ A, A = w.heap.size := ⟨_, rfl⟩
  rw [← hA] at hs ⊢
  have HA : Hid (A = w.heap.size) := hA
  clear hA hl HS
  obtain ⟨k0, k1, k2, k3, k4, k5, k6, k7, k8, k9, k10, k11, k12, k13⟩ := hs.conj
  refine wp_region_noPanic ?_
  refine wp_region_any (by kernel_rfl) ?_
  change wpAny _ _ _ _ _ _ _ (World.drew _)
  refine wpAny_ready (rs := [0]) (by kernel_rfl) (by simp) ?_
  refine BigFrame.allReady_want rfl (by rfl) (fun K hK => ?_) AllReady.nil
  go_simp
  refine hK _ _ ?_
  clear hK K
  refine wpAny_ready (rs := [1]) (by kernel_rfl) (by simp) ?_
  refine BigFrame.allReady_want rfl (by rfl) (fun K hK => ?_) AllReady.nil
  go_simp
  refine (unused_gone _).mono ?_
  rintro e w2 ⟨rfl, hb⟩
  clear k0 k1 k2 k3 k4 k5 k6 k7 k8 k9 k10 k11 k12 k13
  replace hs := hs.next hb
  obtain ⟨k0, k1, k2, k3, k4, k5, k6, k7, k8, k9, k10, k11, k12, k13⟩ := hs.conj
  clear hb
  refine hK _ _ ?_
  clear hK K
  refine wpAny_ready (rs := [2]) (by kernel_rfl) (by simp) ?_
  refine BigFrame.allReady_want rfl (by rfl) (fun K hK => ?_) AllReady.nil
  go_simp
  refine hK _ _ ?_
  clear hK K
  refine wpAny_ready (rs := [3]) (by kernel_rfl) (by simp) ?_
  refine BigFrame.allReady_want rfl (by rfl) (fun K hK => ?_) AllReady.nil
  go_simp
  refine hK _ _ ?_
  clear hK K
  refine wpAny_ready (rs := [4]) (by kernel_rfl) (by simp) ?_
  refine BigFrame.allReady_want rfl (by rfl) (fun K hK => ?_) AllReady.nil
  go_simp
  refine hK _ _ ?_
  clear hK K
  refine wpAny_ready (rs := [5]) (by kernel_rfl) (by simp) ?_
  refine BigFrame.allReady_want rfl (by rfl) (fun K hK => ?_) AllReady.nil
  go_simp
  refine (unused_yes _).mono ?_
  rintro e w2 ⟨rfl, hb⟩
  clear k0 k1 k2 k3 k4 k5 k6 k7 k8 k9 k10 k11 k12 k13
  replace hs := hs.next hb
  obtain ⟨k0, k1, k2, k3, k4, k5, k6, k7, k8, k9, k10, k11, k12, k13⟩ := hs.conj
  clear hb
  refine hK _ _ ?_
  clear hK K
  refine wpAny_ready (rs := [6]) (by kernel_rfl) (by simp) ?_
  refine BigFrame.allReady_want rfl (by rfl) (fun K hK => ?_) AllReady.nil
  go_simp
  refine hK _ _ ?_
  clear hK K
  refine wpAny_take (i := 7) (v := undef) rfl (by kernel_rfl) (by kernel_rfl) (by kernel_rfl) (fun _ _ _ h => h) (Or.inr ⟨by rfl, rfl⟩) ?_
  simp only [List.getElem_toArray, List.getElem_cons_succ, List.getElem_cons_zero, Act.put, List.setIfInBounds_toArray, List.set_cons_zero, List.set_cons_succ]
  refine wpAny_take (i := 9) (v := undef) rfl (by kernel_rfl) (by kernel_rfl) (by kernel_rfl) (fun _ _ _ h => h) (Or.inr ⟨by rfl, rfl⟩) ?_
  simp only [List.getElem_toArray, List.getElem_cons_succ, List.getElem_cons_zero, Act.put, List.setIfInBounds_toArray, List.set_cons_zero, List.set_cons_succ]
  refine wpAny_ready (rs := [8]) (by kernel_rfl) (by simp) ?_
  refine BigFrame.allReady_skip rfl (by rfl) ?_ AllReady.nil
  simp only [List.getElem_toArray, List.getElem_cons_succ, List.getElem_cons_zero, Act.put, List.setIfInBounds_toArray, List.set_cons_zero, List.set_cons_succ]
  refine wpAny_ready (rs := [10]) (by kernel_rfl) (by simp) ?_
  refine BigFrame.allReady_skip rfl (by rfl) ?_ AllReady.nil
  simp only [List.getElem_toArray, List.getElem_cons_succ, List.getElem_cons_zero, Act.put, List.setIfInBounds_toArray, List.set_cons_zero, List.set_cons_succ]
  refine wpAny_take (i := 11) (v := undef) rfl (by kernel_rfl) (by kernel_rfl) (by kernel_rfl) (fun _ _ _ h => h) (Or.inr ⟨by rfl, rfl⟩) ?_
  simp only [List.getElem_toArray, List.getElem_cons_succ, List.getElem_cons_zero, Act.put, List.setIfInBounds_toArray, List.set_cons_zero, List.set_cons_succ]
  refine wpAny_ready (rs := [12]) (by kernel_rfl) (by simp) ?_
  refine BigFrame.allReady_want rfl (by rfl) (fun K hK => ?_) AllReady.nil
  go_simp
  refine hK _ _ ?_
  clear hK K
  refine wpAny_ready (rs := [13]) (by kernel_rfl) (by simp) ?_
  refine BigFrame.allReady_want rfl (by rfl) (fun K hK => ?_) AllReady.nil
  go_simp
  refine hK _ _ ?_
  clear hK K
  refine wpAny_done (by kernel_rfl) ?_ _
  refine NoPanic.normal ?_
  go_wp2_with fail
  clear k0 k1 k2 k3 k4 k5 k6 k7 k8 k9 k10 k11 k12 k13
  go_region_held3 (fun w' => w'.cell? ⟨A, 0, none⟩ = some (.pointer none) ∧ w'.cell? ⟨A, 1, none⟩ = some (.int .u64 0) ∧ w'.cell? ⟨A, 2, none⟩ = some (.int .i64 0) ∧ w'.cell? ⟨A, 3, none⟩ = some (.pointer none) ∧ w'.cell? ⟨A, 4, none⟩ = some (.bool false) ∧ w'.cell? ⟨A, 5, none⟩ = some (.slice none 0 0) ∧ w'.cell? ⟨B, 0, none⟩ = some (.pointer none) ∧ w'.cell? ⟨B, 1, none⟩ = some (.int .u64 0) ∧ w'.cell? ⟨B, 2, none⟩ = some (.int .i64 0) ∧ w'.cell? ⟨B, 3, none⟩ = some (.pointer none) ∧ w'.cell? ⟨B, 4, none⟩ = some (.bool true) ∧ w'.cell? ⟨B, 5, none⟩ = some (.slice none 0 0) ∧ w'.cell? ⟨D, 2, none⟩ = some (.map m2) ∧ w'.cell? ⟨D, 3, none⟩ = some (.map (some r3))) (first | exact hs.conj | exact (hs.del3 ht5 hm5 (by simp [exs]) hne).conj)
    (first | (go_at_call 14; refine (state_gone _ _).mono ?_; rintro e w4 ⟨rfl, hb⟩; replace hs := hs.next hb; clear hb; obtain ⟨w5, hdel, hm5, ht5⟩ := del_run (P := Yba.prog) (w := w4) Yba.underlying30 Yba.underlying27 hs.dom.i3 id 0))
  replace hs := hs.del3 ht5 hm5 (by simp [exs]) hne
  clear hdel hm5 ht5
  obtain ⟨k0, k1, k2, k3, k4, k5, k6, k7, k8, k9, k10, k11, k12, k13⟩ := hs.conj
  go_wp2_with (go_at_call 13; refine (unused_yes _).mono ?_; rintro e w6 ⟨rfl, hb⟩; clear k0 k1 k2 k3 k4 k5 k6 k7 k8 k9 k10 k11 k12 k13; replace hs := hs.next hb; obtain ⟨k0, k1, k2, k3, k4, k5, k6, k7, k8, k9, k10, k11, k12, k13⟩ := hs.conj; clear hb)
  clear k0 k1 k2 k3 k4 k5 k6 k7 k8 k9 k10 k11 k12 k13
  go_region_held3 (fun w' => w'.cell? ⟨A, 0, none⟩ = some (.pointer none) ∧ w'.cell? ⟨A, 1, none⟩ = some (.int .u64 0) ∧ w'.cell? ⟨A, 2, none⟩ = some (.int .i64 0) ∧ w'.cell? ⟨A, 3, none⟩ = some (.pointer none) ∧ w'.cell? ⟨A, 4, none⟩ = some (.bool false) ∧ w'.cell? ⟨A, 5, none⟩ = some (.slice none 0 0) ∧ w'.cell? ⟨B, 0, none⟩ = some (.pointer none) ∧ w'.cell? ⟨B, 1, none⟩ = some (.int .u64 0) ∧ w'.cell? ⟨B, 2, none⟩ = some (.int .i64 0) ∧ w'.cell? ⟨B, 3, none⟩ = some (.pointer none) ∧ w'.cell? ⟨B, 4, none⟩ = some (.bool true) ∧ w'.cell? ⟨B, 5, none⟩ = some (.slice none 0 0) ∧ w'.cell? ⟨D, 2, none⟩ = some (.map m2) ∧ w'.cell? ⟨D, 3, none⟩ = some (.map (some r3))) (exact hs.conj)
    (first | (go_at_call_of 15 (Value.bool true); refine (cost_gone _).mono ?_; rintro e w4 ⟨rfl, hb⟩; replace hs := hs.next hb; clear hb) | (go_at_call_of 15 (Value.bool false); refine (cost_none _).mono ?_; rintro e w4 ⟨rfl, hb⟩; replace hs := hs.next hb; clear hb))
  go_wp2
  go_ret
  exact ⟨rfl, hs.turn, hs.dom⟩

set_option maxRecDepth 100000 in
set_option maxHeartbeats 4000000 in
theorem set_WX (D : Nat) (id : Int) (m2 : Option Nat) (r3 : Nat) (es2 es3 : List (Int × Value)) (w : World) (hd : Dom w D m2 (some r3) es2 es3) (h2 : look es2 id = none) (h3 : look es3 id = some (sv true (.slice none 0 0))) (hne : ∀ q, m2 = some q → q ≠ r3) :
    Calls Yba.prog 12 #[.pointer (some ⟨D, 0, none⟩), .int .u16 id, sv true (.slice none 0 0)] w fun e w' => e = .returned (.int .i64 0) ∧ Turn (exs D m2 (some r3)) w w' ∧ Dom w' D m2 (some r3) es2 (put es3 id (sv true (.slice none 0 0))) := by
  have hl : D < w.heap.size := lt_of_cell hd.c0
  have hmk := @run_makeMap Yba.prog
  have hm2 : ∀ p, m2 = some p → p < w.heap.size := fun p hp => by
    rcases hd.i2 with ⟨h, _⟩ | ⟨r, arr, c, h, hb, _⟩
    · cases h <;> cases hp
    · cases h; cases hp; exact (Array.getElem?_eq_some_iff.1 hb).1
  have HD := hd.below ((Below.refl _ _).alloc (Nat.le_refl _) (.cells #[.pointer none, .int .u64 0, .int .i64 0, .pointer none, .bool true, .slice none 0 0] 41))
  go_enter Yba.func12, Yba.ntmps12
  go_wp2_with fail
  refine (slot_at3 D id true none 0 0 m2 (some r3) es2 es3 _ HD h2 h3).mono ?_
  rintro e w1 ⟨rfl, hb1⟩
  have ht := Two.start (bb := true) (hb := .slice none 0 0) hb1
  have HB : Hid (Below w.heap.size w w1) := ((Below.refl _ _).alloc (Nat.le_refl _) _).trans (hb1.mono (by simp))
  have HS : Hid (w.heap.size ≤ w1.heap.size) := HB.out.size
  go_wp2
  have HB2 : Below w.heap.size w (w1.alloc (.cells #[.pointer none, .int .u64 0, .int .i64 0, .pointer none, .bool true, .slice none 0 0] 41)) := HB.out.alloc HS.out _
  have hs : St (exs D m2 (some r3)) w (w1.alloc (.cells #[.pointer none, .int .u64 0, .int .i64 0, .pointer none, .bool true, .slice none 0 0] 41)) D w.heap.size w1.heap.size m2 (some r3) es2 es3 true (.slice none 0 0) true (.slice none 0 0) := ⟨ht, hd.below HB2, Turn.below HB2, by omega, by have := HS.out; omega⟩
  clear hb1 HB HB2 ht HD hd
  generalize w1.alloc (.cells #[.pointer none, .int .u64 0, .int .i64 0, .pointer none, .bool true, .slice none 0 0] 41) = W at *
  generalize w1.heap.size = B at *
  obtain ⟨A, hA⟩ : ∃ A, A = w.heap.size := ⟨_, rfl⟩
  rw [← hA] at hs ⊢
  have HA : Hid (A = w.heap.size) := hA
  clear hA hl HS
  obtain ⟨k0, k1, k2, k3, k4, k5, k6, k7, k8, k9, k10, k11, k12, k13⟩ := hs.conj
  clear k0 k1 k2 k3 k4 k5 k6 k7 k8 k9 k10 k11 k12 k13
  go_region_held3 (fun w' => w'.cell? ⟨A, 0, none⟩ = some (.pointer none) ∧ w'.cell? ⟨A, 1, none⟩ = some (.int .u64 0) ∧ w'.cell? ⟨A, 2, none⟩ = some (.int .i64 0) ∧ w'.cell? ⟨A, 3, none⟩ = some (.pointer none) ∧ w'.cell? ⟨A, 4, none⟩ = some (.bool true) ∧ w'.cell? ⟨A, 5, none⟩ = some (.slice none 0 0) ∧ w'.cell? ⟨B, 0, none⟩ = some (.pointer none) ∧ w'.cell? ⟨B, 1, none⟩ = some (.int .u64 0) ∧ w'.cell? ⟨B, 2, none⟩ = some (.int .i64 0) ∧ w'.cell? ⟨B, 3, none⟩ = some (.pointer none) ∧ w'.cell? ⟨B, 4, none⟩ = some (.bool true) ∧ w'.cell? ⟨B, 5, none⟩ = some (.slice none 0 0) ∧ w'.cell? ⟨D, 2, none⟩ = some (.map m2) ∧ w'.cell? ⟨D, 3, none⟩ = some (.map (some r3))) (exact hs.conj)
    (first | (go_at_call 13; refine (unused_gone _).mono ?_; rintro e w4 ⟨rfl, hb⟩; replace hs := hs.next hb; clear hb) | (go_at_call 14; refine (state_gone _ _).mono ?_; rintro e w4 ⟨rfl, hb⟩; replace hs := hs.next hb; clear hb))
  obtain ⟨k0, k1, k2, k3, k4, k5, k6, k7, k8, k9, k10, k11, k12, k13⟩ := hs.conj
  go_wp2_with (go_at_call 13; refine (unused_gone _).mono ?_; rintro e w6 ⟨rfl, hb⟩; clear k0 k1 k2 k3 k4 k5 k6 k7 k8 k9 k10 k11 k12 k13; replace hs := hs.next hb; obtain ⟨k0, k1, k2, k3, k4, k5, k6, k7, k8, k9, k10, k11, k12, k13⟩ := hs.conj; clear hb)
  clear k0 k1 k2 k3 k4 k5 k6 k7 k8 k9 k10 k11 k12 k13
  go_region_held3 (fun w' => w'.cell? ⟨A, 0, none⟩ = some (.pointer none) ∧ w'.cell? ⟨A, 1, none⟩ = some (.int .u64 0) ∧ w'.cell? ⟨A, 2, none⟩ = some (.int .i64 0) ∧ w'.cell? ⟨A, 3, none⟩ = some (.pointer none) ∧ w'.cell? ⟨A, 4, none⟩ = some (.bool true) ∧ w'.cell? ⟨A, 5, none⟩ = some (.slice none 0 0) ∧ w'.cell? ⟨B, 0, none⟩ = some (.pointer none) ∧ w'.cell? ⟨B, 1, none⟩ = some (.int .u64 0) ∧ w'.cell? ⟨B, 2, none⟩ = some (.int .i64 0) ∧ w'.cell? ⟨B, 3, none⟩ = some (.pointer none) ∧ w'.cell? ⟨B, 4, none⟩ = some (.bool true) ∧ w'.cell? ⟨B, 5, none⟩ = some (.slice none 0 0) ∧ w'.cell? ⟨D, 2, none⟩ = some (.map m2) ∧ w'.cell? ⟨D, 3, none⟩ = some (.map (some r3))) (exact hs.conj)
    (first | (go_at_call 14; refine (state_gone _ _).mono ?_; rintro e w4 ⟨rfl, hb⟩; replace hs := hs.next hb; clear hb))
  have hel := fun W => run_eql_map_nil (P := Yba.prog) W 30 27 41 (some r3) Yba.underlying30
  obtain ⟨w9, hput, hm9, ht9⟩ := put_run (P := Yba.prog) (w := w4) Yba.underlying30 Yba.underlying27 hs.dom.i3 id (sv true (.slice none 0 0))
  dsimp only [sv] at hput
  obtain ⟨k0, k1, k2, k3, k4, k5, k6, k7, k8, k9, k10, k11, k12, k13⟩ := hs.conj
  go_wp2_with fail
  clear k0 k1 k2 k3 k4 k5 k6 k7 k8 k9 k10 k11 k12 k13
  replace hs := hs.del3 ht9 hm9 (Or.inl (by simp [exs])) hne
  clear hput hm9 ht9
  go_region_held3 (fun w' => w'.cell? ⟨A, 0, none⟩ = some (.pointer none) ∧ w'.cell? ⟨A, 1, none⟩ = some (.int .u64 0) ∧ w'.cell? ⟨A, 2, none⟩ = some (.int .i64 0) ∧ w'.cell? ⟨A, 3, none⟩ = some (.pointer none) ∧ w'.cell? ⟨A, 4, none⟩ = some (.bool true) ∧ w'.cell? ⟨A, 5, none⟩ = some (.slice none 0 0) ∧ w'.cell? ⟨B, 0, none⟩ = some (.pointer none) ∧ w'.cell? ⟨B, 1, none⟩ = some (.int .u64 0) ∧ w'.cell? ⟨B, 2, none⟩ = some (.int .i64 0) ∧ w'.cell? ⟨B, 3, none⟩ = some (.pointer none) ∧ w'.cell? ⟨B, 4, none⟩ = some (.bool true) ∧ w'.cell? ⟨B, 5, none⟩ = some (.slice none 0 0) ∧ w'.cell? ⟨D, 2, none⟩ = some (.map m2) ∧ w'.cell? ⟨D, 3, none⟩ = some (.map (some r3))) (exact hs.conj)
    (first | (go_at_call 15; refine (cost_gone _).mono ?_; rintro e w4 ⟨rfl, hb⟩; replace hs := hs.next hb; clear hb))
  go_wp2
  go_ret
  exact ⟨rfl, hs.turn, hs.dom⟩

end Go.Proofs.Ybulkcbmo.D
