import Derived.Test.YbulkcbmoRows
import Derived.Test.YbulkcbmoDWorld
import Derived.WalkKit
import Derived.WalkSpells
import Derived.WalkLawsBesides
namespace Go.Proofs.Ybulkcbmo.D
open Go.RowKit

/-- A templateSlot with no Template. -/
abbrev sv (b : Bool) (h : Value) : Value := .agg #[.pointer none, .int .u64 0, .int .i64 0, .pointer none, .bool b, h]

theorem unused_yes (w : World) :
    Calls Yba.prog 13 #[sv false (.slice none 0 0)] w fun e w' => e = .returned (.bool true) ∧ Below w.heap.size w w' := by
  go_enter Yba.func13, Yba.ntmps13
  go_wp2
  go_ret
  exact ⟨rfl, (Below.refl _ _).alloc (Nat.le_refl _) _⟩

theorem unused_held (a : Option Addr) (n c : Nat) (hn : 0 < n) (hm : n ≤ 100000) (w : World) :
    Calls Yba.prog 13 #[sv false (.slice a n c)] w fun e w' => e = .returned (.bool false) ∧ Below w.heap.size w w' := by
  have h0 : ((n : Int) == 0) = false := beq_eq_false_iff_ne.2 (by omega)
  go_enter Yba.func13, Yba.ntmps13
  go_wp2
  go_ret
  exact ⟨rfl, (Below.refl _ _).alloc (Nat.le_refl _) _⟩

theorem unused_gone (w : World) :
    Calls Yba.prog 13 #[sv true (.slice none 0 0)] w fun e w' => e = .returned (.bool false) ∧ Below w.heap.size w w' := by
  go_enter Yba.func13, Yba.ntmps13
  go_wp2
  go_ret
  exact ⟨rfl, (Below.refl _ _).alloc (Nat.le_refl _) _⟩

theorem state_held (h : Value) (w : World) :
    Calls Yba.prog 14 #[sv false h] w fun e w' => e = .returned (.int .i64 2) ∧ Below w.heap.size w w' := by
  go_enter Yba.func14, Yba.ntmps14
  go_wp2
  go_ret
  exact ⟨rfl, (Below.refl _ _).alloc (Nat.le_refl _) _⟩

theorem state_gone (h : Value) (w : World) :
    Calls Yba.prog 14 #[sv true h] w fun e w' => e = .returned (.int .i64 3) ∧ Below w.heap.size w w' := by
  go_enter Yba.func14, Yba.ntmps14
  go_wp2
  go_ret
  exact ⟨rfl, (Below.refl _ _).alloc (Nat.le_refl _) _⟩

theorem cost_none (w : World) :
    Calls Yba.prog 15 #[sv false (.slice none 0 0)] w fun e w' => e = .returned (.int .i64 0) ∧ Below w.heap.size w w' := by
  go_enter Yba.func15, Yba.ntmps15
  go_wp2_with (go_at_call 13; refine (unused_yes _).mono ?_; rintro e w' ⟨rfl, hb⟩)
  go_ret
  exact ⟨rfl, ((Below.refl _ _).alloc (Nat.le_refl _) _).trans (hb.mono (by simp))⟩

theorem cost_held (a : Option Addr) (n c : Nat) (hn : 0 < n) (hm : n ≤ 100000) (w : World) :
    Calls Yba.prog 15 #[sv false (.slice a n c)] w fun e w' => e = .returned (.int .i64 96) ∧ Below w.heap.size w w' := by
  go_enter Yba.func15, Yba.ntmps15
  go_wp2_with (go_at_call 13; refine (unused_held a n c hn hm _).mono ?_; rintro e w' ⟨rfl, hb⟩; have c0 := (hb.cell (p := ⟨w.heap.size, 0, none⟩) (by simp)).trans (World.cell?_alloc_new _ _ _ _))
  go_ret
  exact ⟨rfl, ((Below.refl _ _).alloc (Nat.le_refl _) _).trans (hb.mono (by simp))⟩

theorem cost_gone (w : World) :
    Calls Yba.prog 15 #[sv true (.slice none 0 0)] w fun e w' => e = .returned (.int .i64 96) ∧ Below w.heap.size w w' := by
  go_enter Yba.func15, Yba.ntmps15
  go_wp2_with (go_at_call 13; refine (unused_gone _).mono ?_; rintro e w' ⟨rfl, hb⟩; have c0 := (hb.cell (p := ⟨w.heap.size, 0, none⟩) (by simp)).trans (World.cell?_alloc_new _ _ _ _))
  go_ret
  exact ⟨rfl, ((Below.refl _ _).alloc (Nat.le_refl _) _).trans (hb.mono (by simp))⟩

/-- A domain's four maps, of which the first two are nil. -/
structure Dom (w : World) (D : Nat) (m2 m3 : Option Nat) (es2 es3 : List (Int × Value)) : Prop where
  c0 : w.cell? ⟨D, 0, none⟩ = some (.map none)
  c1 : w.cell? ⟨D, 1, none⟩ = some (.map none)
  c2 : w.cell? ⟨D, 2, none⟩ = some (.map m2)
  c3 : w.cell? ⟨D, 3, none⟩ = some (.map m3)
  i2 : MapIs w (.map m2) es2
  i3 : MapIs w (.map m3) es3
  z2 : w.frozen? ⟨D, 2, none⟩ = false
  z3 : w.frozen? ⟨D, 3, none⟩ = false

theorem zero41 (w : World) : (zeroValue 41).run Yba.prog w = .ok (sv false (.slice none 0 0)) w := by kernel_rfl

theorem MapIs.keep {w w' : World} {v : Value} {es : List (Int × Value)} (h : MapIs w v es) (hk : ∀ r, v = .map (some r) → r < w.heap.size → w'.heap[r]? = w.heap[r]?) : MapIs w' v es := by
  rcases h with h | ⟨r, arr, c, rfl, hb, he⟩
  · exact .inl h
  · exact .inr ⟨r, arr, c, rfl, by rw [hk r rfl ((Array.getElem?_eq_some_iff.1 hb).1)]; exact hb, he⟩

/-- The loop of (*domain).slot: the result's variable is as it was laid; nothing old has turned. -/
def SlotRel (w wr : World) : Prop :=
  Below w.heap.size w wr ∧ w.heap.size < wr.heap.size ∧ wr.heap[w.heap.size]? = some (.cells #[.pointer none, .int .u64 0, .int .i64 0, .pointer none, .bool false, .slice none 0 0] 41)
theorem SlotRel.start (w : World) : SlotRel w (w.alloc (.cells #[.pointer none, .int .u64 0, .int .i64 0, .pointer none, .bool false, .slice none 0 0] 41)) :=
  ⟨(Below.refl _ _).alloc (Nat.le_refl _) _, by simp, (MapKept.heap_alloc w _).1⟩
theorem SlotRel.alloc {w wr : World} (h : SlotRel w wr) (o : Obj) : SlotRel w (wr.alloc o) :=
  ⟨h.1.alloc h.1.size _, by have := h.2.1; simp; omega, by rw [(MapKept.heap_alloc wr o).2 _ h.2.1]; exact h.2.2⟩
theorem SlotRel.cell {w wr : World} (h : SlotRel w wr) (j : Nat) : wr.cell? ⟨w.heap.size, j, none⟩ = (#[.pointer none, .int .u64 0, .int .i64 0, .pointer none, .bool false, .slice none 0 0] : Array Value)[j]? := by
  simp [World.cell?, h.2.2]
theorem SlotRel.free {w wr : World} (h : SlotRel w wr) (j : Nat) : wr.frozen? ⟨w.heap.size, j, none⟩ = false := by
  simp [World.frozen?, h.2.2]

section
variable (m2 m3 : Option Nat) (w : World)
theorem ix0 : (Instr.index 31 (.agg #[.map none, .map none, .map m2, .map m3]) (.int .i64 0)).run Yba.prog w = .ok (.map none) w := by kernel_rfl
theorem ix1 : (Instr.index 31 (.agg #[.map none, .map none, .map m2, .map m3]) (.int .i64 1)).run Yba.prog w = .ok (.map none) w := by kernel_rfl
theorem ix2 : (Instr.index 31 (.agg #[.map none, .map none, .map m2, .map m3]) (.int .i64 2)).run Yba.prog w = .ok (.map m2) w := by kernel_rfl
theorem ix3 : (Instr.index 31 (.agg #[.map none, .map none, .map m2, .map m3]) (.int .i64 3)).run Yba.prog w = .ok (.map m3) w := by kernel_rfl
end

set_option maxHeartbeats 800000 in
theorem slot_none (D : Nat) (id : Int) (m2 m3 : Option Nat) (es2 es3 : List (Int × Value)) (w : World) (hd : Dom w D m2 m3 es2 es3) (h2 : look es2 id = none) (h3 : look es3 id = none) :
    Calls Yba.prog 9 #[.pointer (some ⟨D, 0, none⟩), .int .u16 id] w fun e w' => e = .returned (sv false (.slice none 0 0)) ∧ Below w.heap.size w w' := by
  have c0 := hd.c0
  have c1 := hd.c1
  have c2 := hd.c2
  have c3 := hd.c3
  have hD := lt_of_cell c0
  simp only at hD
  go_enter Yba.func9, Yba.ntmps9
  go_wp2
  go_loopw [13] (fun i wr => ∃ k : Nat, k ≤ 4 ∧ i = .int .i64 k ∧ SlotRel w wr) (fun i _ => 4 - (intOf i).toNat)
  case atStart => exact ⟨0, by omega, rfl, SlotRel.start w⟩
  case round =>
    obtain ⟨k, hk, rfl, hrel⟩ := hrel
    have q0 := look_run (P := Yba.prog) (w := wr) Yba.underlying30 Yba.underlying27 (v := .map none) (es := []) (.inl ⟨rfl, rfl⟩) (zero41 _) id
    have q2 := look_run (P := Yba.prog) (w := wr) Yba.underlying30 Yba.underlying27 (hd.i2.keep (fun r _ hr => hrel.1.block r hr)) (zero41 _) id
    have q3 := look_run (P := Yba.prog) (w := wr) Yba.underlying30 Yba.underlying27 (hd.i3.keep (fun r _ hr => hrel.1.block r hr)) (zero41 _) id
    rw [h2] at q2
    rw [h3] at q3
    simp only [look, at?, List.findIdx?_nil, Option.getD_none, Option.isSome_none] at q0 q2 q3
    have j0 := ix0 m2 m3 wr
    have j1 := ix1 m2 m3 wr
    have j2 := ix2 m2 m3 wr
    have j3 := ix3 m2 m3 wr
    have d0 := hrel.cell 0
    have d1 := hrel.cell 1
    have d2 := hrel.cell 2
    have d3 := hrel.cell 3
    have d4 := hrel.cell 4
    have d5 := hrel.cell 5
    simp only [List.getElem?_toArray, List.getElem?_cons_zero, List.getElem?_cons_succ] at d0 d1 d2 d3 d4 d5
    have z0 := hrel.free
    clear hd c0 c1 c2 c3
    obtain rfl | rfl | rfl | rfl | rfl : k = 0 ∨ k = 1 ∨ k = 2 ∨ k = 3 ∨ k = 4 := by omega
    · go_wp2
      go_roundw
      case rel => exact ⟨1, by omega, by go_num, hrel.alloc _⟩
      case measure => simp [intOf]
    · go_wp2
      go_roundw
      case rel => exact ⟨2, by omega, by go_num, hrel.alloc _⟩
      case measure => simp [intOf]
    · go_wp2
      go_roundw
      case rel => exact ⟨3, by omega, by go_num, hrel.alloc _⟩
      case measure => simp [intOf]
    · go_wp2
      go_roundw
      case rel => exact ⟨4, by omega, by go_num, hrel.alloc _⟩
      case measure => simp [intOf]
    · go_wp2
      refine bodyPost_ret (v := sv false (.slice none 0 0)) (by simp [results, Yba.results9, go_sem, d0, d1, d2, d3, d4, d5]) rfl ⟨rfl, ?_⟩
      exact (((((hrel.1.setCell (Nat.le_refl _) _).setCell (Nat.le_refl _) _).setCell (Nat.le_refl _) _).setCell (Nat.le_refl _) _).setCell (Nat.le_refl _) _).setCell (Nat.le_refl _) _
set_option maxHeartbeats 800000 in
theorem slot_at2 (D : Nat) (id : Int) (b : Bool) (a : Option Addr) (n c : Nat) (m2 m3 : Option Nat) (es2 es3 : List (Int × Value)) (w : World) (hd : Dom w D m2 m3 es2 es3) (h2 : look es2 id = some (sv b (.slice a n c))) :
    Calls Yba.prog 9 #[.pointer (some ⟨D, 0, none⟩), .int .u16 id] w fun e w' => e = .returned (sv b (.slice a n c)) ∧ Below w.heap.size w w' := by
  have c0 := hd.c0
  have c1 := hd.c1
  have c2 := hd.c2
  have c3 := hd.c3
  have hD := lt_of_cell c0
  simp only at hD
  go_enter Yba.func9, Yba.ntmps9
  go_wp2
  go_loopw [13] (fun i wr => ∃ k : Nat, k ≤ 2 ∧ i = .int .i64 k ∧ SlotRel w wr) (fun i _ => 4 - (intOf i).toNat)
  case atStart => exact ⟨0, by omega, rfl, SlotRel.start w⟩
  case round =>
    obtain ⟨k, hk, rfl, hrel⟩ := hrel
    have q0 := look_run (P := Yba.prog) (w := wr) Yba.underlying30 Yba.underlying27 (v := .map none) (es := []) (.inl ⟨rfl, rfl⟩) (zero41 _) id
    have q2 := look_run (P := Yba.prog) (w := wr) Yba.underlying30 Yba.underlying27 (hd.i2.keep (fun r _ hr => hrel.1.block r hr)) (zero41 _) id
    rw [h2] at q2
    simp only [look, at?, List.findIdx?_nil, Option.getD_none, Option.isSome_none] at q0
    simp only [Option.getD_some, Option.isSome_some] at q2
    have j0 := ix0 m2 m3 wr
    have j1 := ix1 m2 m3 wr
    have j2 := ix2 m2 m3 wr
    have d0 := hrel.cell 0
    have d1 := hrel.cell 1
    have d2 := hrel.cell 2
    have d3 := hrel.cell 3
    have d4 := hrel.cell 4
    have d5 := hrel.cell 5
    simp only [List.getElem?_toArray, List.getElem?_cons_zero, List.getElem?_cons_succ] at d0 d1 d2 d3 d4 d5
    have z0 := hrel.free
    clear hd c0 c1 c2 c3
    obtain rfl | rfl | rfl : k = 0 ∨ k = 1 ∨ k = 2 := by omega
    · go_wp2
      go_roundw
      case rel => exact ⟨1, by omega, by go_num, hrel.alloc _⟩
      case measure => simp [intOf]
    · go_wp2
      go_roundw
      case rel => exact ⟨2, by omega, by go_num, hrel.alloc _⟩
      case measure => simp [intOf]
    · have hlt := hrel.2.1
      go_wp2
      refine bodyPost_ret (v := sv b (.slice a n c)) (by simp [results, Yba.results9, go_sem, d0, d1, d2, d3, d4, d5, hlt]) rfl ⟨rfl, ?_⟩
      exact ((((((hrel.1.setCell (Nat.le_refl _) _).setCell (Nat.le_refl _) _).setCell (Nat.le_refl _) _).setCell (Nat.le_refl _) _).setCell (Nat.le_refl _) _).setCell (Nat.le_refl _) _).alloc (by simpa using hrel.1.size) _

set_option maxHeartbeats 800000 in
theorem slot_at3 (D : Nat) (id : Int) (b : Bool) (a : Option Addr) (n c : Nat) (m2 m3 : Option Nat) (es2 es3 : List (Int × Value)) (w : World) (hd : Dom w D m2 m3 es2 es3) (h2 : look es2 id = none) (h3 : look es3 id = some (sv b (.slice a n c))) :
    Calls Yba.prog 9 #[.pointer (some ⟨D, 0, none⟩), .int .u16 id] w fun e w' => e = .returned (sv b (.slice a n c)) ∧ Below w.heap.size w w' := by
  have c0 := hd.c0
  have c1 := hd.c1
  have c2 := hd.c2
  have c3 := hd.c3
  have hD := lt_of_cell c0
  simp only at hD
  go_enter Yba.func9, Yba.ntmps9
  go_wp2
  go_loopw [13] (fun i wr => ∃ k : Nat, k ≤ 3 ∧ i = .int .i64 k ∧ SlotRel w wr) (fun i _ => 4 - (intOf i).toNat)
  case atStart => exact ⟨0, by omega, rfl, SlotRel.start w⟩
  case round =>
    obtain ⟨k, hk, rfl, hrel⟩ := hrel
    have q0 := look_run (P := Yba.prog) (w := wr) Yba.underlying30 Yba.underlying27 (v := .map none) (es := []) (.inl ⟨rfl, rfl⟩) (zero41 _) id
    have q2 := look_run (P := Yba.prog) (w := wr) Yba.underlying30 Yba.underlying27 (hd.i2.keep (fun r _ hr => hrel.1.block r hr)) (zero41 _) id
    have q3 := look_run (P := Yba.prog) (w := wr) Yba.underlying30 Yba.underlying27 (hd.i3.keep (fun r _ hr => hrel.1.block r hr)) (zero41 _) id
    rw [h2] at q2
    rw [h3] at q3
    simp only [look, at?, List.findIdx?_nil, Option.getD_none, Option.isSome_none] at q0 q2
    simp only [Option.getD_some, Option.isSome_some] at q3
    have j0 := ix0 m2 m3 wr
    have j1 := ix1 m2 m3 wr
    have j2 := ix2 m2 m3 wr
    have j3 := ix3 m2 m3 wr
    have d0 := hrel.cell 0
    have d1 := hrel.cell 1
    have d2 := hrel.cell 2
    have d3 := hrel.cell 3
    have d4 := hrel.cell 4
    have d5 := hrel.cell 5
    simp only [List.getElem?_toArray, List.getElem?_cons_zero, List.getElem?_cons_succ] at d0 d1 d2 d3 d4 d5
    have z0 := hrel.free
    clear hd c0 c1 c2 c3
    obtain rfl | rfl | rfl | rfl : k = 0 ∨ k = 1 ∨ k = 2 ∨ k = 3 := by omega
    · go_wp2
      go_roundw
      case rel => exact ⟨1, by omega, by go_num, hrel.alloc _⟩
      case measure => simp [intOf]
    · go_wp2
      go_roundw
      case rel => exact ⟨2, by omega, by go_num, hrel.alloc _⟩
      case measure => simp [intOf]
    · go_wp2
      go_roundw
      case rel => exact ⟨3, by omega, by go_num, hrel.alloc _⟩
      case measure => simp [intOf]
    · have hlt := hrel.2.1
      go_wp2
      refine bodyPost_ret (v := sv b (.slice a n c)) (by simp [results, Yba.results9, go_sem, d0, d1, d2, d3, d4, d5, hlt]) rfl ⟨rfl, ?_⟩
      exact ((((((hrel.1.setCell (Nat.le_refl _) _).setCell (Nat.le_refl _) _).setCell (Nat.le_refl _) _).setCell (Nat.le_refl _) _).setCell (Nat.le_refl _) _).setCell (Nat.le_refl _) _).alloc (by simpa using hrel.1.size) _

end Go.Proofs.Ybulkcbmo.D
