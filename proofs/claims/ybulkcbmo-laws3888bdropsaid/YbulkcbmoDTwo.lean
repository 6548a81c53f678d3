import Derived.Test.YbulkcbmoDSlot
import Derived.WalkKit
import Derived.WalkSpells
import Derived.WalkLawsBesides
import Derived.Deep.RegionHeld3
import Derived.Deep.RegionWith
import Derived.Deep.DrawnRows
namespace Go.Proofs.Ybulkcbmo.D
open Go.RowKit
set_option linter.unusedSimpArgs false
set_option linter.unusedVariables false

theorem Dom.turn {w w' : World} {ex : List Nat} {D : Nat} {m2 m3 : Option Nat} {es2 es3 : List (Int × Value)} (h : Dom w D m2 m3 es2 es3) (ht : Turn ex w w') (hD : D ∉ ex) (h2 : ∀ r, m2 = some r → r ∉ ex) (h3 : ∀ r, m3 = some r → r ∉ ex) : Dom w' D m2 m3 es2 es3 := by
  have hl : D < w.heap.size := lt_of_cell h.c0
  exact ⟨(ht.cell hl hD).trans h.c0, (ht.cell hl hD).trans h.c1, (ht.cell hl hD).trans h.c2, (ht.cell hl hD).trans h.c3,
    h.i2.keep (fun r e hr => ht.block r hr (h2 r (by cases e; rfl))), h.i3.keep (fun r e hr => ht.block r hr (h3 r (by cases e; rfl))), (ht.frozen hl hD).trans h.z2, (ht.frozen hl hD).trans h.z3⟩
theorem Dom.below {w w' : World} {D : Nat} {m2 m3 : Option Nat} {es2 es3 : List (Int × Value)} (h : Dom w D m2 m3 es2 es3) (ht : Below w.heap.size w w') : Dom w' D m2 m3 es2 es3 :=
  h.turn (ex := []) (Turn.below ht) (by simp) (by simp) (by simp)

/-- Two variables of type templateSlot, at A and B. -/
structure Two (W : World) (A B : Nat) (ba : Bool) (ha : Value) (bb : Bool) (hb : Value) : Prop where
  a0 : W.cell? ⟨A, 0, none⟩ = some (.pointer none)
  a1 : W.cell? ⟨A, 1, none⟩ = some (.int .u64 0)
  a2 : W.cell? ⟨A, 2, none⟩ = some (.int .i64 0)
  a3 : W.cell? ⟨A, 3, none⟩ = some (.pointer none)
  a4 : W.cell? ⟨A, 4, none⟩ = some (.bool ba)
  a5 : W.cell? ⟨A, 5, none⟩ = some ha
  b0 : W.cell? ⟨B, 0, none⟩ = some (.pointer none)
  b1 : W.cell? ⟨B, 1, none⟩ = some (.int .u64 0)
  b2 : W.cell? ⟨B, 2, none⟩ = some (.int .i64 0)
  b3 : W.cell? ⟨B, 3, none⟩ = some (.pointer none)
  b4 : W.cell? ⟨B, 4, none⟩ = some (.bool bb)
  b5 : W.cell? ⟨B, 5, none⟩ = some hb
theorem Two.turn {W W' : World} {ex : List Nat} {A B : Nat} {ba bb : Bool} {ha hb : Value} (h : Two W A B ba ha bb hb) (ht : Turn ex W W') (hA : A ∉ ex) (hB : B ∉ ex) : Two W' A B ba ha bb hb := by
  have la : A < W.heap.size := lt_of_cell h.a0
  have lb : B < W.heap.size := lt_of_cell h.b0
  exact ⟨(ht.cell la hA).trans h.a0, (ht.cell la hA).trans h.a1, (ht.cell la hA).trans h.a2, (ht.cell la hA).trans h.a3, (ht.cell la hA).trans h.a4, (ht.cell la hA).trans h.a5,
    (ht.cell lb hB).trans h.b0, (ht.cell lb hB).trans h.b1, (ht.cell lb hB).trans h.b2, (ht.cell lb hB).trans h.b3, (ht.cell lb hB).trans h.b4, (ht.cell lb hB).trans h.b5⟩
theorem Two.below {W W' : World} {A B : Nat} {ba bb : Bool} {ha hb : Value} (h : Two W A B ba ha bb hb) (ht : Below W.heap.size W W') : Two W' A B ba ha bb hb := h.turn (ex := []) (Turn.below ht) (by simp) (by simp)
theorem Two.belowD {W W' : World} {A B : Nat} {ba bb : Bool} {ha hb : Value} (h : Two W A B ba ha bb hb) (ht : Below W.drew.heap.size W.drew W') : Two W' A B ba ha bb hb :=
  Two.below (W := W.drew) ⟨h.a0, h.a1, h.a2, h.a3, h.a4, h.a5, h.b0, h.b1, h.b2, h.b3, h.b4, h.b5⟩ ht
theorem hbel {B : Nat} {w W W' : World} (h : Hid (Below B w W)) (hb : Below W.heap.size W W') (hs : B ≤ W.heap.size) : Hid (Below B w W') := h.out.trans (hb.mono hs)
theorem hbelD {B : Nat} {w W W' : World} (h : Hid (Below B w W)) (hb : Below W.drew.heap.size W.drew W') (hs : B ≤ W.heap.size) : Hid (Below B w W') := h.out.trans (Below.mono (w := W) ⟨hb.os, hb.tape, hb.output, hb.size, hb.block⟩ hs)
theorem Two.conj {w' : World} {A B : Nat} {ba bb : Bool} {ha hb : Value} (h : Two w' A B ba ha bb hb) : w'.cell? ⟨A, 0, none⟩ = some (.pointer none) ∧ w'.cell? ⟨A, 1, none⟩ = some (.int .u64 0) ∧ w'.cell? ⟨A, 2, none⟩ = some (.int .i64 0) ∧ w'.cell? ⟨A, 3, none⟩ = some (.pointer none) ∧ w'.cell? ⟨A, 4, none⟩ = some (.bool ba) ∧ w'.cell? ⟨A, 5, none⟩ = some (ha) ∧ w'.cell? ⟨B, 0, none⟩ = some (.pointer none) ∧ w'.cell? ⟨B, 1, none⟩ = some (.int .u64 0) ∧ w'.cell? ⟨B, 2, none⟩ = some (.int .i64 0) ∧ w'.cell? ⟨B, 3, none⟩ = some (.pointer none) ∧ w'.cell? ⟨B, 4, none⟩ = some (.bool bb) ∧ w'.cell? ⟨B, 5, none⟩ = some (hb) :=
  ⟨h.a0, h.a1, h.a2, h.a3, h.a4, h.a5, h.b0, h.b1, h.b2, h.b3, h.b4, h.b5⟩
theorem Two.start {w w1 : World} {ba bb : Bool} {ha hb : Value} (hb1 : Below (w.alloc (.cells #[.pointer none, .int .u64 0, .int .i64 0, .pointer none, .bool ba, ha] 41)).heap.size (w.alloc (.cells #[.pointer none, .int .u64 0, .int .i64 0, .pointer none, .bool ba, ha] 41)) w1) :
    Two (w1.alloc (.cells #[.pointer none, .int .u64 0, .int .i64 0, .pointer none, .bool bb, hb] 41)) w.heap.size w1.heap.size ba ha bb hb := by
  have hl : w.heap.size < (w.alloc (.cells #[.pointer none, .int .u64 0, .int .i64 0, .pointer none, .bool ba, ha] 41)).heap.size := by simp
  have hk : ∀ j, (w1.alloc (.cells #[.pointer none, .int .u64 0, .int .i64 0, .pointer none, .bool bb, hb] 41)).cell? ⟨w.heap.size, j, none⟩ = (#[.pointer none, .int .u64 0, .int .i64 0, .pointer none, .bool ba, ha] : Array Value)[j]? := fun j => by
    rw [World.cell?_alloc_past _ _ _ (Nat.lt_of_lt_of_le hl hb1.size), hb1.cell (p := ⟨w.heap.size, j, none⟩) hl, World.cell?_alloc_new]
  exact ⟨hk 0, hk 1, hk 2, hk 3, hk 4, hk 5, World.cell?_alloc_new _ _ _ _, World.cell?_alloc_new _ _ _ _, World.cell?_alloc_new _ _ _ _, World.cell?_alloc_new _ _ _ _, World.cell?_alloc_new _ _ _ _, World.cell?_alloc_new _ _ _ _⟩


theorem ne_map {W : World} {r : Nat} {es : List (Int × Value)} {a : Addr} {v : Value} (hm : MapIs W (.map (some r)) es) (hc : W.cell? a = some v) : a.block ≠ r := by
  rcases hm with ⟨h, _⟩ | ⟨r', arr, c, h, hb, _⟩
  · cases h
  · cases h
    intro e
    simp [World.cell?, e, hb] at hc

/-- Which old blocks (*domain).setSlot may turn. -/
def exs (D : Nat) (m2 m3 : Option Nat) : List Nat := D :: (m2.toList ++ m3.toList)

theorem notin_exs {W : World} {D : Nat} {m2 m3 : Option Nat} {es2 es3 : List (Int × Value)} {a : Addr} {v : Value} (h : Dom W D m2 m3 es2 es3) (hc : W.cell? a = some v) (hD : a.block ≠ D) : a.block ∉ exs D m2 m3 := by
  intro hm
  rcases List.mem_cons.1 hm with e | hm
  · exact hD e
  · rcases List.mem_append.1 hm with hm | hm
    · cases m2 with
      | none => simp at hm
      | some r => exact ne_map h.i2 hc (by simpa using hm)
    · cases m3 with
      | none => simp at hm
      | some r => exact ne_map h.i3 hc (by simpa using hm)

/-- Where a walk of (*domain).setSlot stands: its two variables, the domain, what has turned. -/
structure St (ex : List Nat) (w W : World) (D A B : Nat) (m2 m3 : Option Nat) (es2 es3 : List (Int × Value)) (ba : Bool) (ha : Value) (bb : Bool) (hb : Value) : Prop where
  two : Two W A B ba ha bb hb
  dom : Dom W D m2 m3 es2 es3
  turn : Turn ex w W
  nA : A ≠ D
  nB : B ≠ D

section
variable {ex : List Nat} {w W V W' : World} {D A B : Nat} {m2 m3 : Option Nat} {es2 es3 : List (Int × Value)} {ba : Bool} {ha : Value} {bb : Bool} {hb : Value}
theorem St.drew (h : St ex w W D A B m2 m3 es2 es3 ba ha bb hb) : St ex w W.drew D A B m2 m3 es2 es3 ba ha bb hb :=
  ⟨⟨h.two.a0, h.two.a1, h.two.a2, h.two.a3, h.two.a4, h.two.a5, h.two.b0, h.two.b1, h.two.b2, h.two.b3, h.two.b4, h.two.b5⟩, ⟨h.dom.c0, h.dom.c1, h.dom.c2, h.dom.c3, h.dom.i2, h.dom.i3, h.dom.z2, h.dom.z3⟩, h.turn.drew, h.nA, h.nB⟩
theorem St.next (h : St ex w W D A B m2 m3 es2 es3 ba ha bb hb) (hbel : Below V.heap.size V W') (hv : V = W ∨ V = W.drew := by first | exact Or.inl rfl | exact Or.inr rfl) : St ex w W' D A B m2 m3 es2 es3 ba ha bb hb := by
  rcases hv with rfl | rfl
  · exact ⟨h.two.below hbel, h.dom.below hbel, h.turn.trans (Turn.below hbel), h.nA, h.nB⟩
  · exact ⟨h.two.belowD hbel, h.drew.dom.below hbel, h.turn.drew.trans (Turn.below hbel), h.nA, h.nB⟩
theorem St.conj {w' : World} (h : St ex w w' D A B m2 m3 es2 es3 ba ha bb hb) : w'.cell? ⟨A, 0, none⟩ = some (.pointer none) ∧ w'.cell? ⟨A, 1, none⟩ = some (.int .u64 0) ∧ w'.cell? ⟨A, 2, none⟩ = some (.int .i64 0) ∧ w'.cell? ⟨A, 3, none⟩ = some (.pointer none) ∧ w'.cell? ⟨A, 4, none⟩ = some (.bool ba) ∧ w'.cell? ⟨A, 5, none⟩ = some (ha) ∧ w'.cell? ⟨B, 0, none⟩ = some (.pointer none) ∧ w'.cell? ⟨B, 1, none⟩ = some (.int .u64 0) ∧ w'.cell? ⟨B, 2, none⟩ = some (.int .i64 0) ∧ w'.cell? ⟨B, 3, none⟩ = some (.pointer none) ∧ w'.cell? ⟨B, 4, none⟩ = some (.bool bb) ∧ w'.cell? ⟨B, 5, none⟩ = some (hb) ∧ w'.cell? ⟨D, 2, none⟩ = some (.map m2) ∧ w'.cell? ⟨D, 3, none⟩ = some (.map m3) :=
  ⟨h.two.a0, h.two.a1, h.two.a2, h.two.a3, h.two.a4, h.two.a5, h.two.b0, h.two.b1, h.two.b2, h.two.b3, h.two.b4, h.two.b5, h.dom.c2, h.dom.c3⟩
theorem St.conj2 {w' : World} (h : St ex w w' D A B m2 m3 es2 es3 ba ha bb hb) : w'.cell? ⟨A, 0, none⟩ = some (.pointer none) ∧ w'.cell? ⟨A, 1, none⟩ = some (.int .u64 0) ∧ w'.cell? ⟨A, 2, none⟩ = some (.int .i64 0) ∧ w'.cell? ⟨A, 3, none⟩ = some (.pointer none) ∧ w'.cell? ⟨A, 4, none⟩ = some (.bool ba) ∧ w'.cell? ⟨A, 5, none⟩ = some (ha) ∧ w'.cell? ⟨B, 0, none⟩ = some (.pointer none) ∧ w'.cell? ⟨B, 1, none⟩ = some (.int .u64 0) ∧ w'.cell? ⟨B, 2, none⟩ = some (.int .i64 0) ∧ w'.cell? ⟨B, 3, none⟩ = some (.pointer none) ∧ w'.cell? ⟨B, 4, none⟩ = some (.bool bb) ∧ w'.cell? ⟨B, 5, none⟩ = some (hb) ∧ w'.cell? ⟨D, 2, none⟩ = some (.map m2) :=
  ⟨h.two.a0, h.two.a1, h.two.a2, h.two.a3, h.two.a4, h.two.a5, h.two.b0, h.two.b1, h.two.b2, h.two.b3, h.two.b4, h.two.b5, h.dom.c2⟩

/-- Behind a delete from the third map. -/
theorem St.del2 {r : Nat} {es : List (Int × Value)} (h : St ex w W D A B (some r) m3 es2 es3 ba ha bb hb) (ht : Turn [r] W W') (hm : MapIs W' (.map (some r)) es) (hr : r ∈ ex) (h3 : ∀ q, m3 = some q → q ≠ r) : St ex w W' D A B (some r) m3 es es3 ba ha bb hb := by
  have nD : D ≠ r := ne_map h.dom.i2 h.dom.c0
  have nA : A ≠ r := ne_map h.dom.i2 h.two.a0
  have nB : B ≠ r := ne_map h.dom.i2 h.two.b0
  have hl : D < W.heap.size := lt_of_cell h.dom.c0
  refine ⟨h.two.turn ht (by simpa using nA) (by simpa using nB), ⟨(ht.cell hl (by simpa using nD)).trans h.dom.c0, (ht.cell hl (by simpa using nD)).trans h.dom.c1, (ht.cell hl (by simpa using nD)).trans h.dom.c2, (ht.cell hl (by simpa using nD)).trans h.dom.c3, hm,
    h.dom.i3.keep (fun q e hq => ht.block q hq (by cases e; simpa using h3 q rfl)), (ht.frozen hl (by simpa using nD)).trans h.dom.z2, (ht.frozen hl (by simpa using nD)).trans h.dom.z3⟩, h.turn.fresh ht (by simpa using Or.inl hr), h.nA, h.nB⟩
/-- Behind a delete from, or a store into, the fourth map. -/
theorem St.del3 {r : Nat} {es : List (Int × Value)} (h : St ex w W D A B m2 (some r) es2 es3 ba ha bb hb) (ht : Turn [r] W W') (hm : MapIs W' (.map (some r)) es) (hr : r ∈ ex ∨ w.heap.size ≤ r) (h2 : ∀ q, m2 = some q → q ≠ r) : St ex w W' D A B m2 (some r) es2 es ba ha bb hb := by
  have nD : D ≠ r := ne_map h.dom.i3 h.dom.c0
  have nA : A ≠ r := ne_map h.dom.i3 h.two.a0
  have nB : B ≠ r := ne_map h.dom.i3 h.two.b0
  have hl : D < W.heap.size := lt_of_cell h.dom.c0
  refine ⟨h.two.turn ht (by simpa using nA) (by simpa using nB), ⟨(ht.cell hl (by simpa using nD)).trans h.dom.c0, (ht.cell hl (by simpa using nD)).trans h.dom.c1, (ht.cell hl (by simpa using nD)).trans h.dom.c2, (ht.cell hl (by simpa using nD)).trans h.dom.c3,
    h.dom.i2.keep (fun q e hq => ht.block q hq (by cases e; simpa using h2 q rfl)), hm, (ht.frozen hl (by simpa using nD)).trans h.dom.z2, (ht.frozen hl (by simpa using nD)).trans h.dom.z3⟩, h.turn.fresh ht (by simpa using hr), h.nA, h.nB⟩
theorem St.alloc (h : St ex w W D A B m2 m3 es2 es3 ba ha bb hb) (o : Obj) : St ex w (W.alloc o) D A B m2 m3 es2 es3 ba ha bb hb := h.next ((Below.refl _ _).alloc (Nat.le_refl _) o)
/-- Behind the store of a new map into the fourth place. -/
theorem St.hang {r : Nat} (h : St ex w W D A B m2 none es2 [] ba ha bb hb) (hm : MapIs W (.map (some r)) []) (hD : D ∈ ex) : St ex w (W.setCell ⟨D, 3, none⟩ (.map (some r))) D A B m2 (some r) es2 [] ba ha bb hb := by
  have nD : D ≠ r := ne_map hm h.dom.c0
  have hl : D < W.heap.size := lt_of_cell h.dom.c0
  have hblk : ∀ k, k ≠ D → (W.setCell ⟨D, 3, none⟩ (.map (some r))).heap[k]? = W.heap[k]? := fun k hk => Below.heap_setCell W ⟨D, 3, none⟩ _ k hk
  have tt : Turn [D] W (W.setCell ⟨D, 3, none⟩ (.map (some r))) := (Turn.refl [D] W).setCell (by simp) _
  refine ⟨h.two.turn tt (by simpa using h.nA) (by simpa using h.nB), ⟨?_, ?_, ?_, ?_, ?_, ?_, ?_, ?_⟩, h.turn.fresh tt (by simpa using Or.inl hD), h.nA, h.nB⟩
  · rw [World.cell?_setCell_other _ _ _ _ (by simp)]; exact h.dom.c0
  · rw [World.cell?_setCell_other _ _ _ _ (by simp)]; exact h.dom.c1
  · rw [World.cell?_setCell_other _ _ _ _ (by simp)]; exact h.dom.c2
  · exact World.cell?_setCell_same _ _ _ h.dom.c3
  · exact h.dom.i2.keep (fun q e hq => by
      cases e
      exact hblk q (Ne.symm (ne_map h.dom.i2 h.dom.c0)))
  · exact hm.keep (fun q e hq => by
      cases e
      exact hblk _ (Ne.symm nD))
  · rw [World.frozen?_setCell]; exact h.dom.z2
  · rw [World.frozen?_setCell]; exact h.dom.z3
end
end Go.Proofs.Ybulkcbmo.D
