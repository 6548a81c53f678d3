/-
  WORLDS FOR THE LAW LawS3931AHold: which blocks a step may turn ('Turn'); a store and a delete. No walk here.
-/
import Derived.WalkKit
import Derived.Deep.AppendLies
import Derived.Below
import Derived.MapKept
import Derived.RegionTactic
import Derived.Deep.RegionLaw
namespace Go.Proofs.YbulkccjsDoor.H
open Go.RowKit

/-- w' is w but for the blocks on the list ex, and for new ones. -/
structure Turn (ex : List Nat) (w w' : World) : Prop where
  os : w'.os = w.os
  tape : w'.tape = w.tape
  output : w'.output = w.output
  size : w.heap.size ≤ w'.heap.size
  block : ∀ k, k < w.heap.size → k ∉ ex → w'.heap[k]? = w.heap[k]?

theorem Turn.refl (ex : List Nat) (w : World) : Turn ex w w := ⟨rfl, rfl, rfl, Nat.le_refl _, fun _ _ _ => rfl⟩
theorem Turn.trans {ex : List Nat} {a b c : World} (h : Turn ex a b) (k : Turn ex b c) : Turn ex a c :=
  ⟨k.os.trans h.os, k.tape.trans h.tape, k.output.trans h.output, Nat.le_trans h.size k.size, fun i hi hn => (k.block i (Nat.lt_of_lt_of_le hi h.size) hn).trans (h.block i hi hn)⟩
theorem Turn.mono {ex ex' : List Nat} {a b : World} (h : Turn ex a b) (hs : ∀ k ∈ ex, k ∈ ex') : Turn ex' a b :=
  ⟨h.os, h.tape, h.output, h.size, fun i hi hn => h.block i hi (fun hm => hn (hs i hm))⟩
/-- What turns on a block that is new to the first world does not show. -/
theorem Turn.fresh {ex ex' : List Nat} {a b c : World} (h : Turn ex a b) (k : Turn ex' b c) (hs : ∀ i ∈ ex', i ∈ ex ∨ a.heap.size ≤ i) : Turn ex a c :=
  ⟨k.os.trans h.os, k.tape.trans h.tape, k.output.trans h.output, Nat.le_trans h.size k.size, fun i hi hn => (k.block i (Nat.lt_of_lt_of_le hi h.size) (fun hm => by
    rcases hs i hm with h1 | h1
    · exact hn h1
    · omega)).trans (h.block i hi hn)⟩
theorem Turn.below {ex : List Nat} {a b : World} (h : Below a.heap.size a b) : Turn ex a b := ⟨h.os, h.tape, h.output, h.size, fun k hk _ => h.block k hk⟩
theorem Turn.drew {ex : List Nat} {a b : World} (h : Turn ex a b) : Turn ex a b.drew := ⟨h.os, h.tape, h.output, h.size, h.block⟩
theorem Turn.alloc {ex : List Nat} {a b : World} (h : Turn ex a b) (o : Obj) : Turn ex a (b.alloc o) :=
  h.trans (Turn.below ((Below.refl _ b).alloc (Nat.le_refl _) o))
theorem Turn.setCell {ex : List Nat} {a b : World} (h : Turn ex a b) {p : Addr} (hp : p.block ∈ ex ∨ a.heap.size ≤ p.block) (u : Value) : Turn ex a (b.setCell p u) :=
  ⟨h.os, h.tape, h.output, by simpa [World.setCell] using h.size, fun k hk hn => by
    rw [Below.heap_setCell b p u k (fun e => by
      rcases hp with h1 | h1
      · exact hn (e ▸ h1)
      · omega)]
    exact h.block k hk hn⟩
theorem Turn.grown {ex : List Nat} {a b c : World} {row : Option Nat} (h : Turn ex a b) (hg : b.grownBy c row) (hr : ∀ k, row = some k → k ∈ ex ∨ a.heap.size ≤ k) : Turn ex a c :=
  ⟨hg.os.trans h.os, hg.tape.trans h.tape, hg.output.trans h.output, Nat.le_trans h.size hg.size, fun k hk hn => (hg.block k (Nat.lt_of_lt_of_le hk h.size) (fun e => by
    rcases hr k e.symm with h1 | h1
    · exact hn h1
    · omega)).trans (h.block k hk hn)⟩
theorem Turn.cell {ex : List Nat} {a b : World} (h : Turn ex a b) {p : Addr} (hp : p.block < a.heap.size) (hn : p.block ∉ ex) : b.cell? p = a.cell? p := World.cell?_of_block (w := a) (h.block p.block hp hn)
theorem Turn.frozen {ex : List Nat} {a b : World} (h : Turn ex a b) {p : Addr} (hp : p.block < a.heap.size) (hn : p.block ∉ ex) : b.frozen? p = a.frozen? p := World.frozen?_of_block (w := a) (h.block p.block hp hn)
theorem Turn.toBelow {ex : List Nat} {a b : World} (h : Turn ex a b) {B : Nat} (hB : ∀ k ∈ ex, B ≤ k) (hs : B ≤ a.heap.size) : Below B a b :=
  ⟨h.os, h.tape, h.output, h.size, fun k hk => h.block k (by omega) (fun hm => by have := hB k hm; omega)⟩

theorem lt_of_cell {w : World} {a : Addr} {v : Value} (h : w.cell? a = some v) : a.block < w.heap.size := by
  simp only [World.cell?] at h
  rcases Nat.lt_or_ge a.block w.heap.size with h' | h'
  · exact h'
  · simp [Array.getElem?_eq_none h'] at h


/-- The block that a slice lies in. -/
def blk (o : Option Addr) : List Nat := (o.map (·.block)).toList

theorem own_turn {W W' : World} {ex : List Nat} {base e size n : Nat} {o : Option Addr} {c : Nat} {xs : List Value} (h : W.ownsRow base e size (.slice o n c) n xs) (ht : Turn ex W W') (hn : ∀ k ∈ blk o, k ∉ ex) : W'.ownsRow base e size (.slice o n c) n xs := by
  obtain ⟨h1, h | ⟨g, cap, cur, h2, h3, h4, h5⟩⟩ := h
  · exact ⟨h1, .inl h⟩
  · refine ⟨h1, .inr ⟨g, cap, cur, h2, h3, ?_, h5⟩⟩
    have hl : g < W.heap.size := (Array.getElem?_eq_some_iff.1 h4).1
    cases h2
    rw [ht.block g hl (hn g (by simp [blk]))]
    exact h4

theorem own_base {W : World} {base e size n c : Nat} {o : Option Addr} {xs : List Value} (h : W.ownsRow base e size (.slice o n c) n xs) : ∀ k ∈ blk o, base ≤ k ∧ k < W.heap.size := by
  obtain ⟨h1, ⟨h, _⟩ | ⟨g, cap, cur, h2, h3, h4, h5⟩⟩ := h
  · cases h; simp [blk]
  · cases h2
    intro k hk
    have : k = g := by simpa [blk] using hk
    subst this
    exact ⟨h3, (Array.getElem?_eq_some_iff.1 h4).1⟩

theorem own_some {W : World} {base e n c : Nat} {o : Option Addr} {xs : List Value} (h : W.ownsRow base e 1 (.slice o n c) n xs) (h0 : 0 < n) : ∃ g, o = some ⟨g, 0, none⟩ := by
  obtain ⟨h1, ⟨_, h⟩ | ⟨g, cap, cur, h2, h3, h4, h5⟩⟩ := h
  · omega
  · cases h2; exact ⟨g, rfl⟩

end Go.Proofs.YbulkccjsDoor.H
