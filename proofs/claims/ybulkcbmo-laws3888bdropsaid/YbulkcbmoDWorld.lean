/-
  WORLDS AND MAPS FOR THE LAW LawS3888BDrop: which blocks a step may turn ('Turn'), and what a map keyed by uint16 holds ('MapIs'), with the run of a look-up, a store and a delete. No walk here.
-/
import Derived.WalkKit
import Derived.Below
import Derived.MapKept
import Derived.RegionTactic
import Derived.Deep.RegionLaw
namespace Go.Proofs.Ybulkcbmo.D
open Go.RowKit

/-- w' is w but for the blocks on the list ex, and for new ones. -/
structure Turn (ex : List Nat) (w w' : World) : Prop where
  os : w'.os = w.os
  tape : w'.tape = w.tape
  output : w'.output = w.output
  size : w.heap.size ≤ w'.heap.size
  block : ∀ k, k < w.heap.size → k ∉ ex → w'.heap[k]? = w.heap[k]?

theorem Turn.refl (ex : List Nat) (w : World) : Turn ex w w := ⟨rfl, rfl, rfl, Nat.le_refl _, fun _ _ _ => rfl⟩
theorem Turn.trans {ex : List Nat} {a b c : World} (h : Turn ex a b) (k : Turn ex b c) : Turn ex a c :=
  ⟨k.os.trans h.os, k.tape.trans h.tape, k.output.trans h.output, Nat.le_trans h.size k.size, fun i hi hn => (k.block i (Nat.lt_of_lt_of_le hi h.size) hn).trans (h.block i hi hn)⟩
theorem Turn.mono {ex ex' : List Nat} {a b : World} (h : Turn ex a b) (hs : ∀ k ∈ ex, k ∈ ex') : Turn ex' a b :=
  ⟨h.os, h.tape, h.output, h.size, fun i hi hn => h.block i hi (fun hm => hn (hs i hm))⟩
/-- What turns on a block that is new to the first world does not show. -/
theorem Turn.fresh {ex ex' : List Nat} {a b c : World} (h : Turn ex a b) (k : Turn ex' b c) (hs : ∀ i ∈ ex', i ∈ ex ∨ a.heap.size ≤ i) : Turn ex a c :=
  ⟨k.os.trans h.os, k.tape.trans h.tape, k.output.trans h.output, Nat.le_trans h.size k.size, fun i hi hn => (k.block i (Nat.lt_of_lt_of_le hi h.size) (fun hm => by
    rcases hs i hm with h1 | h1
    · exact hn h1
    · omega)).trans (h.block i hi hn)⟩
theorem Turn.below {ex : List Nat} {a b : World} (h : Below a.heap.size a b) : Turn ex a b := ⟨h.os, h.tape, h.output, h.size, fun k hk _ => h.block k hk⟩
theorem Turn.drew {ex : List Nat} {a b : World} (h : Turn ex a b) : Turn ex a b.drew := ⟨h.os, h.tape, h.output, h.size, h.block⟩
theorem Turn.alloc {ex : List Nat} {a b : World} (h : Turn ex a b) (o : Obj) : Turn ex a (b.alloc o) :=
  h.trans (Turn.below ((Below.refl _ b).alloc (Nat.le_refl _) o))
theorem Turn.setCell {ex : List Nat} {a b : World} (h : Turn ex a b) {p : Addr} (hp : p.block ∈ ex ∨ a.heap.size ≤ p.block) (u : Value) : Turn ex a (b.setCell p u) :=
  ⟨h.os, h.tape, h.output, by simpa [World.setCell] using h.size, fun k hk hn => by
    rw [Below.heap_setCell b p u k (fun e => by
      rcases hp with h1 | h1
      · exact hn (e ▸ h1)
      · omega)]
    exact h.block k hk hn⟩
theorem Turn.grown {ex : List Nat} {a b c : World} {row : Option Nat} (h : Turn ex a b) (hg : b.grownBy c row) (hr : ∀ k, row = some k → k ∈ ex ∨ a.heap.size ≤ k) : Turn ex a c :=
  ⟨hg.os.trans h.os, hg.tape.trans h.tape, hg.output.trans h.output, Nat.le_trans h.size hg.size, fun k hk hn => (hg.block k (Nat.lt_of_lt_of_le hk h.size) (fun e => by
    rcases hr k e.symm with h1 | h1
    · exact hn h1
    · omega)).trans (h.block k hk hn)⟩
theorem Turn.cell {ex : List Nat} {a b : World} (h : Turn ex a b) {p : Addr} (hp : p.block < a.heap.size) (hn : p.block ∉ ex) : b.cell? p = a.cell? p := World.cell?_of_block (w := a) (h.block p.block hp hn)
theorem Turn.frozen {ex : List Nat} {a b : World} (h : Turn ex a b) {p : Addr} (hp : p.block < a.heap.size) (hn : p.block ∉ ex) : b.frozen? p = a.frozen? p := World.frozen?_of_block (w := a) (h.block p.block hp hn)
theorem Turn.toBelow {ex : List Nat} {a b : World} (h : Turn ex a b) {B : Nat} (hB : ∀ k ∈ ex, B ≤ k) (hs : B ≤ a.heap.size) : Below B a b :=
  ⟨h.os, h.tape, h.output, h.size, fun k hk => h.block k (by omega) (fun hm => by have := hB k hm; omega)⟩

theorem lt_of_cell {w : World} {a : Addr} {v : Value} (h : w.cell? a = some v) : a.block < w.heap.size := by
  simp only [World.cell?] at h
  rcases Nat.lt_or_ge a.block w.heap.size with h' | h'
  · exact h'
  · simp [Array.getElem?_eq_none h'] at h

/-! ### Maps keyed by uint16 -/

/-- The place of a key on a list of entries. -/
def at? (es : List (Int × Value)) (k : Int) : Option Nat := es.findIdx? (fun p => p.1 == k)
def look (es : List (Int × Value)) (k : Int) : Option Value := match at? es k with
  | some j => es[j]?.map (·.2)
  | none => none
def del (es : List (Int × Value)) (k : Int) : List (Int × Value) := match at? es k with
  | some j => es.eraseIdx j
  | none => es
def put (es : List (Int × Value)) (k : Int) (v : Value) : List (Int × Value) := match at? es k with
  | some j => es.set j (k, v)
  | none => es ++ [(k, v)]

/-- The entries of a map's block, as pairs. -/
def Ents (arr : Array MapEntry) (es : List (Int × Value)) : Prop := arr.toList.map (fun e => (e.key, e.val)) = es.map (fun p => (Value.int .u16 p.1, p.2))

/-- v is a map that holds just es (nil, or a block of its own). -/
def MapIs (w : World) (v : Value) (es : List (Int × Value)) : Prop :=
  (v = .map none ∧ es = []) ∨ ∃ r arr c, v = .map (some r) ∧ w.heap[r]? = some (.map arr c) ∧ Ents arr es

theorem find_none (id : Int) : ∀ (l : List MapEntry) (es : List (Int × Value)) (i : Nat), l.map (fun e => (e.key, e.val)) = es.map (fun p => (Value.int .u16 p.1, p.2)) → at? es id = none →
    Instr.findNow (.int .u16) (.int .u16 id) l i = some none
  | [], _, _, _, _ => rfl
  | e :: l, [], _, h, _ => by simp at h
  | e :: l, p :: es, i, h, hn => by
    simp only [List.map_cons, List.cons.injEq, Prod.mk.injEq] at h
    obtain ⟨⟨h1, h2⟩, h3⟩ := h
    have hp : (p.1 == id) = false := by
      cases hq : p.1 == id with
      | false => rfl
      | true => simp [at?, List.findIdx?_cons, hq] at hn
    have hq : (id == p.1) = false := by rw [beq_eq_false_iff_ne] at hp ⊢; exact Ne.symm hp
    have hr : at? es id = none := by simpa [at?, List.findIdx?_cons, hp] using hn
    simp [Instr.findNow, h1, Instr.sameNow, hq, find_none id l es (i + 1) h3 hr]

theorem find_some (id : Int) : ∀ (l : List MapEntry) (es : List (Int × Value)) (i j : Nat), l.map (fun e => (e.key, e.val)) = es.map (fun p => (Value.int .u16 p.1, p.2)) → at? es id = some j →
    ∃ v, es[j]? = some (id, v) ∧ Instr.findNow (.int .u16) (.int .u16 id) l i = some (some (i + j, v))
  | [], es, _, _, h, hj => by
    have : es = [] := by simpa using h.symm
    subst this; simp [at?] at hj
  | e :: l, [], _, _, h, _ => by simp at h
  | e :: l, p :: es, i, j, h, hj => by
    simp only [List.map_cons, List.cons.injEq, Prod.mk.injEq] at h
    obtain ⟨⟨h1, h2⟩, h3⟩ := h
    cases hq : p.1 == id with
    | true =>
      have hj0 : j = 0 := by simpa [at?, List.findIdx?_cons, hq] using hj.symm
      subst hj0
      have he : p.1 = id := by simpa using hq
      exact ⟨p.2, by simp [← he], by simp [Instr.findNow, h1, Instr.sameNow, he, h2]⟩
    | false =>
      have hq' : (id == p.1) = false := by rw [beq_eq_false_iff_ne] at hq ⊢; exact Ne.symm hq
      obtain ⟨j', hj', rfl⟩ : ∃ j', at? es id = some j' ∧ j = j' + 1 := by
        simp only [at?, List.findIdx?_cons, hq] at hj
        obtain ⟨j', h1, h2⟩ := Option.map_eq_some_iff.1 hj
        exact ⟨j', h1, h2.symm⟩
      obtain ⟨v, hv, hf⟩ := find_some id l es (i + 1) j' h3 hj'
      exact ⟨v, by simpa using hv, by simp [Instr.findNow, h1, Instr.sameNow, hq', hf]; omega⟩

theorem map_erase {α β : Type} (f : α → β) : ∀ (l : List α) (i : Nat), (l.map f).eraseIdx i = (l.eraseIdx i).map f
  | [], _ => by simp
  | a :: l, 0 => by simp
  | a :: l, i + 1 => by simp [map_erase f l i]

section
variable {P : Program} {w : World} {T K E : TypeId}

theorem look_run (hT : P.underlying T = some (.map K E)) (hK : P.underlying K = some (.int .u16)) {v : Value} {es : List (Int × Value)} (h : MapIs w v es) {z : Value} (hz : (zeroValue E).run P w = .ok z w) (id : Int) :
    (Instr.lookup T v (.int .u16 id) true).run P w = .ok (.tuple #[(look es id).getD z, .bool (look es id).isSome]) w := by
  have hc : ∀ b, (Instr.checkKey b 10000 K (.int .u16 id)).run P w = .ok () w := fun b => MapKept.run_checkKey (k := .int .u16 id) hK (by simp [MapKept.IsKey]) b 9999
  rcases h with ⟨rfl, rfl⟩ | ⟨r, arr, c, rfl, hb, he⟩
  · have hf : Instr.findNow (.int .u16) (.int .u16 id) ([] : List MapEntry) 0 = some none := rfl
    simp [Instr.lookup, run_underlying hT, hc, MapKept.run_findKey hK hf, hz, Result.andThen, look, at?]
  · cases hq : at? es id with
    | none =>
      have hf := find_none id arr.toList es 0 he hq
      simp [Instr.lookup, run_underlying hT, hc, MapKept.run_getObj_map hb, MapKept.run_findKey hK hf, hz, Result.andThen, look, hq]
    | some j =>
      obtain ⟨u, hu, hf⟩ := find_some id arr.toList es 0 j he hq
      simp [Instr.lookup, run_underlying hT, hc, MapKept.run_getObj_map hb, MapKept.run_findKey hK hf, Result.andThen, look, hq, hu]

/-- A block that is a map has no cells, before and after. -/
theorem del_run (hT : P.underlying T = some (.map K E)) (hK : P.underlying K = some (.int .u16)) {r : Nat} {es : List (Int × Value)} (h : MapIs w (.map (some r)) es) (id : Int) (ty : TypeId) :
    ∃ w', (Builtin.delete_ #[T, K] ty #[.map (some r), .int .u16 id]).run P w = .ok (.tuple #[]) w' ∧ MapIs w' (.map (some r)) (del es id) ∧ Turn [r] w w' := by
  have hc : ∀ b, (Instr.checkKey b 10000 K (.int .u16 id)).run P w = .ok () w := fun b => MapKept.run_checkKey (k := .int .u16 id) hK (by simp [MapKept.IsKey]) b 9999
  rcases h with ⟨h, _⟩ | ⟨r', arr, c, h, hb, he⟩
  · cases h
  · cases h
    have hturn : ∀ o, Turn [r] w { w with heap := w.heap.setIfInBounds r o } := fun o => ⟨rfl, rfl, rfl, by simp, fun k _ hn => by
      simp at hn
      exact (MapKept.heap_set hb).2 k hn⟩
    cases hq : at? es id with
    | none =>
      have hf := find_none id arr.toList es 0 he hq
      refine ⟨{ w with heap := w.heap.setIfInBounds r (.map arr c) }, ?_, .inr ⟨r, arr, c, rfl, (MapKept.heap_set hb).1, by simpa [del, hq] using he⟩, hturn _⟩
      simp [Builtin.delete_, run_underlying hT, hc, MapKept.run_getObj_map hb, MapKept.run_findKey hK hf, MapKept.run_setObj_map _ hb, Result.andThen]
    | some j =>
      obtain ⟨u, hu, hf⟩ := find_some id arr.toList es 0 j he hq
      refine ⟨{ w with heap := w.heap.setIfInBounds r (.map (arr.eraseIdxIfInBounds j) c) }, ?_, .inr ⟨r, arr.eraseIdxIfInBounds j, c, rfl, (MapKept.heap_set hb).1, ?_⟩, hturn _⟩
      · simp [Builtin.delete_, run_underlying hT, hc, MapKept.run_getObj_map hb, MapKept.run_findKey hK hf, MapKept.run_setObj_map _ hb, Result.andThen]
      · have hl : arr.size = es.length := by simpa using congrArg List.length he
        have hjl : j < arr.size := by
          have := (List.getElem?_eq_some_iff.1 hu).1
          omega
        unfold Ents at he ⊢
        simp only [Array.eraseIdxIfInBounds, hjl, dite_true, Array.toList_eraseIdx, del, hq]
        rw [← map_erase, ← map_erase, he]

theorem put_run (hT : P.underlying T = some (.map K E)) (hK : P.underlying K = some (.int .u16)) {r : Nat} {es : List (Int × Value)} (h : MapIs w (.map (some r)) es) (id : Int) (val : Value) :
    ∃ w', (Instr.mapUpdate T (.map (some r)) (.int .u16 id) val).run P w = .ok () w' ∧ MapIs w' (.map (some r)) (put es id val) ∧ Turn [r] w w' := by
  have hc : ∀ b, (Instr.checkKey b 10000 K (.int .u16 id)).run P w = .ok () w := fun b => MapKept.run_checkKey (k := .int .u16 id) hK (by simp [MapKept.IsKey]) b 9999
  rcases h with ⟨h, _⟩ | ⟨r', arr, c, h, hb, he⟩
  · cases h
  · cases h
    have hturn : ∀ o, Turn [r] w { w with heap := w.heap.setIfInBounds r o } := fun o => ⟨rfl, rfl, rfl, by simp, fun k _ hn => by
      simp at hn
      exact (MapKept.heap_set hb).2 k hn⟩
    have hl : arr.size = es.length := by simpa using congrArg List.length he
    cases hq : at? es id with
    | none =>
      have hf := find_none id arr.toList es 0 he hq
      refine ⟨{ w with heap := w.heap.setIfInBounds r (.map (arr.push { key := .int .u16 id, val := val, born := c }) (c + 1)) }, ?_, .inr ⟨r, _, _, rfl, (MapKept.heap_set hb).1, ?_⟩, hturn _⟩
      · simp [Instr.mapUpdate, run_underlying hT, hc, MapKept.run_getObj_map hb, MapKept.run_findKey hK hf, MapKept.run_setObj_map _ hb, Result.andThen]
      · unfold Ents at he ⊢
        simp [put, hq, he]
    | some j =>
      obtain ⟨u, hu, hf⟩ := find_some id arr.toList es 0 j he hq
      have hjl : j < arr.size := by
        have := (List.getElem?_eq_some_iff.1 hu).1
        omega
      have hkey : arr[j].key = .int .u16 id := by
        have h1 : (arr.toList.map (fun e => (e.key, e.val)))[j]? = (es.map (fun p => (Value.int .u16 p.1, p.2)))[j]? := by rw [he]
        simp only [List.getElem?_map, hu, Option.map_some, Array.getElem?_toList, Array.getElem?_eq_getElem hjl, Option.some.injEq, Prod.mk.injEq] at h1
        exact h1.1
      refine ⟨{ w with heap := w.heap.setIfInBounds r (.map (arr.modify j fun e => { e with key := .int .u16 id, val := val }) c) }, ?_, .inr ⟨r, _, _, rfl, (MapKept.heap_set hb).1, ?_⟩, hturn _⟩
      · have hs : (Instr.keyThatStays (((arr[j]?).map (·.key)).getD (.int .u16 id)) (.int .u16 id)).run P w = .ok (.int .u16 id) w := by
          simp [Array.getElem?_eq_getElem hjl, hkey, Instr.keyThatStays, Instr.sameBits]
        simp only [Array.getElem?_eq_getElem hjl, Option.map_some, Option.getD_some] at hs
        simp [Instr.mapUpdate, run_underlying hT, hc, MapKept.run_getObj_map hb, MapKept.run_findKey hK hf, MapKept.run_setObj_map _ hb, Result.andThen, Array.getElem?_eq_getElem hjl, hs]
      · unfold Ents at he ⊢
        simp only [put, hq]
        apply List.ext_getElem?
        intro i
        have h1 : (arr.toList.map (fun e => (e.key, e.val)))[i]? = (es.map (fun p => (Value.int .u16 p.1, p.2)))[i]? := by rw [he]
        by_cases hij : i = j
        · subst hij
          simp [hjl, hl ▸ hjl]
        · simp only [List.getElem?_map, Array.getElem?_toList] at h1
          simp [Ne.symm hij, h1]
end
end Go.Proofs.Ybulkcbmo.D
