import Derived.Test.YbulkccjsDoorHClone
import Derived.DeepKeys
import Derived.Laws.StructEq
import Derived.DeepKeys4
import Derived.WideKeyMaps
import Derived.MapKept
namespace Go.Proofs.YbulkccjsDoor.H
open Go.RowKit Go.WideMaps
theorem laidOut : laidOutB Ybad.prog = true := by kernel_rfl
theorem row38 : (38 : TypeId) < Ybad.prog.types.size := of_decide_eq_true (by kernel_rfl)
theorem wide38 : (match Ybad.prog.underlying 38 with | some (.array _ _) | some (.struct _) => true | _ => false) = true := by kernel_rfl
theorem at38 : Ybad.prog.keyTypeAt 3 38 = true := by kernel_rfl
set_option maxRecDepth 100000 in
theorem law38 : KeyLaw Ybad.prog 38 := deep_law_laid laidOut (m := 3) (by omega) row38 at38 wide38
theorem size_types : Ybad.prog.types.size = 234 := by kernel_rfl
theorem keyType38 : Ybad.prog.keyType 38 = true := by kernel_rfl
theorem cells38 : Ybad.prog.cellsOf 38 = 4 := by kernel_rfl
theorem cells36 : Ybad.prog.cellsOf 36 = 2 := by kernel_rfl
theorem cells31 : Ybad.prog.cellsOf 31 = 1 := by kernel_rfl
theorem cells9 : Ybad.prog.cellsOf 9 = 1 := by kernel_rfl
theorem formed_cid (ci : Int) : (cid ci).formed Ybad.prog 38 = true := by simp [cid, Value.formed, Ybad.underlying38, cells38]
set_option maxRecDepth 100000 in
theorem lits_cid (ci : Int) (h : (Lit.int .u16 ci).wf = true) : Ybad.prog.keyLits (232 + 1 + 1 + 1) 38 (cid ci).cells.toList = some [.string [], .string [], .int .u16 0, .int .u16 ci] := by
  have h0 : (Lit.int .u16 0).wf = true := by decide
  have hs : ByteArray.size ⟨#[]⟩ ≤ maxLen := by decide
  have l31 : ∀ d n, (Lit.int .u16 n).wf = true → Ybad.prog.keyLits (d + 1) 31 [.int .u16 n] = some [.int .u16 n] := fun d n hn => by
    simp [Program.keyLits, Ybad.underlying31, hn]
  have l9 : ∀ d, Ybad.prog.keyLits (d + 1) 9 [.string ⟨#[]⟩] = some [.string []] := fun d => by
    simp [Program.keyLits, Ybad.underlying9, hs]
  have l36 : ∀ d, Ybad.prog.keyLits (d + 1 + 1) 36 [.string ⟨#[]⟩, .string ⟨#[]⟩] = some [.string [], .string []] := fun d => by
    unfold Program.keyLits
    simp [Ybad.underlying36, cells36, cells9, l9]
  rw [show (cid ci).cells.toList = [.string ⟨#[]⟩, .string ⟨#[]⟩, .int .u16 0, .int .u16 ci] from rfl]
  unfold Program.keyLits
  simp [Ybad.underlying38, cells38, cells36, cells31, l36 232, l31 _ _ h0, l31 _ _ h]
set_option maxRecDepth 100000 in
theorem key_cid (ci : Int) (h : (Lit.int .u16 ci).wf = true) : ∃ l, keyOf Ybad.prog 38 (cid ci) = some l := by
  refine ⟨.string (keyBytes [.string [], .string [], .int .u16 0, .int .u16 ci]), ?_⟩
  unfold keyOf
  simp only [Ybad.underlying38, keyType38, formed_cid, Bool.and_self, if_true, size_types]
  rw [show (234 + 1 : Nat) = 232 + 1 + 1 + 1 from rfl, lits_cid ci h]
  rfl
theorem neq_cid (W : World) (z : Int) (h : (Lit.int .u16 z).wf = true) : (binOp .neq 38 (cid z) (cid z)).run Ybad.prog W = .ok (.bool false) W := by
  obtain ⟨r, h1, h2⟩ := run_equalIn_deep (P := Ybad.prog) 9997 3 38 at38 W _ _ (cid z) (cid z) _ _ (formed_cid z) (formed_cid z) (lits_cid z h) (lits_cid z h)
  have hr : r = true := h2.2 rfl
  rw [hr] at h1
  have h3 : (Op.equalIn 10000 38 (cid z) (cid z)).run Ybad.prog W = .ok true W := h1
  unfold cid at h3 ⊢
  rw [run_neq_struct, h3]
  rfl

theorem cid_inj {a b : Int} (h : cid a = cid b) : a = b := by
  simpa [cid] using h

/-- A map of cells that are held: its keys in the order in which they came; the value of each hangs on the key. -/
def HeldMap (f : Int → Int) (w : World) (v : Value) (ks : List Int) : Prop :=
  (v = .map none ∧ ks = []) ∨ ∃ r arr c, v = .map (some r) ∧ w.heap[r]? = some (.map arr c) ∧ arr.toList.map (fun e => (e.key, e.val)) = ks.map (fun k => (cid k, Value.int .u8 (f k)))

def wf16 (n : Int) : Prop := (Lit.int .u16 n).wf = true

theorem held_keys {f : Int → Int} {arr : Array MapEntry} {ks : List Int} (h : arr.toList.map (fun e => (e.key, e.val)) = ks.map (fun k => (cid k, Value.int .u8 (f k)))) (hk : ∀ k ∈ ks, wf16 k) :
    ∀ e ∈ arr.toList, ∃ l, keyOf Ybad.prog 38 e.key = some l := by
  intro e he
  have h1 : (e.key, e.val) ∈ ks.map (fun k => (cid k, Value.int .u8 (f k))) := by rw [← h]; exact List.mem_map.2 ⟨e, he, rfl⟩
  obtain ⟨k, hk1, hk2⟩ := List.mem_map.1 h1
  simp only [Prod.mk.injEq] at hk2
  rw [← hk2.1]
  exact key_cid k (hk k hk1)

theorem held_look {f : Int → Int} {w : World} {v : Value} {ks : List Int} (h : HeldMap f w v ks) (hk : ∀ k ∈ ks, wf16 k) (ci : Int) (hc : wf16 ci) :
    (Instr.lookup 60 v (cid ci) true).run Ybad.prog w = .ok (.tuple #[.int .u8 (if ci ∈ ks then f ci else 0), .bool (decide (ci ∈ ks))]) w := by
  obtain ⟨l, hl⟩ := key_cid ci hc
  have hz : (zeroValue 76).run Ybad.prog w = .ok (.int .u8 0) w := by kernel_rfl
  have hck := fun b => law38.check w b hl
  rcases h with ⟨rfl, rfl⟩ | ⟨r, arr, c, rfl, hb, he⟩
  · rcases law38.find w hl [] (by simp) with ⟨hf, _⟩ | ⟨j, e, _, hj, _⟩
    · simp [Instr.lookup, run_underlying Ybad.underlying60, hck, hf, hz, Result.andThen]
    · simp at hj
  · rcases law38.find w hl arr.toList (held_keys he hk) with ⟨hf, hn⟩ | ⟨j, e, hf, hj, hkey⟩
    · have hni : ci ∉ ks := fun hm => by
        have h1 : (cid ci, Value.int .u8 (f ci)) ∈ arr.toList.map (fun e => (e.key, e.val)) := by rw [he]; exact List.mem_map.2 ⟨ci, hm, rfl⟩
        obtain ⟨e, he1, he2⟩ := List.mem_map.1 h1
        simp only [Prod.mk.injEq] at he2
        exact hn e he1 he2.1
      simp [Instr.lookup, run_underlying Ybad.underlying60, hck, MapKept.run_getObj_map hb, hf, hz, Result.andThen, hni]
    · have h1 : (e.key, e.val) ∈ ks.map (fun k => (cid k, Value.int .u8 (f k))) := by rw [← he]; exact List.mem_map.2 ⟨e, List.mem_of_getElem? hj, rfl⟩
      obtain ⟨k, hk1, hk2⟩ := List.mem_map.1 h1
      simp only [Prod.mk.injEq] at hk2
      obtain rfl : k = ci := cid_inj (hk2.1.trans hkey)
      simp [Instr.lookup, run_underlying Ybad.underlying60, hck, MapKept.run_getObj_map hb, hf, Result.andThen, hk1, ← hk2.2]

/-- One key more, unless it is there. -/
def ins (ks : List Int) (ci : Int) : List Int := if ci ∈ ks then ks else ks ++ [ci]

theorem held_put {f : Int → Int} {w : World} {r : Nat} {ks : List Int} (h : HeldMap f w (.map (some r)) ks) (hk : ∀ k ∈ ks, wf16 k) (ci : Int) (hc : wf16 ci) :
    ∃ w', (Instr.mapUpdate 60 (.map (some r)) (cid ci) (.int .u8 (f ci))).run Ybad.prog w = .ok () w' ∧ HeldMap f w' (.map (some r)) (ins ks ci) ∧ Turn [r] w w' := by
  obtain ⟨l, hl⟩ := key_cid ci hc
  have hck := fun b => law38.check w b hl
  have hst := law38.stays w hl
  rcases h with ⟨h, _⟩ | ⟨r', arr, c, h, hb, he⟩
  · cases h
  · cases h
    have hturn : ∀ o, Turn [r] w { w with heap := w.heap.setIfInBounds r o } := fun o => ⟨rfl, rfl, rfl, by simp, fun k _ hn => by
      simp at hn
      exact (MapKept.heap_set hb).2 k hn⟩
    rcases law38.find w hl arr.toList (held_keys he hk) with ⟨hf, hn⟩ | ⟨j, e, hf, hj, hkey⟩
    · have hni : ci ∉ ks := fun hm => by
        have h1 : (cid ci, Value.int .u8 (f ci)) ∈ arr.toList.map (fun e => (e.key, e.val)) := by rw [he]; exact List.mem_map.2 ⟨ci, hm, rfl⟩
        obtain ⟨e, he1, he2⟩ := List.mem_map.1 h1
        simp only [Prod.mk.injEq] at he2
        exact hn e he1 he2.1
      refine ⟨{ w with heap := w.heap.setIfInBounds r (.map (arr.push { key := cid ci, val := .int .u8 (f ci), born := c }) (c + 1)) }, ?_, .inr ⟨r, _, _, rfl, (MapKept.heap_set hb).1, ?_⟩, hturn _⟩
      · simp [Instr.mapUpdate, run_underlying Ybad.underlying60, hck, MapKept.run_getObj_map hb, hf, MapKept.run_setObj_map _ hb, Result.andThen]
      · simp [ins, hni, he]
    · have h1 : (e.key, e.val) ∈ ks.map (fun k => (cid k, Value.int .u8 (f k))) := by rw [← he]; exact List.mem_map.2 ⟨e, List.mem_of_getElem? hj, rfl⟩
      obtain ⟨k, hk1, hk2⟩ := List.mem_map.1 h1
      simp only [Prod.mk.injEq] at hk2
      obtain rfl : k = ci := cid_inj (hk2.1.trans hkey)
      have hjl : j < arr.size := by
        have := (List.getElem?_eq_some_iff.1 hj).1
        simpa using this
      have hje : arr[j] = e := by simpa [Array.getElem?_toList, Array.getElem?_eq_getElem hjl] using hj
      refine ⟨{ w with heap := w.heap.setIfInBounds r (.map (arr.modify j fun e => { e with key := cid k, val := .int .u8 (f k) }) c) }, ?_, .inr ⟨r, _, _, rfl, (MapKept.heap_set hb).1, ?_⟩, hturn _⟩
      · have hs : (Instr.keyThatStays e.key (cid k)).run Ybad.prog w = .ok (cid k) w := by rw [hkey]; exact hst
        simp [Instr.mapUpdate, run_underlying Ybad.underlying60, hck, MapKept.run_getObj_map hb, hf, MapKept.run_setObj_map _ hb, Result.andThen, Array.getElem?_eq_getElem hjl, hje, hs]
      · rw [show ins ks k = ks by simp [ins, hk1], ← he]
        apply List.ext_getElem?
        intro t
        simp only [List.getElem?_map, Array.getElem?_toList, Array.getElem?_modify]
        by_cases ht : j = t
        · subst ht
          simp [Array.getElem?_eq_getElem hjl, hje, ← hkey, ← hk2.2]
        · simp [ht]

theorem held_len {f : Int → Int} {w : World} {v : Value} {ks : List Int} (h : HeldMap f w v ks) : (Builtin.len_ #[60] 3 #[v]).run Ybad.prog w = .ok (.int .i64 ks.length) w := by
  rcases h with ⟨rfl, rfl⟩ | ⟨r, arr, c, rfl, hb, he⟩
  · simp [Builtin.len_, run_underlying Ybad.underlying60]
    rfl
  · have hl : arr.size = ks.length := by simpa using congrArg List.length he
    simp [Builtin.len_, run_underlying Ybad.underlying60, MapKept.run_getObj_map hb, hl]
    rfl
end Go.Proofs.YbulkccjsDoor.H
