/-
  WHAT THE LAW READS BEHIND holdBack. No walk here.
-/
import Derived.Test.YbulkccjsDoorHSet2
import Derived.Test.YbulkccjsDoorHHold
import Derived.LaidEql
namespace Go.Proofs.YbulkccjsDoor.H
open Go.RowKit
set_option linter.unusedSimpArgs false
set_option linter.unusedVariables false

theorem comp39 : (Ybad.prog.info? 39).map (fun i => i.comparable) = some true := by kernel_rfl
theorem some50 : (Ybad.prog.info? 50).isSome = true := by kernel_rfl

theorem neq_req (W : World) (R : Nat) : (binOp .neq 52 (reqOf R) (reqOf R)).run Ybad.prog W = .ok (.bool false) W := by
  obtain ⟨i, hi, hc⟩ := Option.map_eq_some_iff.1 comp39
  obtain ⟨j, hj⟩ := Option.isSome_iff_exists.1 some50
  unfold reqOf
  simp only [binOp]
  simp [Op.equal, Op.maxDepth, run_equalIn_iface_ptr_same W 9998 ⟨R, 0, none⟩ Ybad.underlying52 Ybad.underlying39 hi hc hj]

theorem neq_map (W : World) : (binOp .neq 60 (.map none) (.map none)).run Ybad.prog W = .ok (.bool false) W := by
  simp only [binOp]
  simp [Op.equal, Op.maxDepth, run_equalIn_map_nil W 9999 60 38 76 none Ybad.underlying60]

theorem neq_nil (W : World) : (binOp .neq 52 .nilIface .nilIface).run Ybad.prog W = .ok (.bool false) W := by
  go_simp

theorem DoneX.quiet {D : List Nat} {CA B : Nat} {t : Int} {W W' : World} {i : Nat} {d : Dat} {es : List Ent} {ix : Nat} {v : Value} {g m c : Nat} {q : Value} {ls : List Int} (h : DoneX D CA B t W i d es ix v g m c q ls) (ht : Turn [] W W') : DoneX D CA B t W' i d es ix v g m c q ls :=
  ⟨(ht.cell (lt_of_cell h.a1) (by simp)).trans h.a1, (ht.cell (lt_of_cell h.a3) (by simp)).trans h.a3, (ht.cell (lt_of_cell h.a4) (by simp)).trans h.a4, (ht.cell (lt_of_cell h.a5) (by simp)).trans h.a5, (ht.cell (lt_of_cell h.a6) (by simp)).trans h.a6, (ht.cell (lt_of_cell h.s1) (by simp)).trans h.s1,
   own_turn h.cells ht (by simp), own_turn h.list ht (by simp), h.held.turn ht (by simp), h.nv, h.ng, h.out⟩

/-- The first time that a held cell comes, the map has one key more. -/
theorem hk_first (hs zs : List Int) (j : Nat) (z : Int) (hz : zs[j]? = some z) (hin : z ∈ hs) : (hk hs (zs.take (j + 1))).length = (hk hs (zs.take j)).length + if zs.idxOf z = j then 1 else 0 := by
  obtain ⟨hj, he⟩ := List.getElem?_eq_some_iff.1 hz
  rw [take_snoc hz, hk_snoc, if_pos hin]
  have hmem : z ∈ hk hs (zs.take j) ↔ z ∈ zs.take j := by rw [mem_hk]; exact ⟨fun h => h.1, fun h => ⟨h, hin⟩⟩
  by_cases hf : z ∈ zs.take j
  · have hne : zs.idxOf z ≠ j := fun h => by
      have h1 : zs.idxOf z = (zs.take j).idxOf z := by
        have h2 := List.idxOf_append (l₁ := zs.take j) (l₂ := zs.drop j) (a := z)
        rw [List.take_append_drop, if_pos hf] at h2
        exact h2
      have h3 := List.idxOf_lt_length_of_mem hf
      simp at h3
      omega
    rw [if_neg hne]
    unfold ins
    rw [if_pos (hmem.2 hf)]; rfl
  · rw [if_pos (idx_first z zs j hj he hf)]
    unfold ins
    rw [if_neg (fun h => hf (hmem.1 h))]; simp

theorem hk_le (hs zs : List Int) : (hk hs zs).length ≤ zs.length := by have := hk_kp hs zs; omega

/-- The cells of the k-th list and request. -/
theorem xs_at (es : List Ent) (ix : Nat) (e : Ent) (h : es[ix]? = some e) : (xsOf es)[ix * 2]? = some (.int .u8 0) ∧ (xsOf es)[ix * 2 + 1]? = some (.slice (some ⟨e.g, 0, none⟩) e.m e.c) := by
  induction es generalizing ix with
  | nil => simp at h
  | cons a es ih =>
    have e1 : xsOf (a :: es) = [.int .u8 0, .slice (some ⟨a.g, 0, none⟩) a.m a.c] ++ xsOf es := rfl
    rw [e1]
    cases ix with
    | zero => simp at h; subst h; simp
    | succ ix =>
      have := ih ix (by simpa using h)
      rw [List.getElem?_append_right (by simp; omega), List.getElem?_append_right (by simp; omega)]
      refine ⟨?_, ?_⟩
      · rw [← this.1]; congr 1; simp; omega
      · rw [← this.2]; congr 1; simp; omega
theorem ys_at (es : List Ent) (ix : Nat) (e : Ent) (h : es[ix]? = some e) : (ysOf es)[ix]? = some (reqOf e.R) := by simp [ysOf, h]
theorem xs_len (es : List Ent) : (xsOf es).length = es.length * 2 := by
  induction es with
  | nil => rfl
  | cons a es ih =>
    have e1 : xsOf (a :: es) = [.int .u8 0, .slice (some ⟨a.g, 0, none⟩) a.m a.c] ++ xsOf es := rfl
    rw [e1, List.length_append, ih]; simp; omega
theorem ys_len (es : List Ent) : (ysOf es).length = es.length := by simp [ysOf]
end Go.Proofs.YbulkccjsDoor.H
