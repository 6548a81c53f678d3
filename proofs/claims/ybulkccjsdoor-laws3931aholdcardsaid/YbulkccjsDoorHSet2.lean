/-
  THE LAW's SET-UP: the store of one call, and the round's end. No walk here.
-/
import Derived.Test.YbulkccjsDoorHSet
namespace Go.Proofs.YbulkccjsDoor.H
open Go.RowKit
set_option linter.unusedSimpArgs false
set_option linter.unusedVariables false

theorem Mid.orig {CA SA OA n k : Nat} {W X : World} {S : Nat} {ho : Option Addr} {hc : Nat} {hs : List Int} (h : Mid CA SA OA n k W X S ho hc hs) (hne : CA ≠ SA ∧ CA ≠ OA ∧ SA ≠ OA) (u : Value) : Mid CA SA OA n k W (X.setCell ⟨OA, k, none⟩ u) S ho hc hs := by
  have hl := h.lts
  have hz := h.turn.size
  have hS := h.zS
  have ht : Turn [OA] X (X.setCell ⟨OA, k, none⟩ u) := (Turn.refl _ _).setCell (by simp) _
  have nS : S ∉ [OA] := by simp; omega
  exact ⟨(ht.cell (lt_of_cell h.s0) nS).trans h.s0, (ht.cell (lt_of_cell h.s1) nS).trans h.s1, (ht.frozen (lt_of_cell h.s1) nS).trans h.sz, h.held.turn ht (fun x hx => by have := (h.zho x hx).1; simp; omega), h.zS, fun x hx => ⟨(h.zho x hx).1, Nat.lt_of_lt_of_le (h.zho x hx).2.1 ht.size, (h.zho x hx).2.2⟩,
    (ht.cell (p := ⟨SA, k, none⟩) (by simp; omega) (by simpa using hne.2.2)).trans h.sa, fun o ho => (ht.cell (p := ⟨SA, o, none⟩) (by simp; omega) (by simpa using hne.2.2)).trans (h.sa1 o ho), fun o ho => by rw [World.cell?_setCell_other _ _ _ _ (by simp <;> omega)]; exact h.oa1 o ho,
    fun o => (ht.cell (p := ⟨CA, o, none⟩) (by simp; omega) (by simpa using hne.2.1)).trans (h.ca1 o), h.bC.turn ht (by simpa using hne.2.1), h.bS.turn ht (by simpa using hne.2.2), h.bO.set _ _, h.turn.trans (ht.mono (by simp)), hl⟩

/-- The store of a call. -/
def store11 (Y : World) (CA o P cb m lb lc : Nat) (q : Value) : World :=
  ((((((((((Y.setCell ⟨CA, o, none⟩ (.pointer (some ⟨P, 0, none⟩))).setCell ⟨CA, o + 1, none⟩ (.slice (some ⟨cb, 0, none⟩) m m)).setCell ⟨CA, o + 2, none⟩ (.slice none 0 0)).setCell ⟨CA, o + 3, none⟩ (.int .u8 0)).setCell ⟨CA, o + 4, none⟩ (.slice (some ⟨lb, 0, none⟩) m lc)).setCell ⟨CA, o + 5, none⟩ q).setCell ⟨CA, o + 6, none⟩ (.map none)).setCell ⟨CA, o + 7, none⟩ .nilIface).setCell ⟨CA, o + 8, none⟩ (.int .u64 0)).setCell ⟨CA, o + 9, none⟩ (.int .i64 0)).setCell ⟨CA, o + 10, none⟩ (.pointer none)

theorem store11_turn (Y : World) (CA o P cb m lb lc : Nat) (q : Value) : Turn [CA] Y (store11 Y CA o P cb m lb lc q) := by
  unfold store11
  exact (((((((((((Turn.refl _ _).setCell (by simp) _).setCell (by simp) _).setCell (by simp) _).setCell (by simp) _).setCell (by simp) _).setCell (by simp) _).setCell (by simp) _).setCell (by simp) _).setCell (by simp) _).setCell (by simp) _).setCell (by simp) _

theorem store11_other (Y : World) (CA o P cb m lb lc : Nat) (q : Value) (x : Nat) (hx : x < o ∨ o + 11 ≤ x) : (store11 Y CA o P cb m lb lc q).cell? ⟨CA, x, none⟩ = Y.cell? ⟨CA, x, none⟩ := by
  unfold store11
  repeat rw [World.cell?_setCell_other _ _ _ _ (by simp <;> omega)]

theorem store11_blk {Y : World} {CA e mm : Nat} (h : Blk Y CA e mm) (o P cb m lb lc : Nat) (q : Value) : Blk (store11 Y CA o P cb m lb lc q) CA e mm := by
  unfold store11
  exact ((((((((((h.set _ _).set _ _).set _ _).set _ _).set _ _).set _ _).set _ _).set _ _).set _ _).set _ _).set _ _

set_option maxHeartbeats 1000000 in
theorem store11_cells {Y : World} {CA e mm : Nat} (h : Blk Y CA e mm) (o P cb m lb lc : Nat) (q : Value) (ho : o + 11 ≤ mm) :
    (store11 Y CA o P cb m lb lc q).cell? ⟨CA, o, none⟩ = some (.pointer (some ⟨P, 0, none⟩)) ∧ (store11 Y CA o P cb m lb lc q).cell? ⟨CA, o + 1, none⟩ = some (.slice (some ⟨cb, 0, none⟩) m m) ∧ (store11 Y CA o P cb m lb lc q).cell? ⟨CA, o + 3, none⟩ = some (.int .u8 0) ∧ (store11 Y CA o P cb m lb lc q).cell? ⟨CA, o + 4, none⟩ = some (.slice (some ⟨lb, 0, none⟩) m lc) ∧ (store11 Y CA o P cb m lb lc q).cell? ⟨CA, o + 5, none⟩ = some q ∧ (store11 Y CA o P cb m lb lc q).cell? ⟨CA, o + 6, none⟩ = some (.map none) := by
  obtain ⟨u0, e0⟩ := h.cell o (by omega)
  obtain ⟨u1, e1⟩ := h.cell (o + 1) (by omega)
  obtain ⟨u3, e3⟩ := h.cell (o + 3) (by omega)
  obtain ⟨u4, e4⟩ := h.cell (o + 4) (by omega)
  obtain ⟨u5, e5⟩ := h.cell (o + 5) (by omega)
  obtain ⟨u6, e6⟩ := h.cell (o + 6) (by omega)
  unfold store11
  refine ⟨?_, ?_, ?_, ?_, ?_, ?_⟩ <;> go_simp

theorem set_fin {CA SA OA n k : Nat} {ar : Nat → Arg} {w W Y : World} {d : Nat → Dat} {b : Nat → Nat} {S P cb lb lc hc R : Nat} {ho : Option Addr} (h : SetUp CA SA OA n ar w W k d b) (hk : k < n) (hM : Mid CA SA OA n k W Y S ho hc (ar k).hs)
    (p0 : Y.cell? ⟨P, 0, none⟩ = some (.iface 29 (.pointer (some ⟨S, 0, none⟩)))) (hP : W.heap.size ≤ P ∧ P ≠ S) (hcb : W.heap.size ≤ cb ∧ cb ≠ S) (hlb : W.heap.size ≤ lb ∧ lb ≠ S)
    (own1 : Y.ownsRow 0 38 4 (.slice (some ⟨cb, 0, none⟩) (ar k).zs.length (ar k).zs.length) (ar k).zs.length (cidCells (ar k).zs)) (own2 : Y.ownsRow 0 38 4 (.slice (some ⟨lb, 0, none⟩) (ar k).zs.length lc) (ar k).zs.length (cidCells (ar k).zs))
    (hO : Y.cell? ⟨OA, k, none⟩ = some (reqOf R)) :
    SetUp CA SA OA n ar w (store11 Y CA (k * 11) P cb (ar k).zs.length lb lc (reqOf R)) (k + 1) (fun j => if j = k then ⟨(ar k).zs, (ar k).hs, S, P, cb, (ar k).zs.length, lb, lc, hc, R, ho⟩ else d j) (fun j => if j ≤ k then b j else (store11 Y CA (k * 11) P cb (ar k).zs.length lb lc (reqOf R)).heap.size) := by
  have ht := store11_turn Y CA (k * 11) P cb (ar k).zs.length lb lc (reqOf R)
  have hsz := ht.size
  obtain ⟨c0, c1, c3, c4, c5, c6⟩ := store11_cells hM.bC (k * 11) P cb (ar k).zs.length lb lc (reqOf R) (by omega)
  have hl := hM.lts
  have hS := hM.zS
  have hne := h.ne
  have hcl := (own_base own1 cb (by simp [blk])).2
  have hll := (own_base own2 lb (by simp [blk])).2
  have hPl := lt_of_cell p0
  have hSl := lt_of_cell hM.s0
  have hOl := lt_of_cell hO
  have hAl := lt_of_cell hM.sa
  have nS : S ∉ [CA] := by simp; omega
  have nP : P ∉ [CA] := by simp; omega
  have nA : SA ∉ [CA] := by simpa using Ne.symm hne.1
  have nO : OA ∉ [CA] := by simpa using Ne.symm hne.2.1
  refine h.step ⟨(ar k).zs, (ar k).hs, S, P, cb, (ar k).zs.length, lb, lc, hc, R, ho⟩ ((hM.turn.mono (by simp)).trans (ht.mono (by simp))) (fun o ho => (store11_other Y CA (k * 11) P cb _ lb lc _ o ho).trans (hM.ca1 o)) (fun o ho => (ht.cell (p := ⟨SA, o, none⟩) hAl nA).trans (hM.sa1 o ho)) (fun o ho => (ht.cell (p := ⟨OA, o, none⟩) hOl nO).trans (hM.oa1 o ho))
    ⟨c0, c1, c3, c4, c5, c6, (ht.cell hPl nP).trans p0, (ht.cell hSl nS).trans hM.s0, (ht.cell (lt_of_cell hM.s1) nS).trans hM.s1, (ht.frozen (lt_of_cell hM.s1) nS).trans hM.sz, own_turn own1 ht (by simp [blk]; omega), own_turn own2 ht (by simp [blk]; omega), hM.held.turn ht (fun x hx => by have := (hM.zho x hx).1; simp; omega)⟩
    ((ht.cell hAl nA).trans hM.sa) ((ht.cell hOl nO).trans hO) (store11_blk hM.bC _ _ _ _ _ _ _) (hM.bS.turn ht nA) (hM.bO.turn ht nO) ⟨hS, Nat.lt_of_lt_of_le hSl hsz⟩ ?_ ⟨rfl, rfl⟩
  intro x hx
  simp only [Dat.rd, List.mem_append, List.mem_cons, List.not_mem_nil, or_false] at hx
  rcases hx with (rfl | rfl | rfl) | hx
  · exact ⟨hP.1, Nat.lt_of_lt_of_le hPl hsz, hP.2⟩
  · exact ⟨hcb.1, Nat.lt_of_lt_of_le hcl hsz, hcb.2⟩
  · exact ⟨hlb.1, Nat.lt_of_lt_of_le hll hsz, hlb.2⟩
  · have := hM.zho x hx
    exact ⟨this.1, Nat.lt_of_lt_of_le this.2.1 hsz, this.2.2⟩

end Go.Proofs.YbulkccjsDoor.H
