/-
  THE FRAME OF THE LAW: from the row's condition to the table ('of_laid'); from the argument's reading to its rows ('args_of').
-/
import Derived.Test.YbulkccjsDoorHSet
import Derived.ProofKit
import Derived.LaidMore
import Derived.OpenShut
import Derived.Stop.Joined
import Derived.Deep.SlicePairs
import Derived.ChangeSlices
import Derived.OpenVars
namespace Go.Proofs.YbulkccjsDoor.H
open Go.ChangeShapes Go.WideShapes Go.ChangeAt Go.WideMaps Go.WideElems Go.RowKit
set_option linter.unusedSimpArgs false
set_option linter.unusedVariables false
set_option maxRecDepth 10000

theorem own : ownKnob Ybad.prog.godebug = none := by kernel_rfl
theorem gDisc : Ybad.prog.globalNamed "example.com/cellcrier/cellcrier/cbsp.discriminators" = some 1 := by kernel_rfl
theorem tDisc : (Ybad.prog.globals[1]?).map (·.type) = some 145 := by kernel_rfl
theorem c144 : Ybad.prog.cellsOf 144 = 4 := by kernel_rfl
theorem c145 : Ybad.prog.cellsOf 145 = 28 := by kernel_rfl
theorem c9 : Ybad.prog.cellsOf 9 = 1 := by kernel_rfl
theorem c4 : Ybad.prog.cellsOf 4 = 1 := by kernel_rfl
theorem c25 : Ybad.prog.cellsOf 25 = 2 := by kernel_rfl
theorem c23 : Ybad.prog.cellsOf 23 = 1 := by kernel_rfl

/-- The door's own heap meets the condition. -/
theorem door_met (os : Os) (args : Array Value) : laidMetH Ybad.prog Rows.lawS3931AHoldRow.laid ((World.doorLaid Ybad.prog 2000 os).forCall (fun _ _ => 0) ⟨#[], args, []⟩).memory :=
  laidMetH_of_parts3 (fuel := 8) (laidMet_of_run' 8 (by kernel_rfl) (by kernel_rfl)) (by kernel_rfl) (by kernel_rfl)

theorem cgi_full : (ByteArray.mk #[99, 103, 105]).toList.isEmpty = false := by kernel_rfl

/-- What the condition gives the walk: the table's first row. -/
theorem of_laid {W : World} (h : laidMetH Ybad.prog Rows.lawS3931AHoldRow.laid W) : Tab W ∧ 1 < W.heap.size := by
  rw [MakeChecks.laidMetH_plain _ _ _ (by kernel_rfl)] at h
  obtain ⟨ps, ⟨g0, t0, cs0, f0, p0, q0, hg0, ht0, hv0, hd0, _, _⟩, _, _⟩ := h
  obtain rfl := Option.some.inj (gDisc.symm.trans hg0)
  obtain rfl := Option.some.inj (tDisc.symm.trans ht0)
  obtain ⟨xs, m1, rfl, hx1, hlen, hn7, hel⟩ := DataW.trod_array Ybad.underlying145 hd0
  have h0 := hel 0 (by decide)
  simp only [c144] at h0
  simp only [c145] at hlen
  obtain ⟨l⟩ := cs0
  simp only [Prod.mk.injEq, Rows.laid_example_com_cellcrier_cellcrier_cbsp_discriminators, DataW.agg.injEq] at hx1
  have hw : 1 < W.heap.size := by
    unfold World.var? at hv0
    rw [hg0] at hv0
    simp only [Option.bind_some] at hv0
    cases hh : W.heap[1]? with
    | none => rw [hh] at hv0; cases hv0
    | some ob => exact (Array.getElem?_eq_some_iff.1 hh).1
  refine ⟨?_, hw⟩
  match xs, hn7, hx1, h0 with
  | x0 :: xr, _, hx1, h0 =>
    simp only [List.map_cons, List.cons.injEq] at hx1
    match l, hlen, h0, hv0 with
    | k0 :: k1 :: k2 :: k3 :: lr, _, h0, hv0 =>
      have h0' : DataW.trod (fun _ => ()) Ybad.prog W 0 (fun _ => true) false m1 144 [k0, k1, k2, k3] = some x0 := by simpa using h0
      obtain ⟨ys, m2, rfl, hy, hcl, hn4, hfl⟩ := DataW.trod_struct Ybad.underlying144 h0'
      have f0 := hfl 0 _ rfl
      have f1 := hfl 1 _ rfl
      have f2 := hfl 2 _ rfl
      have f3 := hfl 3 _ rfl
      match ys, hn4, hy, f0, f1, f2, f3 with
      | [y0, y1, y2, y3], _, hy, f0, f1, f2, f3 =>
        obtain ⟨s, e0, z0, _⟩ := DataW.trod_string Ybad.underlying9 (show DataW.trod _ Ybad.prog W 0 _ false m2 9 _ = some y0 from f0)
        obtain ⟨b1, e1, z1⟩ := DataW.trod_bool Ybad.underlying4 (show DataW.trod _ Ybad.prog W 0 _ false m2 4 _ = some y1 from f1)
        obtain ⟨b2, e2, z2⟩ := DataW.trod_bool Ybad.underlying4 (show DataW.trod _ Ybad.prog W 0 _ false m2 4 _ = some y2 from f2)
        obtain ⟨b3, e3, z3⟩ := DataW.trod_bool Ybad.underlying4 (show DataW.trod _ Ybad.prog W 0 _ false m2 4 _ = some y3 from f3)
        rw [hy] at hx1
        simp [z0, z1, z2, z3] at hx1
        simp [c9] at e0
        simp [c4] at e1 e2 e3
        have v0 := World.var?_cell hg0 hv0 0
        have v1 := World.var?_cell hg0 hv0 1
        have v2 := World.var?_cell hg0 hv0 2
        have v3 := World.var?_cell hg0 hv0 3
        simp at v0 v1 v2 v3
        obtain ⟨hs0, hb1, hb2, hb3⟩ := hx1.1.1
        refine ⟨⟨s, by rw [v0, e0], ?_⟩, by rw [v1, e1, ← hb1], by rw [v2, e2, ← hb2], by rw [v3, e3, ← hb3]⟩
        have hd : s.data.toList = [99, 103, 105] := by first | exact hs0 | exact hs0.symm
        have hs : s = ⟨#[99, 103, 105]⟩ := by
          obtain ⟨⟨ll⟩⟩ := s
          have : ll = [99, 103, 105] := hd
          rw [this]
        subst hs
        exact cgi_full

/-- One row of the argument. -/
theorem row_of {H : Type} {enc : TypeId × Value → H} {W : World} {n : Nat} {v : Value} {x : DataW H × List MemPlace} (h : DataW.trod enc Ybad.prog W 0 (fun _ => true) true n 23 [v] = some x) :
    ∃ o l c zs, v = .slice o l c ∧ zs.length = l ∧ U16 W o l zs ∧ ∀ z ∈ zs, wf16 z := by
  rcases open_ints Ybad.underlying23 Ybad.underlying31 cells31 h with ⟨hcs, _⟩ | ⟨a, l, c, zs, hcs, _, hl, hm, hz, _, hcell, hwz⟩
  · obtain rfl : v = .slice none 0 0 := by simpa using hcs
    exact ⟨none, 0, 0, [], rfl, rfl, ⟨rfl, .inl rfl⟩, by simp⟩
  · obtain rfl : v = .slice (some a) l c := by simpa using hcs
    have hz' : zs.length = c := by simpa using hz
    refine ⟨some a, l, c, zs.take l, rfl, by simp; omega, ⟨by simp; omega, .inr ⟨a, rfl, fun k u hu => ?_⟩⟩, fun z hz => hwz z (List.mem_of_mem_take hz)⟩
    have hkl := (List.getElem?_eq_some_iff.1 hu).1
    have hk1 : k < l ∧ k < zs.length := by simp at hkl; omega
    rw [hcell k hk1.2]
    rw [List.getElem?_take, if_pos hk1.1] at hu
    simp [List.getD_eq_getElem?_getD, hu]

theorem args_of {H : Type} {enc : TypeId × Value → H} {W : World} {o : Option Addr} {len cap : Nat} {d : DataW H} {p : List MemPlace} (h : DataW.Trod enc Ybad.prog W 0 (fun _ => true) true 22 (.slice o len cap) d p) :
    ∃ (ad : Addr) (ar : Nat → Arg), (0 < len → o = some ad) ∧ ∀ i, i < len → ArgAt W ad i (ar i) := by
  obtain ⟨fuel, hf⟩ := h
  rcases Go.Deep.open_slice_pairs Ybad.underlying22 Ybad.underlying25 c25 rfl rfl c23 c23 hf with ⟨hcs, _⟩ | ⟨a, l, c, m, n, V0, V1, D0, D1, P0, P1, hcs, hb, hl, hm, hmm, hx, hel⟩
  · simp [Value.cells] at hcs
    obtain ⟨rfl, rfl, rfl⟩ := hcs
    exact ⟨⟨0, 0, none⟩, fun _ => ⟨[], [], none, 0, none, 0⟩, fun h => by omega, fun i hi => by omega⟩
  · simp [Value.cells] at hcs
    obtain ⟨rfl, rfl, rfl⟩ := hcs
    have key : ∀ i, i < len → ∃ x : Arg, ArgAt W a i x := fun i hi => by
      obtain ⟨e0, e1, t0, t1⟩ := hel i (by simp at hmm; omega)
      obtain ⟨o1, l1, c1, z1, v1, n1, u1, w1⟩ := row_of t0
      obtain ⟨o2, l2, c2, z2, v2, n2, u2, w2⟩ := row_of t1
      subst n1 n2
      refine ⟨⟨z1, z2, o1, c1, o2, c2⟩, by rw [e0, v1], ?_, u1, u2, w1⟩
      rw [← v2, ← e1]
      congr 1
      unfold Addr.add
      by_cases h0 : i = 0
      · subst h0; simp
      · have h2 : ¬ i * 2 = 0 := by omega
        have h3 : ¬ i * 2 + 1 = 0 := by omega
        rw [if_neg h2, if_neg h3]
        simp [Nat.add_assoc]
    refine ⟨a, fun i => if h : i < len then Classical.choose (key i h) else ⟨[], [], none, 0, none, 0⟩, fun _ => rfl, fun i hi => ?_⟩
    simp only [hi, dif_pos]
    exact Classical.choose_spec (key i hi)
end Go.Proofs.YbulkccjsDoor.H
