import Derived.Test.YbulkccjsDoorHList
import Derived.Test.YbulkccjsDoorHFin
import Derived.WalkKit
import Derived.WalkSpells
import Derived.WalkLawsBesides
import Derived.Below
import Derived.BigQuiet
import Derived.Deep.QuietTactic
import Derived.Deep.AppendLies
import Derived.Deep.DrawnRows
import Derived.Deep.RegionHeld3
import Derived.Deep.RegionWith
import Derived.Deep.CutRange
import Derived.Deep.DeepCutAuto
import Derived.Deep.CutBlock
namespace Go.Proofs.YbulkccjsDoor.H
open Go.RowKit
set_option linter.unusedSimpArgs false
set_option linter.unusedVariables false


theorem cidCells_snoc (ks : List Int) (ci : Int) : cidCells (ks ++ [ci]) = cidCells ks ++ [.string ⟨#[]⟩, .string ⟨#[]⟩, .int .u16 0, .int .u16 ci] := by simp [cidCells]

theorem news_alloc (w : World) (l : List Value) (t : TypeId) : ∀ j u, l[j]? = some u → (w.alloc (.cells l.toArray t)).cell? (Addr.add ⟨w.heap.size, 0, none⟩ j) = some u := by
  intro j u h
  rw [Addr.add_lit, Nat.zero_add]
  have e : (w.alloc (.cells l.toArray t)).heap[w.heap.size]? = some (.cells l.toArray t) := (MapKept.heap_alloc w _).1
  simp only [World.cell?, e]
  simpa using h

/-- Where a walk of (*idList).add stands. -/
structure Ad (w W : World) (LB g n c base A : Nat) (ks : List Int) (ci : Int) : Prop where
  l0 : W.cell? ⟨LB, 0, none⟩ = some (.int .u8 0)
  l1 : W.cell? ⟨LB, 1, none⟩ = some (.slice (some ⟨g, 0, none⟩) n c)
  l2 : W.cell? ⟨LB, 2, none⟩ = some (.map none)
  z1 : W.frozen? ⟨LB, 1, none⟩ = false
  own : W.ownsRow base 38 4 (.slice (some ⟨g, 0, none⟩) n c) n (cidCells ks)
  a0 : W.cell? ⟨A, 0, none⟩ = some (.string ⟨#[]⟩)
  a1 : W.cell? ⟨A, 1, none⟩ = some (.string ⟨#[]⟩)
  a2 : W.cell? ⟨A, 2, none⟩ = some (.int .u16 0)
  a3 : W.cell? ⟨A, 3, none⟩ = some (.int .u16 ci)
  tab : Tab W
  sz : 1 < W.heap.size
  turn : Turn [LB, g] w W

theorem Ad.step {w W W' : World} {LB g n c base A : Nat} {ks : List Int} {ci : Int} (h : Ad w W LB g n c base A ks ci) (ht : Turn [] W W') : Ad w W' LB g n c base A ks ci := by
  have hc : ∀ {p : Addr} {v : Value}, W.cell? p = some v → W'.cell? p = some v := fun {p v} e => (ht.cell (lt_of_cell e) (by simp)).trans e
  exact ⟨hc h.l0, hc h.l1, hc h.l2, (ht.frozen (lt_of_cell h.l1) (by simp)).trans h.z1, own_turn h.own ht (by simp), hc h.a0, hc h.a1, hc h.a2, hc h.a3, h.tab.below h.sz (ht.toBelow (by simp) (Nat.le_refl _)), Nat.lt_of_lt_of_le h.sz ht.size, h.turn.trans (ht.mono (by simp))⟩

theorem Ad.box {w W : World} {LB g n c base A : Nat} {ks : List Int} {ci : Int} (h : Ad w W LB g n c base A ks ci) : Ad w (W.alloc (.cells #[.string ⟨#[]⟩, .string ⟨#[]⟩, .int .u16 0, .int .u16 ci] 38)) LB g n c base W.heap.size ks ci := by
  have h1 := h.step ((Turn.refl [] W).alloc (.cells #[.string ⟨#[]⟩, .string ⟨#[]⟩, .int .u16 0, .int .u16 ci] 38))
  exact ⟨h1.l0, h1.l1, h1.l2, h1.z1, h1.own, by simp, by simp, by simp, by simp, h1.tab, h1.sz, h1.turn⟩

theorem Ad.fill {w W : World} {LB g n c base A : Nat} {ks : List Int} {ci : Int} (h : Ad w W LB g n c base A ks ci) {B : Nat} (hB : w.heap.size ≤ B) (hLB : LB < w.heap.size) (hg : g < w.heap.size) (hb1 : 1 < w.heap.size)
    (q0 : W.cell? ⟨B, 0, none⟩ = some (.string ⟨#[]⟩)) (q1 : W.cell? ⟨B, 1, none⟩ = some (.string ⟨#[]⟩)) (q2 : W.cell? ⟨B, 2, none⟩ = some (.int .u16 0)) (q3 : W.cell? ⟨B, 3, none⟩ = some (.int .u16 0)) :
    Ad w ((((W.setCell ⟨B, 0, none⟩ (.string ⟨#[]⟩)).setCell ⟨B, 1, none⟩ (.string ⟨#[]⟩)).setCell ⟨B, 2, none⟩ (.int .u16 0)).setCell ⟨B, 3, none⟩ (.int .u16 ci)) LB g n c base B ks ci := by
  have t : Turn [B] W ((((W.setCell ⟨B, 0, none⟩ (.string ⟨#[]⟩)).setCell ⟨B, 1, none⟩ (.string ⟨#[]⟩)).setCell ⟨B, 2, none⟩ (.int .u16 0)).setCell ⟨B, 3, none⟩ (.int .u16 ci)) := ((((Turn.refl [B] W).setCell (by simp) _).setCell (by simp) _).setCell (by simp) _).setCell (by simp) _
  have nL : LB ∉ [B] := by simp; omega
  have n1 : (1 : Nat) ∉ [B] := by simp; omega
  obtain ⟨s, t0, ts⟩ := h.tab.n
  refine ⟨(t.cell (lt_of_cell h.l0) nL).trans h.l0, (t.cell (lt_of_cell h.l1) nL).trans h.l1, (t.cell (lt_of_cell h.l2) nL).trans h.l2, (t.frozen (lt_of_cell h.l1) nL).trans h.z1, own_turn h.own t (fun k hk => ?_), by go_simp, by go_simp, by go_simp, by go_simp,
    ⟨⟨s, (t.cell h.sz n1).trans t0, ts⟩, (t.cell h.sz n1).trans h.tab.p, (t.cell h.sz n1).trans h.tab.l, (t.cell h.sz n1).trans h.tab.c⟩, Nat.lt_of_lt_of_le h.sz t.size, h.turn.fresh t (by simp; omega)⟩
  have : k = g := by simpa [blk] using hk
  simp; omega

set_option maxRecDepth 100000 in
set_option maxHeartbeats 4000000 in
theorem add_is (LB g n c base : Nat) (ks : List Int) (ci : Int) (w : World) (hT : Tab w) (hb1 : 1 < w.heap.size) (hbase : base ≤ w.heap.size) (hn : n ≤ 1024)
    (l0 : w.cell? ⟨LB, 0, none⟩ = some (.int .u8 0)) (l1 : w.cell? ⟨LB, 1, none⟩ = some (.slice (some ⟨g, 0, none⟩) n c)) (l2 : w.cell? ⟨LB, 2, none⟩ = some (.map none)) (z1 : w.frozen? ⟨LB, 1, none⟩ = false)
    (hown : w.ownsRow base 38 4 (.slice (some ⟨g, 0, none⟩) n c) n (cidCells ks)) (hLg : LB ≠ g) :
    Calls Ybad.prog 22 #[.pointer (some ⟨LB, 0, none⟩), cid ci] w fun e w' => e = .returned (.tuple #[]) ∧ ∃ g' c', w'.cell? ⟨LB, 0, none⟩ = some (.int .u8 0) ∧ w'.cell? ⟨LB, 1, none⟩ = some (.slice (some ⟨g', 0, none⟩) (n + 1) c') ∧ w'.cell? ⟨LB, 2, none⟩ = some (.map none) ∧ w'.frozen? ⟨LB, 1, none⟩ = false ∧
      w'.ownsRow base 38 4 (.slice (some ⟨g', 0, none⟩) (n + 1) c') (n + 1) (cidCells (ks ++ [ci])) ∧ Turn [LB, g] w w' ∧ (g' = g ∨ w.heap.size ≤ g') := by
  have hLs : LB < w.heap.size := lt_of_cell l0
  have hgs : g < w.heap.size := (own_base hown g (by simp [blk])).2
  obtain ⟨i0, hi0, hz0, hz1, hz2⟩ := info_parts info38
  have h : Ad w (w.alloc (.cells #[.string ⟨#[]⟩, .string ⟨#[]⟩, .int .u16 0, .int .u16 ci] 38)) LB g n c base w.heap.size ks ci := by
    have ht : Turn [] w (w.alloc (.cells #[.string ⟨#[]⟩, .string ⟨#[]⟩, .int .u16 0, .int .u16 ci] 38)) := (Turn.refl [] w).alloc _
    have hc : ∀ {p : Addr} {v : Value}, w.cell? p = some v → (w.alloc (.cells #[.string ⟨#[]⟩, .string ⟨#[]⟩, .int .u16 0, .int .u16 ci] 38)).cell? p = some v := fun {p v} e => (ht.cell (lt_of_cell e) (by simp)).trans e
    exact ⟨hc l0, hc l1, hc l2, (ht.frozen hLs (by simp)).trans z1, own_turn hown ht (by simp), by simp, by simp, by simp, by simp, hT.below hb1 (ht.toBelow (by simp) (Nat.le_refl _)), by simp <;> omega, ht.mono (by simp)⟩
  have hid := identify_cgi ci
  unfold cid at hid ⊢
  go_enter Ybad.func22, Ybad.ntmps22
  go_wp2_with fail
  clear l0 l1 l2 z1 hown
  generalize w.alloc (.cells #[.string ⟨#[]⟩, .string ⟨#[]⟩, .int .u16 0, .int .u16 ci] 38) = W at *
  obtain ⟨A, hA⟩ : ∃ A, A = w.heap.size := ⟨_, rfl⟩
  rw [← hA] at h ⊢
  have HA : Hid (A = w.heap.size) := hA
  clear hA
  have hd := h.step ((Turn.refl [] W).drew)
  go_cut [4] from 4 to 11 (fun x wx => ∃ IB, x = .pointer (some ⟨IB, 0, none⟩) ∧ w.heap.size ≤ IB ∧ Ad w wx LB g n c base IB ks ci)
  case first =>
    have l0 := h.l0
    have a0 := h.a0
    have hAl : A < W.heap.size := lt_of_cell h.a0
    have hLl : LB < W.heap.size := lt_of_cell h.l0
    have a1 := h.a1
    have a2 := h.a2
    have a3 := h.a3
    go_region_with
      (first
        | (go_at_call 35; refine (hid _ hd.tab hd.sz).mono ?_; rintro e w5 ⟨rfl, hB⟩; have h5 := hd.step (Turn.below hB))
        | (go_at_call 35; refine (hid _ (hd.step ((Turn.refl [] _).alloc _)).tab (hd.step ((Turn.refl [] _).alloc _)).sz).mono ?_; rintro e w5 ⟨rfl, hB⟩; have h5 := (hd.step ((Turn.refl [] _).alloc _)).step (Turn.below hB); have q0 : w5.cell? ⟨W.heap.size, 0, none⟩ = some (.string ⟨#[]⟩) := (hB.cell (p := ⟨W.heap.size, 0, none⟩) (by simp)).trans (by go_simp); have q1 : w5.cell? ⟨W.heap.size, 1, none⟩ = some (.string ⟨#[]⟩) := (hB.cell (p := ⟨W.heap.size, 1, none⟩) (by simp)).trans (by go_simp); have q2 : w5.cell? ⟨W.heap.size, 2, none⟩ = some (.int .u16 0) := (hB.cell (p := ⟨W.heap.size, 2, none⟩) (by simp)).trans (by go_simp); have q3 : w5.cell? ⟨W.heap.size, 3, none⟩ = some (.int .u16 0) := (hB.cell (p := ⟨W.heap.size, 3, none⟩) (by simp)).trans (by go_simp); have zq : ∀ j, w5.frozen? ⟨W.heap.size, j, none⟩ = false := fun j => (hB.frozen (p := ⟨W.heap.size, j, none⟩) (by simp)).trans (by go_simp)))
    all_goals
      go_wp2
      go_meet
      case rel => first | exact ⟨_, rfl, h5.turn.size, h5.box⟩ | exact ⟨_, rfl, h.turn.size, h5.fill h.turn.size hLs hgs hb1 q0 q1 q2 q3⟩
  case rest =>
    obtain ⟨IB, rfl, hIB, h2⟩ := hcut
    clear h hd
    have heq := fun W => run_eql_map_nil (P := Ybad.prog) W 118 38 4 none Ybad.underlying118
    have l0 := h2.l0
    have l1 := h2.l1
    have l2 := h2.l2
    have a0 := h2.a0
    have a1 := h2.a1
    have a2 := h2.a2
    have a3 := h2.a3
    go_wp2_with fail
    clear l0 l1 l2 a0 a1 a2 a3 heq
    replace h2 := h2.step ((Turn.refl [] wc).drew)
    have hS : (fun w' : World => w'.cell? ⟨LB, 1, none⟩ = some (.slice (some ⟨g, 0, none⟩) n c) ∧ w'.cell? ⟨IB, 0, none⟩ = some (.string ⟨#[]⟩) ∧ w'.cell? ⟨IB, 1, none⟩ = some (.string ⟨#[]⟩) ∧ w'.cell? ⟨IB, 2, none⟩ = some (.int .u16 0) ∧ w'.cell? ⟨IB, 3, none⟩ = some (.int .u16 ci)) wc.drew := ⟨h2.l1, h2.a0, h2.a1, h2.a2, h2.a3⟩
    refine region_picks (fun w' => w'.cell? ⟨LB, 1, none⟩ = some (.slice (some ⟨g, 0, none⟩) n c) ∧ w'.cell? ⟨IB, 0, none⟩ = some (.string ⟨#[]⟩) ∧ w'.cell? ⟨IB, 1, none⟩ = some (.string ⟨#[]⟩) ∧ w'.cell? ⟨IB, 2, none⟩ = some (.int .u16 0) ∧ w'.cell? ⟨IB, 3, none⟩ = some (.int .u16 ci)) 12 (by kernel_rfl) ?_
    refine Picks.take [12] (i := 0) (v := ?v0) rfl (by kernel_rfl) (by kernel_rfl) (by kernel_rfl) (by kernel_rfl) (fun _ _ _ h => h) (Or.inl ⟨by rfl, ?y0⟩) hS ?r0
    case y0 => (intro w' hSw; (try dsimp only at hSw); go_simp <;> with_reducible rfl)
    case r0 =>
      simp only [List.getElem_toArray, List.getElem_cons_succ, List.getElem_cons_zero, Act.put, List.setIfInBounds_toArray, List.set_cons_zero, List.set_cons_succ]
      refine Picks.take [12] (i := 1) (v := ?v1) rfl (by kernel_rfl) (by kernel_rfl) (by kernel_rfl) (by kernel_rfl) (fun _ _ _ h => h) (Or.inl ⟨by rfl, ?y1⟩) hS ?r1
      case y1 => (intro w' hSw; (try dsimp only at hSw); go_simp <;> with_reducible rfl)
      case r1 =>
        simp only [List.getElem_toArray, List.getElem_cons_succ, List.getElem_cons_zero, Act.put, List.setIfInBounds_toArray, List.set_cons_zero, List.set_cons_succ]
        refine Picks.take [12] (i := 2) (v := ?v2) rfl (by kernel_rfl) (by kernel_rfl) (by kernel_rfl) (by kernel_rfl) (fun _ _ _ h => h) (Or.inl ⟨by rfl, ?y2⟩) hS ?r2
        case y2 => (intro w' hSw; (try dsimp only at hSw); go_simp <;> with_reducible rfl)
        case r2 =>
          simp only [List.getElem_toArray, List.getElem_cons_succ, List.getElem_cons_zero, Act.put, List.setIfInBounds_toArray, List.set_cons_zero, List.set_cons_succ]
          refine Picks.take [12] (i := 3) (v := ?v3) rfl (by kernel_rfl) (by kernel_rfl) (by kernel_rfl) (by kernel_rfl) (fun _ _ _ h => h) (Or.inl ⟨by rfl, ?y3⟩) hS ?r3
          case y3 => (intro w' hSw; (try dsimp only at hSw); go_simp <;> with_reducible rfl)
          case r3 =>
            simp only [List.getElem_toArray, List.getElem_cons_succ, List.getElem_cons_zero, Act.put, List.setIfInBounds_toArray, List.set_cons_zero, List.set_cons_succ]
            refine Picks.take [12] (i := 4) (v := ?v4) rfl (by kernel_rfl) (by kernel_rfl) (by kernel_rfl) (by kernel_rfl) (fun _ _ _ h => h) (Or.inl ⟨by rfl, ?y4⟩) hS ?r4
            case y4 => (intro w' hSw; (try dsimp only at hSw); go_simp <;> with_reducible rfl)
            case r4 =>
              simp only [List.getElem_toArray, List.getElem_cons_succ, List.getElem_cons_zero, Act.put, List.setIfInBounds_toArray, List.set_cons_zero, List.set_cons_succ]
              refine Picks.take [12] (i := 5) (v := ?v5) rfl (by kernel_rfl) (by kernel_rfl) (by kernel_rfl) (by kernel_rfl) (fun _ _ _ h => h) (Or.inl ⟨by rfl, ?y5⟩) hS ?r5
              case y5 => (intro w' hSw; (try dsimp only at hSw); go_simp <;> with_reducible rfl)
              case r5 =>
                simp only [List.getElem_toArray, List.getElem_cons_succ, List.getElem_cons_zero, Act.put, List.setIfInBounds_toArray, List.set_cons_zero, List.set_cons_succ]
                refine Picks.take [12] (i := 6) (v := ?v6) rfl (by kernel_rfl) (by kernel_rfl) (by kernel_rfl) (by kernel_rfl) (fun _ _ _ h => h) (Or.inl ⟨by rfl, ?y6⟩) hS ?r6
                case y6 => (intro w' hSw; (try dsimp only at hSw); go_simp <;> with_reducible rfl)
                case r6 =>
                  simp only [List.getElem_toArray, List.getElem_cons_succ, List.getElem_cons_zero, Act.put, List.setIfInBounds_toArray, List.set_cons_zero, List.set_cons_succ]
                  refine Picks.one (i := 7) (by kernel_rfl) rfl (by rfl) (fun K hK => ?_)
                  go_simp
                  have h3 := h2.step ((Turn.refl [] _).alloc (.cells #[.string ⟨#[]⟩, .string ⟨#[]⟩, .int .u16 0, .int .u16 ci] 38))
                  refine hK _ _ (fun _ => ⟨h3.l1, h3.a0, h3.a1, h3.a2, h3.a3⟩) ?_
                  clear hK K hS
                  have hnew := news_alloc wc.drew [.string ⟨#[]⟩, .string ⟨#[]⟩, .int .u16 0, .int .u16 ci] 38
                  have hbase' : base ≤ wc.heap.size := Nat.le_trans hbase h2.turn.size
                  refine Picks.one (i := 8) (by kernel_rfl) rfl (by rfl) (fun K hK => ?_)
                  refine wp_append_lies _ (.tmp 23) (.tmp 25) 34 (by rfl) base 38 i0 _ 4 40 Ybad.underlying34 hi0 hz0 hz1 hz2 rfl (by decide) (.slice (some ⟨g, 0, none⟩) n c) n (cidCells ks) (by rfl) h3.own ⟨wc.heap.size, 0, none⟩ 1 1 [.string ⟨#[]⟩, .string ⟨#[]⟩, .int .u16 0, .int .u16 ci] (by rfl) (by rfl) hnew (by simp [Value.oneCell']) (by omega) (by unfold maxLen; omega) (by omega) (by simp <;> omega) (wc.heap.size + 1) (by simp) ?_
                  intro g' cap w3 hown3 hgrow hat hlt
                  have t3 : Turn [g] (wc.drew.alloc (.cells #[.string ⟨#[]⟩, .string ⟨#[]⟩, .int .u16 0, .int .u16 ci] 38)) w3 := (Turn.refl [g] _).grown hgrow (fun k hk => by simp [Value.ownBlock] at hk; simp [hk])
                  have nL : LB ∉ [g] := by simpa using hLg
                  have nI : IB ∉ [g] := by simp; omega
                  have l0 := (t3.cell (lt_of_cell h3.l0) nL).trans h3.l0
                  have l1 := (t3.cell (lt_of_cell h3.l1) nL).trans h3.l1
                  have l2 := (t3.cell (lt_of_cell h3.l2) nL).trans h3.l2
                  have z1 := (t3.frozen (lt_of_cell h3.l1) nL).trans h3.z1
                  have b0 := (t3.cell (lt_of_cell h3.a0) nI).trans h3.a0
                  have b1 := (t3.cell (lt_of_cell h3.a1) nI).trans h3.a1
                  have b2 := (t3.cell (lt_of_cell h3.a2) nI).trans h3.a2
                  have b3 := (t3.cell (lt_of_cell h3.a3) nI).trans h3.a3
                  have tw : Turn [LB, g] w w3 := h3.turn.trans (t3.mono (by simp))
                  have hg' : g' = g ∨ w.heap.size ≤ g' := by
                    rcases hat with h | h
                    · left; simpa [Value.ownBlock] using h.symm
                    · right; have := h2.turn.size; simp at this; omega
                  rw [← cidCells_snoc] at hown3
                  refine hK _ _ (fun _ => ⟨l1, b0, b1, b2, b3⟩) ?_
                  clear hK K
                  refine Picks.one (i := 9) (by kernel_rfl) rfl (by rfl) (fun K hK => ?_)
                  go_simp
                  refine hK _ _ (fun _ => ⟨l1, b0, b1, b2, b3⟩) ?_
                  clear hK K
                  refine Picks.one (i := 10) (by kernel_rfl) rfl (by rfl) (fun K hK => ?_)
                  go_simp
                  refine hK _ _ (fun _ => ⟨l1, b0, b1, b2, b3⟩) ?_
                  clear hK K
                  refine Picks.one (i := 11) (by kernel_rfl) rfl (by rfl) (fun K hK => ?_)
                  go_simp
                  refine hK _ _ (fun _ => ⟨l1, b0, b1, b2, b3⟩) ?_
                  clear hK K
                  refine Picks.one (i := 12) (by kernel_rfl) rfl (by rfl) (fun K hK => ?_)
                  go_simp
                  refine hK _ _ (fun h => absurd rfl h) ?_
                  clear hK K
                  refine Picks.done (by kernel_rfl) ?_ _
                  refine NoPanic.normal ?_
                  go_wp2
                  have tf : Turn [LB] w3 (w3.setCell ⟨LB, 1, none⟩ (.slice (some ⟨g', 0, none⟩) (n + 1) cap)) := (Turn.refl [LB] w3).setCell (by simp) _
                  refine bodyPost_ret (results_none rfl _ _ _) rfl ⟨rfl, g', cap, ?_, World.cell?_setCell_same _ _ _ l1, ?_, ?_, own_turn hown3 tf (fun k hk => ?_), tw.trans (tf.mono (by simp)), hg'⟩
                  · rw [World.cell?_setCell_other _ _ _ _ (by simp)]; exact l0
                  · rw [World.cell?_setCell_other _ _ _ _ (by simp)]; exact l2
                  · rw [World.frozen?_setCell]; exact z1
                  · have : k = g' := by simpa [blk] using hk
                    simp; omega
end Go.Proofs.YbulkccjsDoor.H
