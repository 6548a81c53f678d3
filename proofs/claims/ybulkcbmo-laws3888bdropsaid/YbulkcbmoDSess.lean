import Derived.Test.YbulkcbmoDSet
import Derived.Test.YbulkcbmoDFin
import Derived.WalkKit
import Derived.WalkSpells
import Derived.WalkLawsBesides
import Derived.Deep.RegionHeld3
import Derived.Deep.RegionWith
import Derived.Deep.DrawnRows
import Derived.Deep.AppendLies
namespace Go.Proofs.Ybulkcbmo.D
open Go.RowKit
set_option linter.unusedSimpArgs false
set_option linter.unusedVariables false
attribute [local go_sem ↓] Go.wp_at_zero Go.wp_at_succ

/-- What (*domain).slot answers, and what (*domain).setSlot does, at a domain that is Dom. -/
structure Acts (D : Nat) (id : Int) (m2 m3 : Option Nat) (es2 es3 es2' es3' : List (Int × Value)) (bp : Bool) (po : Option Addr) (pn pc : Nat) (bs : Bool) (r : Int) : Prop where
  slot : ∀ W, Dom W D m2 m3 es2 es3 → Calls Yba.prog 9 #[.pointer (some ⟨D, 0, none⟩), .int .u16 id] W fun e w' => e = .returned (sv bp (.slice po pn pc)) ∧ Below W.heap.size W w'
  set : ∀ W, Dom W D m2 m3 es2 es3 → Calls Yba.prog 12 #[.pointer (some ⟨D, 0, none⟩), .int .u16 id, sv bs (.slice none 0 0)] W fun e w' => e = .returned (.int .i64 r) ∧ Turn (exs D m2 m3) W w' ∧ ∃ q, Dom w' D m2 q es2' es3'

theorem info74 : (Yba.prog.info? 74).map (fun i => (i.zero, i.size, i.bytes)) = some (some (.agg #[.int .u16 0, .pointer none, .int .u64 0, .int .i64 0, .pointer none, .bool false, .slice none 0 0]), 7, 72) := by kernel_rfl

theorem news_alloc (w : World) (l : List Value) (t : TypeId) : ∀ j u, l[j]? = some u → (w.alloc (.cells l.toArray t)).cell? (Addr.add ⟨w.heap.size, 0, none⟩ j) = some u := by
  intro j u h
  rw [Addr.add_lit, Nat.zero_add]
  have e : (w.alloc (.cells l.toArray t)).heap[w.heap.size]? = some (.cells l.toArray t) := (MapKept.heap_alloc w _).1
  simp only [World.cell?, e]
  simpa using h

/-- Where a walk of (*Session).setSlot stands. -/
structure Ss (ex : List Nat) (w W : World) (D S C A : Nat) (kept : Value) (u : Value) (m2 m3 : Option Nat) (es2 es3 : List (Int × Value)) (bs : Bool) : Prop where
  two : Two W A A bs (.slice none 0 0) bs (.slice none 0 0)
  dom : Dom W D m2 m3 es2 es3
  s19 : W.cell? ⟨S, 19, none⟩ = some (.pointer (some ⟨C, 0, none⟩))
  s7 : W.cell? ⟨S, 7, none⟩ = some kept
  zs7 : W.frozen? ⟨S, 7, none⟩ = false
  u3 : W.cell? ⟨C, 3, none⟩ = some u
  zu3 : W.frozen? ⟨C, 3, none⟩ = false
  turn : Turn ex w W
  sS : ∀ j, j ≠ 7 → W.cell? ⟨S, j, none⟩ = w.cell? ⟨S, j, none⟩
  sC : ∀ j, j ≠ 3 → W.cell? ⟨C, j, none⟩ = w.cell? ⟨C, j, none⟩

section
variable {ex : List Nat} {w W V W' : World} {D S C A : Nat} {kept u : Value} {m2 m3 : Option Nat} {es2 es3 : List (Int × Value)} {bs : Bool}
theorem Ss.step (h : Ss ex w W D S C A kept u m2 m3 es2 es3 bs) {ex' : List Nat} (ht : Turn ex' W W') (hex : ∀ i ∈ ex', i ∈ ex ∨ w.heap.size ≤ i) (hA : A ∉ ex') (hS : S ∉ ex') (hC : C ∉ ex') {q : Option Nat} {fs2 fs3 : List (Int × Value)} (hd : Dom W' D m2 q fs2 fs3) :
    Ss ex w W' D S C A kept u m2 q fs2 fs3 bs := by
  have lS : S < W.heap.size := lt_of_cell h.s19
  have lC : C < W.heap.size := lt_of_cell h.u3
  exact ⟨h.two.turn ht hA hA, hd, (ht.cell lS hS).trans h.s19, (ht.cell lS hS).trans h.s7, (ht.frozen lS hS).trans h.zs7, (ht.cell lC hC).trans h.u3, (ht.frozen lC hC).trans h.zu3, h.turn.fresh ht hex,
    fun j hj => (ht.cell lS hS).trans (h.sS j hj), fun j hj => (ht.cell lC hC).trans (h.sC j hj)⟩
theorem Ss.drew (h : Ss ex w W D S C A kept u m2 m3 es2 es3 bs) : Ss ex w W.drew D S C A kept u m2 m3 es2 es3 bs :=
  h.step (ex' := []) ((Turn.refl [] W).drew) (by simp) (by simp) (by simp) (by simp) ⟨h.dom.c0, h.dom.c1, h.dom.c2, h.dom.c3, h.dom.i2, h.dom.i3, h.dom.z2, h.dom.z3⟩
theorem Ss.next (h : Ss ex w W D S C A kept u m2 m3 es2 es3 bs) (hbel : Below V.heap.size V W') (hv : V = W ∨ V = W.drew := by first | exact Or.inl rfl | exact Or.inr rfl) : Ss ex w W' D S C A kept u m2 m3 es2 es3 bs := by
  rcases hv with rfl | rfl
  · exact h.step (ex' := []) (Turn.below hbel) (by simp) (by simp) (by simp) (by simp) (h.dom.below hbel)
  · exact h.drew.step (ex' := []) (Turn.below hbel) (by simp) (by simp) (by simp) (by simp) (h.drew.dom.below hbel)
theorem Ss.alloc (h : Ss ex w W D S C A kept u m2 m3 es2 es3 bs) (o : Obj) : Ss ex w (W.alloc o) D S C A kept u m2 m3 es2 es3 bs := h.next ((Below.refl _ _).alloc (Nat.le_refl _) o)
/-- Behind the store into the scratch's undo list. -/
theorem Ss.undo (h : Ss ex w W D S C A kept u m2 m3 es2 es3 bs) (v : Value) (hC : C ∈ ex) (hCA : A ≠ C) (hCS : S ≠ C) (hCD : C ≠ D) : Ss ex w (W.setCell ⟨C, 3, none⟩ v) D S C A kept v m2 m3 es2 es3 bs := by
  have tt : Turn [C] W (W.setCell ⟨C, 3, none⟩ v) := (Turn.refl [C] W).setCell (by simp) _
  have lS : S < W.heap.size := lt_of_cell h.s19
  refine ⟨h.two.turn tt (by simpa using hCA) (by simpa using hCA), h.dom.turn tt (by simpa using Ne.symm hCD) (fun r e => ?_) (fun r e => ?_), (tt.cell lS (by simpa using hCS)).trans h.s19, (tt.cell lS (by simpa using hCS)).trans h.s7, (tt.frozen lS (by simpa using hCS)).trans h.zs7,
    World.cell?_setCell_same _ _ _ h.u3, by rw [World.frozen?_setCell]; exact h.zu3, h.turn.fresh tt (by simpa using Or.inl hC), fun j hj => (tt.cell lS (by simpa using hCS)).trans (h.sS j hj), fun j hj => ?_⟩
  · subst e; simpa using Ne.symm (ne_map h.dom.i2 h.u3)
  · subst e; simpa using Ne.symm (ne_map h.dom.i3 h.u3)
  · rw [World.cell?_setCell_other _ _ _ _ (by simp)]; exact h.sC j hj
/-- Behind the store into the session's kept. -/
theorem Ss.keep (h : Ss ex w W D S C A kept u m2 m3 es2 es3 bs) (v : Value) (hS : S ∈ ex) (hSA : A ≠ S) (hCS : S ≠ C) (hSD : S ≠ D) : Ss ex w (W.setCell ⟨S, 7, none⟩ v) D S C A v u m2 m3 es2 es3 bs := by
  have tt : Turn [S] W (W.setCell ⟨S, 7, none⟩ v) := (Turn.refl [S] W).setCell (by simp) _
  have lC : C < W.heap.size := lt_of_cell h.u3
  refine ⟨h.two.turn tt (by simpa using hSA) (by simpa using hSA), h.dom.turn tt (by simpa using Ne.symm hSD) (fun r e => ?_) (fun r e => ?_), ?_, World.cell?_setCell_same _ _ _ h.s7, by rw [World.frozen?_setCell]; exact h.zs7,
    (tt.cell lC (by simpa using Ne.symm hCS)).trans h.u3, (tt.frozen lC (by simpa using Ne.symm hCS)).trans h.zu3, h.turn.fresh tt (by simpa using Or.inl hS), fun j hj => ?_, fun j hj => (tt.cell lC (by simpa using Ne.symm hCS)).trans (h.sC j hj)⟩
  · subst e; simpa using Ne.symm (ne_map h.dom.i2 h.s7)
  · subst e; simpa using Ne.symm (ne_map h.dom.i3 h.s7)
  · rw [World.cell?_setCell_other _ _ _ _ (by simp)]; exact h.s19
  · rw [World.cell?_setCell_other _ _ _ _ (by simp)]; exact h.sS j hj
end

/-- What (*Session).setSlot leaves. -/
def SPost (w w' : World) (D S C : Nat) (id kept : Int) (m2 m3 : Option Nat) (es2' es3' : List (Int × Value)) (bp : Bool) (po : Option Addr) (pn pc : Nat) : Prop :=
      ∃ g cap q, w.heap.size ≤ g ∧ w'.cell? ⟨S, 7, none⟩ = some (.int .i64 kept) ∧ w'.cell? ⟨C, 3, none⟩ = some (.slice (some ⟨g, 0, none⟩) 1 cap) ∧
        (∀ j, j < 7 → w'.cell? ⟨g, j, none⟩ = ([.int .u16 id, .pointer none, .int .u64 0, .int .i64 0, .pointer none, .bool bp, .slice po pn pc] : List Value)[j]?) ∧
        Dom w' D m2 q es2' es3' ∧ Turn (S :: C :: exs D m2 m3) w w' ∧ (∀ j, j ≠ 7 → w'.cell? ⟨S, j, none⟩ = w.cell? ⟨S, j, none⟩) ∧ (∀ j, j ≠ 3 → w'.cell? ⟨C, j, none⟩ = w.cell? ⟨C, j, none⟩)

set_option maxRecDepth 100000 in
set_option maxHeartbeats 4000000 in
theorem sset_any (D S C : Nat) (id kept : Int) (m2 m3 : Option Nat) (es2 es3 es2' es3' : List (Int × Value)) (bp : Bool) (po : Option Addr) (pn pc : Nat) (bs : Bool) (r : Int) (H : Acts D id m2 m3 es2 es3 es2' es3' bp po pn pc bs r)
    (w : World) (hd : Dom w D m2 m3 es2 es3) (hSD : S ≠ D) (hCD : C ≠ D) (hSC : S ≠ C)
    (s19 : w.cell? ⟨S, 19, none⟩ = some (.pointer (some ⟨C, 0, none⟩))) (s7 : w.cell? ⟨S, 7, none⟩ = some (.int .i64 kept)) (zs7 : w.frozen? ⟨S, 7, none⟩ = false)
    (u3 : w.cell? ⟨C, 3, none⟩ = some (.slice none 0 0)) (zu3 : w.frozen? ⟨C, 3, none⟩ = false) :
    Calls Yba.prog 10 #[.pointer (some ⟨S, 0, none⟩), .pointer (some ⟨D, 0, none⟩), .int .u16 id, sv bs (.slice none 0 0)] w fun e w' => e = .returned (.tuple #[]) ∧
      SPost w w' D S C id (IntKind.i64.wrap (kept + r)) m2 m3 es2' es3' bp po pn pc := by
  obtain ⟨i0, hi, hz0, hz1, hz2⟩ := info_parts info74
  have lS : S < w.heap.size := lt_of_cell s19
  have lC : C < w.heap.size := lt_of_cell u3
  have lD : D < w.heap.size := lt_of_cell hd.c0
  have hs : Ss (S :: C :: exs D m2 m3) w (w.alloc (.cells #[.pointer none, .int .u64 0, .int .i64 0, .pointer none, .bool bs, .slice none 0 0] 41)) D S C w.heap.size (.int .i64 kept) (.slice none 0 0) m2 m3 es2 es3 bs := by
    have hb : Below w.heap.size w (w.alloc (.cells #[.pointer none, .int .u64 0, .int .i64 0, .pointer none, .bool bs, .slice none 0 0] 41)) := (Below.refl _ _).alloc (Nat.le_refl _) _
    refine ⟨⟨?_, ?_, ?_, ?_, ?_, ?_, ?_, ?_, ?_, ?_, ?_, ?_⟩, hd.below hb, (hb.cell lS).trans s19, (hb.cell lS).trans s7, (hb.frozen lS).trans zs7, (hb.cell lC).trans u3, (hb.frozen lC).trans zu3, Turn.below hb, fun j _ => hb.cell lS, fun j _ => hb.cell lC⟩ <;> exact World.cell?_alloc_new _ _ _ _
  go_enter Yba.func10, Yba.ntmps10
  go_wp2
  clear hd s19 s7 zs7 u3 zu3
  generalize w.alloc (.cells #[.pointer none, .int .u64 0, .int .i64 0, .pointer none, .bool bs, .slice none 0 0] 41) = W at *
  obtain ⟨A, hA⟩ : ∃ A, A = w.heap.size := ⟨_, rfl⟩
  rw [← hA] at hs ⊢
  have HA : Hid (A = w.heap.size) := hA
  clear hA
  have hS : (fun w' : World => w'.cell? ⟨S, 19, none⟩ = some (.pointer (some ⟨C, 0, none⟩)) ∧ w'.cell? ⟨C, 3, none⟩ = some (.slice none 0 0)) W.drew := ⟨hs.drew.s19, hs.drew.u3⟩
  refine region_picks (fun w' => w'.cell? ⟨S, 19, none⟩ = some (.pointer (some ⟨C, 0, none⟩)) ∧ w'.cell? ⟨C, 3, none⟩ = some (.slice none 0 0)) 20 (by kernel_rfl) ?_
  refine Picks.take [20] (i := 0) (v := ?v0) rfl (by kernel_rfl) (by kernel_rfl) (by kernel_rfl) (by kernel_rfl) (fun _ _ _ h => h) (Or.inl ⟨by rfl, ?y0⟩) hS ?r0
  case y0 => (intro w' hSw; (try dsimp only at hSw); go_simp <;> with_reducible rfl)
  case r0 =>
    simp only [List.getElem_toArray, List.getElem_cons_succ, List.getElem_cons_zero, Act.put, List.setIfInBounds_toArray, List.set_cons_zero, List.set_cons_succ]
    refine Picks.take [20] (i := 1) (v := ?v1) rfl (by kernel_rfl) (by kernel_rfl) (by kernel_rfl) (by kernel_rfl) (fun _ _ _ h => h) (Or.inl ⟨by rfl, ?y1⟩) hS ?r1
    case y1 => (intro w' hSw; (try dsimp only at hSw); go_simp <;> with_reducible rfl)
    case r1 =>
      simp only [List.getElem_toArray, List.getElem_cons_succ, List.getElem_cons_zero, Act.put, List.setIfInBounds_toArray, List.set_cons_zero, List.set_cons_succ]
      refine Picks.take [20] (i := 2) (v := ?v2) rfl (by kernel_rfl) (by kernel_rfl) (by kernel_rfl) (by kernel_rfl) (fun _ _ _ h => h) (Or.inl ⟨by rfl, ?y2⟩) hS ?r2
      case y2 => (intro w' hSw; (try dsimp only at hSw); go_simp <;> with_reducible rfl)
      case r2 =>
        simp only [List.getElem_toArray, List.getElem_cons_succ, List.getElem_cons_zero, Act.put, List.setIfInBounds_toArray, List.set_cons_zero, List.set_cons_succ]
        refine Picks.take [20] (i := 3) (v := ?v3) rfl (by kernel_rfl) (by kernel_rfl) (by kernel_rfl) (by kernel_rfl) (fun _ _ _ h => h) (Or.inl ⟨by rfl, ?y3⟩) hS ?r3
        case y3 => (intro w' hSw; (try dsimp only at hSw); go_simp <;> with_reducible rfl)
        case r3 =>
          simp only [List.getElem_toArray, List.getElem_cons_succ, List.getElem_cons_zero, Act.put, List.setIfInBounds_toArray, List.set_cons_zero, List.set_cons_succ]
          refine Picks.take [20] (i := 4) (v := ?v4) rfl (by kernel_rfl) (by kernel_rfl) (by kernel_rfl) (by kernel_rfl) (fun _ _ _ h => h) (Or.inl ⟨by rfl, ?y4⟩) hS ?r4
          case y4 => (intro w' hSw; (try dsimp only at hSw); go_simp <;> with_reducible rfl)
          case r4 =>
            simp only [List.getElem_toArray, List.getElem_cons_succ, List.getElem_cons_zero, Act.put, List.setIfInBounds_toArray, List.set_cons_zero, List.set_cons_succ]
            refine Picks.take [20] (i := 5) (v := ?v5) rfl (by kernel_rfl) (by kernel_rfl) (by kernel_rfl) (by kernel_rfl) (fun _ _ _ h => h) (Or.inl ⟨by rfl, ?y5⟩) hS ?r5
            case y5 => (intro w' hSw; (try dsimp only at hSw); go_simp <;> with_reducible rfl)
            case r5 =>
              simp only [List.getElem_toArray, List.getElem_cons_succ, List.getElem_cons_zero, Act.put, List.setIfInBounds_toArray, List.set_cons_zero, List.set_cons_succ]
              refine Picks.take [20] (i := 6) (v := ?v6) rfl (by kernel_rfl) (by kernel_rfl) (by kernel_rfl) (by kernel_rfl) (fun _ _ _ h => h) (Or.inl ⟨by rfl, ?y6⟩) hS ?r6
              case y6 => (intro w' hSw; (try dsimp only at hSw); go_simp <;> with_reducible rfl)
              case r6 =>
                simp only [List.getElem_toArray, List.getElem_cons_succ, List.getElem_cons_zero, Act.put, List.setIfInBounds_toArray, List.set_cons_zero, List.set_cons_succ]
                refine Picks.take [20] (i := 7) (v := ?v7) rfl (by kernel_rfl) (by kernel_rfl) (by kernel_rfl) (by kernel_rfl) (fun _ _ _ h => h) (Or.inl ⟨by rfl, ?y7⟩) hS ?r7
                case y7 => (intro w' hSw; (try dsimp only at hSw); go_simp <;> with_reducible rfl)
                case r7 =>
                  simp only [List.getElem_toArray, List.getElem_cons_succ, List.getElem_cons_zero, Act.put, List.setIfInBounds_toArray, List.set_cons_zero, List.set_cons_succ]
                  refine Picks.take [20] (i := 8) (v := ?v8) rfl (by kernel_rfl) (by kernel_rfl) (by kernel_rfl) (by kernel_rfl) (fun _ _ _ h => h) (Or.inl ⟨by rfl, ?y8⟩) hS ?r8
                  case y8 => (intro w' hSw; (try dsimp only at hSw); go_simp <;> with_reducible rfl)
                  case r8 =>
                    simp only [List.getElem_toArray, List.getElem_cons_succ, List.getElem_cons_zero, Act.put, List.setIfInBounds_toArray, List.set_cons_zero, List.set_cons_succ]
                    refine Picks.take [20] (i := 9) (v := ?v9) rfl (by kernel_rfl) (by kernel_rfl) (by kernel_rfl) (by kernel_rfl) (fun _ _ _ h => h) (Or.inl ⟨by rfl, ?y9⟩) hS ?r9
                    case y9 => (intro w' hSw; (try dsimp only at hSw); go_simp <;> with_reducible rfl)
                    case r9 =>
                      simp only [List.getElem_toArray, List.getElem_cons_succ, List.getElem_cons_zero, Act.put, List.setIfInBounds_toArray, List.set_cons_zero, List.set_cons_succ]
                      refine Picks.take [20] (i := 10) (v := ?v10) rfl (by kernel_rfl) (by kernel_rfl) (by kernel_rfl) (by kernel_rfl) (fun _ _ _ h => h) (Or.inl ⟨by rfl, ?y10⟩) hS ?r10
                      case y10 => (intro w' hSw; (try dsimp only at hSw); go_simp <;> with_reducible rfl)
                      case r10 =>
                        simp only [List.getElem_toArray, List.getElem_cons_succ, List.getElem_cons_zero, Act.put, List.setIfInBounds_toArray, List.set_cons_zero, List.set_cons_succ]
                        refine Picks.take [20] (i := 11) (v := ?v11) rfl (by kernel_rfl) (by kernel_rfl) (by kernel_rfl) (by kernel_rfl) (fun _ _ _ h => h) (Or.inl ⟨by rfl, ?y11⟩) hS ?r11
                        case y11 => (intro w' hSw; (try dsimp only at hSw); go_simp <;> with_reducible rfl)
                        case r11 =>
                          simp only [List.getElem_toArray, List.getElem_cons_succ, List.getElem_cons_zero, Act.put, List.setIfInBounds_toArray, List.set_cons_zero, List.set_cons_succ]
                          refine Picks.take [20] (i := 12) (v := ?v12) rfl (by kernel_rfl) (by kernel_rfl) (by kernel_rfl) (by kernel_rfl) (fun _ _ _ h => h) (Or.inl ⟨by rfl, ?y12⟩) hS ?r12
                          case y12 => (intro w' hSw; (try dsimp only at hSw); go_simp <;> with_reducible rfl)
                          case r12 =>
                            simp only [List.getElem_toArray, List.getElem_cons_succ, List.getElem_cons_zero, Act.put, List.setIfInBounds_toArray, List.set_cons_zero, List.set_cons_succ]
                            refine Picks.take [20] (i := 13) (v := ?v13) rfl (by kernel_rfl) (by kernel_rfl) (by kernel_rfl) (by kernel_rfl) (fun _ _ _ h => h) (Or.inl ⟨by rfl, ?y13⟩) hS ?r13
                            case y13 => (intro w' hSw; (try dsimp only at hSw); go_simp <;> with_reducible rfl)
                            case r13 =>
                              simp only [List.getElem_toArray, List.getElem_cons_succ, List.getElem_cons_zero, Act.put, List.setIfInBounds_toArray, List.set_cons_zero, List.set_cons_succ]
                              refine Picks.one (i := 14) (by kernel_rfl) rfl (by rfl) (fun K hK => ?_)
                              go_simp
                              refine (H.slot _ hs.drew.dom).mono ?_
                              rintro e w2 ⟨rfl, hb⟩
                              replace hs := hs.next hb
                              refine hK _ _ (fun _ => ⟨hs.s19, hs.u3⟩) ?_
                              clear hK K hb hS
                              refine Picks.one (i := 15) (by kernel_rfl) rfl (by rfl) (fun K hK => ?_)
                              go_simp
                              refine hK _ _ (fun _ => ⟨hs.s19, hs.u3⟩) ?_
                              clear hK K
                              refine Picks.one (i := 16) (by kernel_rfl) rfl (by rfl) (fun K hK => ?_)
                              go_simp
                              refine hK _ _ (fun _ => ⟨(hs.alloc _).s19, (hs.alloc _).u3⟩) ?_
                              clear hK K
                              have hsz : w.heap.size ≤ w2.heap.size := hs.turn.size
                              replace hs := hs.alloc (.cells #[.int .u16 id, .pointer none, .int .u64 0, .int .i64 0, .pointer none, .bool bp, .slice po pn pc] 74)
                              refine Picks.one (i := 17) (by kernel_rfl) rfl (by rfl) (fun K hK => ?_)
                              refine wp_append_lies _ (.tmp 18) (.tmp 24) 51 (by rfl) w.heap.size 74 i0 _ 7 72 Yba.underlying51 hi hz0 hz1 hz2 rfl (by decide) (.slice none 0 0) 0 [] (by rfl) (World.ownsRow_nil _ _ _ _) ⟨w2.heap.size, 0, none⟩ 1 1 [.int .u16 id, .pointer none, .int .u64 0, .int .i64 0, .pointer none, .bool bp, .slice po pn pc] (by rfl) rfl (news_alloc _ _ _) (by intro u hu; simp at hu; rcases hu with rfl | rfl | rfl | rfl | rfl | rfl | rfl <;> rfl) (by omega) (by unfold maxLen; omega) (by omega) (by simp; omega) (w2.heap.size + 1) (by simp) ?_
                              intro g cap w3 hown hgrow hat hlt
                              obtain rfl : g = w2.heap.size + 1 := by rcases hat with h | h; exact absurd h (by simp [Value.ownBlock]); exact h
                              replace hs := hs.next ((Below.refl _ _).grown hgrow (Nat.le_refl _) (by simp [Value.ownBlock]))
                              have hrow : ∀ j, j < 7 → w3.cell? ⟨w2.heap.size + 1, j, none⟩ = ([.int .u16 id, .pointer none, .int .u64 0, .int .i64 0, .pointer none, .bool bp, .slice po pn pc] : List Value)[j]? := fun j hj => hown.cellAt j (by omega)
                              have hgz : w.heap.size ≤ w2.heap.size + 1 := by omega
                              clear hown hgrow hat hlt
                              generalize w2.heap.size + 1 = g at *
                              refine hK _ _ (fun _ => ⟨hs.s19, hs.u3⟩) ?_
                              clear hK K
                              refine Picks.one (i := 18) (by kernel_rfl) rfl (by rfl) (fun K hK => ?_)
                              go_simp
                              refine hK _ _ (fun _ => ⟨hs.s19, hs.u3⟩) ?_
                              clear hK K
                              refine Picks.one (i := 19) (by kernel_rfl) rfl (by rfl) (fun K hK => ?_)
                              go_simp
                              refine hK _ _ (fun _ => ⟨hs.s19, hs.u3⟩) ?_
                              clear hK K
                              have c3 := hs.u3
                              have z3 := hs.zu3
                              refine Picks.one (i := 20) (by kernel_rfl) rfl (by rfl) (fun K hK => ?_)
                              go_simp
                              refine hK _ _ (fun h => absurd rfl h) ?_
                              clear hK K c3 z3
                              refine Picks.done (by kernel_rfl) ?_ _
                              refine NoPanic.normal ?_
                              have nA : A ≠ S ∧ A ≠ C ∧ A ≠ D := by have := HA.out; omega
                              replace hs := hs.undo (.slice (some ⟨g, 0, none⟩) 1 cap) (by simp) nA.2.1 hSC hCD
                              have hrow2 : ∀ j, j < 7 → (w3.setCell ⟨C, 3, none⟩ (.slice (some ⟨g, 0, none⟩) 1 cap)).cell? ⟨g, j, none⟩ = ([.int .u16 id, .pointer none, .int .u64 0, .int .i64 0, .pointer none, .bool bp, .slice po pn pc] : List Value)[j]? := fun j hj => by rw [World.cell?_setCell_other _ _ _ _ (by simp)]; exact hrow j hj
                              clear hrow
                              go_wp2
                              generalize w3.setCell ⟨C, 3, none⟩ (.slice (some ⟨g, 0, none⟩) 1 cap) = W4 at *
                              have hS : (fun w' : World => w'.cell? ⟨S, 7, none⟩ = some (.int .i64 kept) ∧ w'.cell? ⟨A, 0, none⟩ = some (.pointer none) ∧ w'.cell? ⟨A, 1, none⟩ = some (.int .u64 0) ∧ w'.cell? ⟨A, 2, none⟩ = some (.int .i64 0) ∧ w'.cell? ⟨A, 3, none⟩ = some (.pointer none) ∧ w'.cell? ⟨A, 4, none⟩ = some (.bool bs) ∧ w'.cell? ⟨A, 5, none⟩ = some (.slice none 0 0)) W4.drew := by replace hs := hs.drew; exact ⟨hs.s7, hs.two.a0, hs.two.a1, hs.two.a2, hs.two.a3, hs.two.a4, hs.two.a5⟩
                              refine region_picks (fun w' => w'.cell? ⟨S, 7, none⟩ = some (.int .i64 kept) ∧ w'.cell? ⟨A, 0, none⟩ = some (.pointer none) ∧ w'.cell? ⟨A, 1, none⟩ = some (.int .u64 0) ∧ w'.cell? ⟨A, 2, none⟩ = some (.int .i64 0) ∧ w'.cell? ⟨A, 3, none⟩ = some (.pointer none) ∧ w'.cell? ⟨A, 4, none⟩ = some (.bool bs) ∧ w'.cell? ⟨A, 5, none⟩ = some (.slice none 0 0)) 11 (by kernel_rfl) ?_
                              refine Picks.take [11] (i := 0) (v := ?x0) rfl (by kernel_rfl) (by kernel_rfl) (by kernel_rfl) (by kernel_rfl) (fun _ _ _ h => h) (Or.inl ⟨by rfl, ?z0⟩) hS ?s0
                              case z0 => (intro w' hSw; (try dsimp only at hSw); go_simp <;> with_reducible rfl)
                              case s0 =>
                                simp only [List.getElem_toArray, List.getElem_cons_succ, List.getElem_cons_zero, Act.put, List.setIfInBounds_toArray, List.set_cons_zero, List.set_cons_succ]
                                refine Picks.take [11] (i := 1) (v := ?x1) rfl (by kernel_rfl) (by kernel_rfl) (by kernel_rfl) (by kernel_rfl) (fun _ _ _ h => h) (Or.inl ⟨by rfl, ?z1⟩) hS ?s1
                                case z1 => (intro w' hSw; (try dsimp only at hSw); go_simp <;> with_reducible rfl)
                                case s1 =>
                                  simp only [List.getElem_toArray, List.getElem_cons_succ, List.getElem_cons_zero, Act.put, List.setIfInBounds_toArray, List.set_cons_zero, List.set_cons_succ]
                                  refine Picks.take [11] (i := 2) (v := ?x2) rfl (by kernel_rfl) (by kernel_rfl) (by kernel_rfl) (by kernel_rfl) (fun _ _ _ h => h) (Or.inl ⟨by rfl, ?z2⟩) hS ?s2
                                  case z2 => (intro w' hSw; (try dsimp only at hSw); go_simp <;> with_reducible rfl)
                                  case s2 =>
                                    simp only [List.getElem_toArray, List.getElem_cons_succ, List.getElem_cons_zero, Act.put, List.setIfInBounds_toArray, List.set_cons_zero, List.set_cons_succ]
                                    refine Picks.take [11] (i := 3) (v := ?x3) rfl (by kernel_rfl) (by kernel_rfl) (by kernel_rfl) (by kernel_rfl) (fun _ _ _ h => h) (Or.inl ⟨by rfl, ?z3⟩) hS ?s3
                                    case z3 => (intro w' hSw; (try dsimp only at hSw); go_simp <;> with_reducible rfl)
                                    case s3 =>
                                      simp only [List.getElem_toArray, List.getElem_cons_succ, List.getElem_cons_zero, Act.put, List.setIfInBounds_toArray, List.set_cons_zero, List.set_cons_succ]
                                      refine Picks.take [11] (i := 4) (v := ?x4) rfl (by kernel_rfl) (by kernel_rfl) (by kernel_rfl) (by kernel_rfl) (fun _ _ _ h => h) (Or.inl ⟨by rfl, ?z4⟩) hS ?s4
                                      case z4 => (intro w' hSw; (try dsimp only at hSw); go_simp <;> with_reducible rfl)
                                      case s4 =>
                                        simp only [List.getElem_toArray, List.getElem_cons_succ, List.getElem_cons_zero, Act.put, List.setIfInBounds_toArray, List.set_cons_zero, List.set_cons_succ]
                                        refine Picks.take [11] (i := 5) (v := ?x5) rfl (by kernel_rfl) (by kernel_rfl) (by kernel_rfl) (by kernel_rfl) (fun _ _ _ h => h) (Or.inl ⟨by rfl, ?z5⟩) hS ?s5
                                        case z5 => (intro w' hSw; (try dsimp only at hSw); go_simp <;> with_reducible rfl)
                                        case s5 =>
                                          simp only [List.getElem_toArray, List.getElem_cons_succ, List.getElem_cons_zero, Act.put, List.setIfInBounds_toArray, List.set_cons_zero, List.set_cons_succ]
                                          refine Picks.take [11] (i := 6) (v := ?x6) rfl (by kernel_rfl) (by kernel_rfl) (by kernel_rfl) (by kernel_rfl) (fun _ _ _ h => h) (Or.inl ⟨by rfl, ?z6⟩) hS ?s6
                                          case z6 => (intro w' hSw; (try dsimp only at hSw); go_simp <;> with_reducible rfl)
                                          case s6 =>
                                            simp only [List.getElem_toArray, List.getElem_cons_succ, List.getElem_cons_zero, Act.put, List.setIfInBounds_toArray, List.set_cons_zero, List.set_cons_succ]
                                            refine Picks.one (i := 7) (by kernel_rfl) rfl (by rfl) (fun K hK => ?_)
                                            go_simp
                                            refine (H.set _ hs.drew.dom).mono ?_
                                            rintro e w5 ⟨rfl, ht5, q, hd5⟩
                                            have n1 := notin_exs hs.dom hs.s7 hSD
                                            have n2 := notin_exs hs.dom hs.u3 hCD
                                            have n3 := notin_exs hs.dom hs.two.a0 nA.2.2
                                            have n4 : g ∉ exs D m2 m3 := notin_exs hs.dom (v := .int .u16 id) (a := ⟨g, 0, none⟩) (hrow2 0 (by omega)) (show g ≠ D by omega)
                                            have hrow5 : ∀ j, j < 7 → w5.cell? ⟨g, j, none⟩ = ([.int .u16 id, .pointer none, .int .u64 0, .int .i64 0, .pointer none, .bool bp, .slice po pn pc] : List Value)[j]? := fun j hj => (ht5.cell (a := W4.drew) (p := ⟨g, j, none⟩) (lt_of_cell (w := W4.drew) (v := .int .u16 id) (a := ⟨g, 0, none⟩) (hrow2 0 (by omega))) n4).trans (hrow2 j hj)
                                            replace hs := hs.drew.step ht5 (fun i hi => Or.inl (List.mem_cons_of_mem _ (List.mem_cons_of_mem _ hi))) n3 n1 n2 hd5
                                            refine hK _ _ (fun _ => ⟨hs.s7, hs.two.a0, hs.two.a1, hs.two.a2, hs.two.a3, hs.two.a4, hs.two.a5⟩) ?_
                                            clear hK K hS hrow2 ht5 hd5 n4
                                            refine Picks.one (i := 8) (by kernel_rfl) rfl (by rfl) (fun K hK => ?_)
                                            go_simp
                                            refine hK _ _ (fun _ => ⟨hs.s7, hs.two.a0, hs.two.a1, hs.two.a2, hs.two.a3, hs.two.a4, hs.two.a5⟩) ?_
                                            clear hK K
                                            refine Picks.one (i := 9) (by kernel_rfl) rfl (by rfl) (fun K hK => ?_)
                                            go_simp
                                            refine hK _ _ (fun _ => ⟨hs.s7, hs.two.a0, hs.two.a1, hs.two.a2, hs.two.a3, hs.two.a4, hs.two.a5⟩) ?_
                                            clear hK K
                                            refine Picks.one (i := 10) (by kernel_rfl) rfl (by rfl) (fun K hK => ?_)
                                            go_simp
                                            refine hK _ _ (fun _ => ⟨hs.s7, hs.two.a0, hs.two.a1, hs.two.a2, hs.two.a3, hs.two.a4, hs.two.a5⟩) ?_
                                            clear hK K
                                            have c7 := hs.s7
                                            have z7 := hs.zs7
                                            refine Picks.one (i := 11) (by kernel_rfl) rfl (by rfl) (fun K hK => ?_)
                                            go_simp
                                            refine hK _ _ (fun h => absurd rfl h) ?_
                                            clear hK K c7 z7
                                            refine Picks.done (by kernel_rfl) ?_ _
                                            refine NoPanic.normal ?_
                                            replace hs := hs.keep (.int .i64 (IntKind.i64.wrap (kept + r))) (by simp) nA.1 hSC hSD
                                            go_wp2
                                            go_end0
                                            refine ⟨rfl, ?_⟩
                                            unfold SPost
                                            exact ⟨g, cap, q, hgz, hs.s7, hs.u3, fun j hj => by rw [World.cell?_setCell_other _ _ _ _ (by simp)]; exact hrow5 j hj, hs.dom, hs.turn, hs.sS, hs.sC⟩

end Go.Proofs.Ybulkcbmo.D
