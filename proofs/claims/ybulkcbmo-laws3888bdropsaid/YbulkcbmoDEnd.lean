import Derived.Test.YbulkcbmoDLem
import Derived.WalkKit
import Derived.WalkSpells
import Derived.WalkLawsBesides
import Derived.Deep.RegionHeld3
import Derived.Deep.RegionWith
import Derived.Deep.DrawnRows
import Derived.Deep.AppendLies
import Derived.Deep.CutRange
import Derived.Deep.DeepCutAuto
import Derived.Deep.CutBlock
import Derived.Laws.BitsAllLaws
import Derived.Deep.Draws
namespace Go.Proofs.Ybulkcbmo.D
open Go.RowKit
set_option linter.unusedSimpArgs false
set_option linter.unusedVariables false
set_option linter.unnecessarySimpa false
attribute [local go_sem ↓] Go.wp_at_zero Go.wp_at_succ


theorem acts_all {s3 id oth : Int} {m3 : Option Nat} {es2 es3 : List (Int × Value)} {bp : Bool} {po : Option Addr} {pn pc r2 : Nat} (hK : Kind s3 id m3 es2 es3 bp po pn pc) (hpn : pn ≤ 11) (hoi : oth ≠ id) (hmm : ∀ q, m3 = some q → q ≠ r2) (D : Nat) (X : Value) (wd : Bool) :
    ∃ es2' es3' r, Acts D id (some r2) m3 (put es2 oth X) es3 es2' es3' bp po pn pc wd r ∧ look es2' id = none ∧ look es3' id = (if wd then some (sv true (.slice none 0 0)) else none) ∧ look es2' oth = some X ∧ r = (if wd then 96 else 0) - (if s3 = 0 then 0 else 96) := by
  have hio : id ≠ oth := Ne.symm hoi
  rcases hK with ⟨rfl, rfl, rfl, rfl, rfl, rfl, rfl, rfl⟩ | ⟨rfl, rfl, rfl, rfl, rfl, h0⟩ | ⟨rfl, ⟨r3, rfl⟩, rfl, rfl, rfl, rfl, rfl, rfl⟩
  · have l2 : look (put [] oth X) id = none := by simp [look, put, at?, hoi]
    have l3 : look (put [] oth X) oth = some X := by simp [look, put, at?]
    cases wd with
    | false =>
      refine ⟨_, [], 0, ⟨fun W hd => slot_none D id _ _ _ _ W hd l2 rfl, fun W hd => (set_UN D id _ _ _ _ W hd l2 rfl).mono ?_⟩, l2, by simp [look, at?], l3, by simp⟩
      rintro e w' ⟨rfl, ht, hd'⟩
      exact ⟨rfl, ht, _, hd'⟩
    | true =>
      refine ⟨_, put [] id (sv true (.slice none 0 0)), 96, ⟨fun W hd => slot_none D id _ _ _ _ W hd l2 rfl, fun W hd => (set_UX D id _ _ W hd l2 rfl).mono ?_⟩, l2, by simp [look, put, at?], l3, by simp⟩
      rintro e w' ⟨rfl, ht, q, _, hd'⟩
      exact ⟨rfl, ht, _, hd'⟩
  · have l1 : look (put [(id, sv false (.slice po pn pc))] oth X) id = some (sv false (.slice po pn pc)) := by simp [look, put, at?, List.findIdx?_cons, hio]
    have l2 : look (del (put [(id, sv false (.slice po pn pc))] oth X) id) id = none := by simp [look, put, del, at?, List.findIdx?_cons, hio, hoi]
    have l3 : look (del (put [(id, sv false (.slice po pn pc))] oth X) id) oth = some X := by simp [look, put, del, at?, List.findIdx?_cons, hio, hoi]
    cases wd with
    | false =>
      refine ⟨_, [], -96, ⟨fun W hd => slot_at2 D id false po pn pc _ _ _ _ W hd l1, fun W hd => (set_HN D id r2 _ _ _ po pn pc h0 (by omega) W hd l1 (by simp)).mono ?_⟩, l2, by simp [look, at?], l3, by simp⟩
      rintro e w' ⟨rfl, ht, hd'⟩
      exact ⟨rfl, ht, _, hd'⟩
    | true =>
      refine ⟨_, put [] id (sv true (.slice none 0 0)), 0, ⟨fun W hd => slot_at2 D id false po pn pc _ _ _ _ W hd l1, fun W hd => (set_HX D id r2 _ po pn pc h0 (by omega) W hd l1).mono ?_⟩, l2, by simp [look, put, at?], l3, by simp⟩
      rintro e w' ⟨rfl, ht, q, _, hd'⟩
      exact ⟨rfl, ht, _, hd'⟩
  · have l2 : look (put [] oth X) id = none := by simp [look, put, at?, hoi]
    have l3 : look (put [] oth X) oth = some X := by simp [look, put, at?]
    have l4 : look [(id, sv true (.slice none 0 0))] id = some (sv true (.slice none 0 0)) := by simp [look, at?]
    have hne : ∀ q, some r2 = some q → q ≠ r3 := fun q e => by cases e; exact Ne.symm (hmm r3 rfl)
    cases wd with
    | false =>
      refine ⟨_, del [(id, sv true (.slice none 0 0))] id, -96, ⟨fun W hd => slot_at3 D id true none 0 0 _ _ _ _ W hd l2 l4, fun W hd => (set_WN D id _ r3 _ _ W hd l2 l4 hne).mono ?_⟩, l2, by simp [look, del, at?], l3, by simp⟩
      rintro e w' ⟨rfl, ht, hd'⟩
      exact ⟨rfl, ht, _, hd'⟩
    | true =>
      refine ⟨_, put [(id, sv true (.slice none 0 0))] id (sv true (.slice none 0 0)), 0, ⟨fun W hd => slot_at3 D id true none 0 0 _ _ _ _ W hd l2 l4, fun W hd => (set_WX D id _ r3 _ _ W hd l2 l4 hne).mono ?_⟩, l2, by simp [look, put, at?], l3, by simp⟩
      rintro e w' ⟨rfl, ht, hd'⟩
      exact ⟨rfl, ht, _, hd'⟩

/-- All that the law reads behind the call of dropHeld. -/
structure EndW (w W : World) (S C M PA OA OS : Nat) (id kept pre : Int) (base : Nat) (uo : Option Addr) (uc : Nat) (us hs : List Nat) (m2 m3 : Option Nat) (es2 es3 : List (Int × Value)) (bp : Bool) (po : Option Addr) (pn pc j g cap : Nat) : Prop where
  m12 : W.cell? ⟨M, 12, none⟩ = some (.int .u64 pre)
  s7 : W.cell? ⟨S, 7, none⟩ = some (.int .i64 kept)
  st : ∀ i, 11 ≤ i → i ≤ 18 → W.cell? ⟨S, i, none⟩ = some (.int .u64 0)
  s19 : W.cell? ⟨S, 19, none⟩ = some (.pointer (some ⟨C, 0, none⟩))
  c3 : W.cell? ⟨C, 3, none⟩ = some (.slice (some ⟨g, 0, none⟩) 1 cap)
  gs : ∀ t, t < 7 → W.cell? ⟨g, t, none⟩ = ([.int .u16 id, .pointer none, .int .u64 0, .int .i64 0, .pointer none, .bool bp, .slice po pn pc] : List Value)[t]?
  c5 : W.cell? ⟨C, 5, none⟩ = some (.slice uo (j + pn) uc)
  own : W.ownsRow base 42 1 (.slice uo (j + pn) uc) (j + pn) (ptrs us ++ ptrs hs)
  pri : W.ownsRow PA 42 1 (.slice (some ⟨PA, 0, none⟩) j j) j (ptrs us)
  held : Held W po pn pc (ptrs hs)
  dom : Dom W w.heap.size m2 m3 es2 es3
  pv : W.cell? ⟨w.heap.size + 1, 4, none⟩ = some (.bool bp)
  oa : W.cell? ⟨OA, 0, none⟩ = some (.pointer (some ⟨OS, 0, none⟩))
  bel : Below w.heap.size w W

theorem EndW.turn {w W W' : World} {S C M PA OA OS : Nat} {id kept pre : Int} {base : Nat} {uo : Option Addr} {uc : Nat} {us hs : List Nat} {m2 m3 : Option Nat} {es2 es3 : List (Int × Value)} {bp : Bool} {po : Option Addr} {pn pc j g cap : Nat}
    (h : EndW w W S C M PA OA OS id kept pre base uo uc us hs m2 m3 es2 es3 bp po pn pc j g cap) (ht : Turn [] W W') : EndW w W' S C M PA OA OS id kept pre base uo uc us hs m2 m3 es2 es3 bp po pn pc j g cap := by
  have hc : ∀ {p : Addr} {v : Value}, W.cell? p = some v → W'.cell? p = some v := fun {p v} e => (ht.cell (lt_of_cell e) (by simp)).trans e
  refine ⟨hc h.m12, hc h.s7, fun i h1 h2 => hc (h.st i h1 h2), hc h.s19, hc h.c3, fun t ht' => ?_, hc h.c5, own_turn h.own ht (by simp), own_turn h.pri ht (by simp), held_turn h.held ht (by simp), h.dom.turn ht (by simp) (by simp) (by simp), hc h.pv, hc h.oa, h.bel.trans (ht.toBelow (by simp) (Nat.le_of_lt (lt_of_cell h.dom.c0)))⟩
  have h0 := h.gs t ht'
  have h0' : t < ([.int .u16 id, .pointer none, .int .u64 0, .int .i64 0, .pointer none, .bool bp, .slice po pn pc] : List Value).length := by simpa using ht'
  rw [List.getElem?_eq_getElem h0'] at h0 ⊢
  exact hc h0

theorem fin_of {w V w7 : World} {S C M PA OA OS : Nat} {id kept pre : Int} {uo : Option Addr} {uc : Nat} {us hs : List Nat} {r2 : Nat} {m3 : Option Nat} {es2 es3 es2' es3' : List (Int × Value)} {bp : Bool} {po : Option Addr} {pn pc j : Nat}
    (hB : Base w V C po pn pc hs (some r2) m3 es2 es3 bp) (hS : Sc V C (C + 1) uo j uc us) (ho : V.cell? ⟨OA, 0, none⟩ = some (.pointer (some ⟨OS, 0, none⟩))) (hP : V.ownsRow PA 42 1 (.slice (some ⟨PA, 0, none⟩) j j) j (ptrs us))
    (hOA : OA < C) (hPA : C + 1 ≤ PA) (hu : ∀ q ∈ blk uo, q < PA) (hPS : PA < S) (hSM : S < M) (s19 : V.cell? ⟨S, 19, none⟩ = some (.pointer (some ⟨C, 0, none⟩))) (st : ∀ i, 11 ≤ i → i ≤ 18 → V.cell? ⟨S, i, none⟩ = some (.int .u64 0))
    (H : DPost V w7 w.heap.size S C M id kept pre (C + 1) uo j (ptrs us) (ptrs hs) (some r2) m3 es2' es3' bp po pn pc) :
    ∃ g cap q uo' uc', EndW w w7 S C M PA OA OS id kept (IntKind.u64.wrap (pre + pn)) (C + 1) uo' uc' us hs (some r2) q es2' es3' bp po pn pc j g cap := by
  obtain ⟨g, cap, q, uo', uc', h1, h2, h3, h4, h5, h6, h7, h8, h9⟩ := H
  have hds := hB.ds
  have hOD : OA ≠ w.heap.size := fun e => by
    have := hB.dom.c0
    rw [← e] at this
    rw [this] at ho
    cases ho
  have hsz : w.heap.size < V.heap.size := lt_of_cell hB.dom.c0
  have hub := own_base hS.own
  have hxe : ∀ k ∈ exs w.heap.size (some r2) m3, w.heap.size ≤ k ∧ k < C ∧ k ≠ w.heap.size + 1 := fun k hk => by
    rcases List.mem_cons.1 hk with h | h
    · omega
    · have a := hB.lt k (by simp only [List.mem_append] at h ⊢; exact Or.inr h)
      have b := hB.lo k (by simp only [List.mem_append] at h ⊢; exact Or.inr h)
      omega
  have hin : ∀ k, k ∈ M :: S :: C :: (blk uo ++ exs w.heap.size (some r2) m3) → k = M ∨ k = S ∨ k = C ∨ k ∈ blk uo ∨ k ∈ exs w.heap.size (some r2) m3 := fun k hk => by simpa only [List.mem_cons, List.mem_append] using hk
  have lP : PA < V.heap.size := (own_base hP PA (by simp [blk])).2
  have nP : PA ∉ M :: S :: C :: (blk uo ++ exs w.heap.size (some r2) m3) := fun hm => by
    rcases hin _ hm with h | h | h | h | h
    · omega
    · omega
    · omega
    · have := hu _ h; omega
    · have := hxe _ h; omega
  have nO : OA ∉ M :: S :: C :: (blk uo ++ exs w.heap.size (some r2) m3) := fun hm => by
    rcases hin _ hm with h | h | h | h | h
    · omega
    · omega
    · omega
    · have := (hub _ h).1; omega
    · exact notin_exs hB.dom ho hOD h
  have nV : w.heap.size + 1 ∉ M :: S :: C :: (blk uo ++ exs w.heap.size (some r2) m3) := fun hm => by
    rcases hin _ hm with h | h | h | h | h
    · omega
    · omega
    · omega
    · have := (hub _ h).1; omega
    · have := hxe _ h; omega
  have np : ∀ k ∈ blk po, k ∉ M :: S :: C :: (blk uo ++ exs w.heap.size (some r2) m3) := fun k hk hm => by
    have a := hB.lt k (by simp [hk])
    have b := hB.lo k (by simp [hk])
    rcases hin _ hm with h | h | h | h | h
    · omega
    · omega
    · omega
    · have := (hub _ h).1; omega
    · rcases List.mem_cons.1 h with h | h
      · omega
      · rcases List.mem_append.1 h with h | h
        · have h' : k = r2 := by simpa [eq_comm] using h
          exact held_ne hB.held hB.dom.i2 k hk h'
        · cases m3 with
          | none => simp at h
          | some r3 =>
            have h' : k = r3 := by simpa [eq_comm] using h
            exact held_ne hB.held hB.dom.i3 k hk h'
  have nPA : ∀ k ∈ blk (some ⟨PA, 0, none⟩), k ∉ M :: S :: C :: (blk uo ++ exs w.heap.size (some r2) m3) := fun k hk => by
    have e : k = PA := by simpa [blk] using hk
    rw [e]; exact nP
  refine ⟨g, cap, q, uo', uc', h1, h2, fun i a b => (h9 i (by omega)).trans (st i a b), (h9 19 (by omega)).trans s19, h3, h4, h5, h6, own_turn hP h8 nPA, held_turn hB.held h8 np, h7, (h8.cell (lt_of_cell hB.pv) nV).trans hB.pv, (h8.cell (lt_of_cell ho) nO).trans ho, hB.bel.trans (h8.toBelow (fun k hk => ?_) (Nat.le_of_lt hsz))⟩
  rcases hin _ hk with h | h | h | h | h
  · omega
  · omega
  · omega
  · have := (hub _ h).1; omega
  · exact (hxe _ h).1

/-- The session, the Message and next as the law lays them, ahead of the call. -/
def lay (wr : World) (D C : Nat) (kept pre : Int) (wd : Bool) : World :=
  (((wr.alloc (.map #[{ key := .int .u32 0, val := .pointer (some ⟨D, 0, none⟩), born := 0 }] 1)).alloc
    (.cells #[.int .i64 0, .int .i64 0, .int .i64 0, .int .i64 0, .nilFunc, .bool false, .map (some wr.heap.size), .int .i64 kept, .slice none 0 0, .int .i64 0, .int .i64 0, .int .u64 0, .int .u64 0, .int .u64 0, .int .u64 0, .int .u64 0, .int .u64 0, .int .u64 0, .int .u64 0, .pointer (some ⟨C, 0, none⟩)] 68)).alloc
    (.cells #[.pointer (some ⟨D, 0, none⟩), .int .u16 0, .int .u32 0, .int .u32 0, .int .u32 0, .int .u64 0, .int .i64 0, .pointer none, .int .u64 0, .int .u64 0, .int .u64 0, .int .u64 0, .int .u64 pre, .int .u64 0, .int .u64 0, .int .u64 0, .int .i64 0, .int .i64 0] 71)).alloc
    (.cells #[.pointer none, .int .u64 0, .int .i64 0, .pointer none, .bool wd, .slice none 0 0] 41)

theorem drop_law {w wr : World} {C PA OA OS : Nat} {id oth s3 kept pre : Int} {wd : Bool} {uo : Option Addr} {uc : Nat} {us hs : List Nat} {r2 : Nat} {m3 : Option Nat} {es2 es3 : List (Int × Value)} {bp : Bool} {po : Option Addr} {pn pc j : Nat}
    (hB : Base w wr C po pn pc hs (some r2) m3 (put es2 oth (sv false (.slice (some ⟨OA, 0, none⟩) 1 1))) es3 bp) (hS : Sc wr C (C + 1) uo j uc us) (ho : wr.cell? ⟨OA, 0, none⟩ = some (.pointer (some ⟨OS, 0, none⟩))) (hP : wr.ownsRow PA 42 1 (.slice (some ⟨PA, 0, none⟩) j j) j (ptrs us))
    (hOA : OA < C) (hPA : C + 1 ≤ PA) (hu : ∀ q ∈ blk uo, q < PA) (hj : j ≤ 4) (hK : Kind s3 id m3 es2 es3 bp po pn pc) (hpn : pn ≤ 11) (hoi : oth ≠ id) :
    Calls Yba.prog 7 #[.pointer (some ⟨wr.heap.size + 1, 0, none⟩), .pointer (some ⟨wr.heap.size + 1 + 1, 0, none⟩), .int .u16 id, sv wd (.slice none 0 0)] (lay wr w.heap.size C kept pre wd) fun e w7 => e = .returned (.tuple #[]) ∧
      ∃ g cap q uo' uc' es2' es3', EndW w w7 (wr.heap.size + 1) C (wr.heap.size + 1 + 1) PA OA OS id (IntKind.i64.wrap (kept + ((if wd then 96 else 0) - (if s3 = 0 then 0 else 96)))) (IntKind.u64.wrap (pre + pn)) (C + 1) uo' uc' us hs (some r2) q es2' es3' bp po pn pc j g cap ∧
        look es2' id = none ∧ look es3' id = (if wd then some (sv true (.slice none 0 0)) else none) ∧ look es2' oth = some (sv false (.slice (some ⟨OA, 0, none⟩) 1 1)) := by
  have t1 : Turn [] wr (lay wr w.heap.size C kept pre wd) := ((((Turn.refl [] wr).alloc _).alloc _).alloc _).alloc _
  have zs : (lay wr w.heap.size C kept pre wd).heap.size = wr.heap.size + 4 := by simp [lay]
  have hPAw : PA < wr.heap.size := (own_base hP PA (by simp [blk])).2
  have hCw : C < wr.heap.size := lt_of_cell hS.u3
  have hDw := hB.ds
  have hub := own_base hS.own
  obtain ⟨es2', es3', r, HA, hl2, hl3, hlo, hr⟩ := acts_all hK hpn hoi (fun q e => hB.mm r2 q rfl e) w.heap.size (sv false (.slice (some ⟨OA, 0, none⟩) 1 1)) wd
  have hBv := hB.step t1 (by simp)
  have hSv := hS.step t1 (by simp) (by simp)
  have hov := (t1.cell (lt_of_cell ho) (by simp)).trans ho
  have hPv := own_turn hP t1 (by simp)
  have s19 : (lay wr w.heap.size C kept pre wd).cell? ⟨wr.heap.size + 1, 19, none⟩ = some (.pointer (some ⟨C, 0, none⟩)) := by unfold lay; go_simp
  have s7 : (lay wr w.heap.size C kept pre wd).cell? ⟨wr.heap.size + 1, 7, none⟩ = some (.int .i64 kept) := by unfold lay; go_simp
  have zs7 : (lay wr w.heap.size C kept pre wd).frozen? ⟨wr.heap.size + 1, 7, none⟩ = false := by unfold lay; go_simp
  have mm0 : (lay wr w.heap.size C kept pre wd).cell? ⟨wr.heap.size + 1 + 1, 0, none⟩ = some (.pointer (some ⟨w.heap.size, 0, none⟩)) := by unfold lay; go_simp
  have mm12 : (lay wr w.heap.size C kept pre wd).cell? ⟨wr.heap.size + 1 + 1, 12, none⟩ = some (.int .u64 pre) := by unfold lay; go_simp
  have zm12 : (lay wr w.heap.size C kept pre wd).frozen? ⟨wr.heap.size + 1 + 1, 12, none⟩ = false := by unfold lay; go_simp
  have st : ∀ i, 11 ≤ i → i ≤ 18 → (lay wr w.heap.size C kept pre wd).cell? ⟨wr.heap.size + 1, i, none⟩ = some (.int .u64 0) := fun i a b => by
    obtain rfl | rfl | rfl | rfl | rfl | rfl | rfl | rfl : i = 11 ∨ i = 12 ∨ i = 13 ∨ i = 14 ∨ i = 15 ∨ i = 16 ∨ i = 17 ∨ i = 18 := by omega
    all_goals (unfold lay; go_simp)
  refine (drop_any w.heap.size (wr.heap.size + 1) C (wr.heap.size + 1 + 1) id kept pre (C + 1) uo j uc (ptrs us) (ptrs hs) (some r2) m3 _ es3 es2' es3' bp po pn pc wd r HA _ ⟨by omega, by omega, by omega, by omega, by omega, by omega, fun k hk => ?_, fun k hk => ?_, fun k hk hk' => ?_⟩ (by omega) (by omega) (by omega) ⟨by omega, by omega, by omega, by omega, fun k hk => ?_⟩ ⟨hBv.dom, s19, s7, zs7, hSv.u3, hSv.zu3, hSv.c5, hSv.zc5, mm0, mm12, zm12, hSv.own, hBv.held⟩).mono ?_
  · have := hub k hk; omega
  · have := hB.lt k (by simp [hk]); have := hB.lo k (by simp [hk]); omega
  · have := hB.lt k (by simp [hk']); have := hub k hk; omega
  · have := hub k hk; omega
  rintro e w7 ⟨rfl, H⟩
  subst hr
  obtain ⟨g, cap, q, uo', uc', hE⟩ := fin_of hBv hSv hov hPv hOA hPA hu (by omega) (by omega) s19 st H
  exact ⟨rfl, g, cap, q, uo', uc', es2', es3', hE, hl2, hl3, hlo⟩

theorem turn_drewN (W : World) (n : Nat) : Turn [] W (W.drewN n) := ⟨rfl, rfl, rfl, Nat.le_refl _, fun _ _ _ => rfl⟩

section
variable {w W : World} {S C M PA OA OS : Nat} {id kept pre : Int} {base : Nat} {uo : Option Addr} {uc : Nat} {us hs : List Nat} {m2 m3 : Option Nat} {es2 es3 : List (Int × Value)} {bp : Bool} {po : Option Addr} {pn pc j g cap : Nat}
theorem EndW.un (h : EndW w W S C M PA OA OS id kept pre base uo uc us hs m2 m3 es2 es3 bp po pn pc j g cap) (hus : us.length = j) (k : Nat) (hk : k < j) :
    ∃ hb b, uo = some ⟨hb, 0, none⟩ ∧ W.cell? ⟨hb, k, none⟩ = some (.pointer (some ⟨b, 0, none⟩)) ∧ W.cell? ⟨PA, k, none⟩ = some (.pointer (some ⟨b, 0, none⟩)) := by
  obtain ⟨hb, e⟩ := own_some h.own (by omega)
  refine ⟨hb, us[k], e, ?_, ?_⟩
  · have := h.own
    rw [e] at this
    rw [this.cellAt k (by omega), List.getElem?_append_left (by rw [ptrs_length]; omega), ptrs_at us k (by omega)]
  · rw [h.pri.cellAt k (by omega), ptrs_at us k (by omega)]
theorem EndW.hl (h : EndW w W S C M PA OA OS id kept pre base uo uc us hs m2 m3 es2 es3 bp po pn pc j g cap) (hus : us.length = j) (k : Nat) (hk : k < pn) :
    ∃ hb ad b, uo = some ⟨hb, 0, none⟩ ∧ po = some ad ∧ W.cell? ⟨hb, j + k, none⟩ = some (.pointer (some ⟨b, 0, none⟩)) ∧ W.cell? (ad.add k) = some (.pointer (some ⟨b, 0, none⟩)) := by
  obtain ⟨hb, e⟩ := own_some h.own (by omega)
  rcases h.held with ⟨_, h0, _⟩ | ⟨ad, rfl, h1, h2, h3, h4, h5⟩
  · omega
  · have hl : k < hs.length := by rw [ptrs_length] at h3; omega
    refine ⟨hb, ad, hs[k], e, rfl, ?_, h4 k _ (ptrs_at hs k hl)⟩
    have := h.own
    rw [e] at this
    rw [this.cellAt (j + k) (by omega), List.getElem?_append_right (by rw [ptrs_length]; omega), ptrs_length, hus, Nat.add_sub_cancel_left, ptrs_at hs k hl]
end

end Go.Proofs.Ybulkcbmo.D
