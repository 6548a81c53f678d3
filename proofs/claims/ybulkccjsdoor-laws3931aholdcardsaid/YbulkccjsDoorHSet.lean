/-
  THE LAW's SET-UP: blocks of plain cells ('Blk'), the row of cells while it is filled ('Filled'), what the loop keeps ('SetUp'). No walk here, but for slices.Clone's.
-/
import Derived.Test.YbulkccjsDoorHState
namespace Go.Proofs.YbulkccjsDoor.H
open Go.RowKit
set_option linter.unusedSimpArgs false
set_option linter.unusedVariables false

/-- A block of m cells, none of them frozen. -/
def Blk (W : World) (g e m : Nat) : Prop := ∃ cur, W.heap[g]? = some (.cells cur e (0, 0)) ∧ cur.size = m

theorem Blk.of_own {W : World} {base e size n g : Nat} {xs : List Value} (h : W.ownsRow base e size (.slice (some ⟨g, 0, none⟩) n n) n xs) : Blk W g e (n * size) := by
  obtain ⟨h1, ⟨h, _⟩ | ⟨g', cap, cur, h2, h3, h4, h5, h6, h7, h8⟩⟩ := h
  · cases h
  · cases h2; exact ⟨cur, h4, h7⟩
theorem Blk.lt {W : World} {g e m : Nat} (h : Blk W g e m) : g < W.heap.size := by
  obtain ⟨cur, h1, _⟩ := h
  exact (Array.getElem?_eq_some_iff.1 h1).1
theorem Blk.cell {W : World} {g e m : Nat} (h : Blk W g e m) (o : Nat) (ho : o < m) : ∃ u, W.cell? ⟨g, o, none⟩ = some u := by
  obtain ⟨cur, h1, h2⟩ := h
  refine ⟨cur[o], ?_⟩
  simp [World.cell?, h1, h2, ho]
theorem Blk.free {W : World} {g e m : Nat} (h : Blk W g e m) (o : Nat) : W.frozen? ⟨g, o, none⟩ = false := by
  obtain ⟨cur, h1, h2⟩ := h
  simp [World.frozen?, h1]
theorem Blk.turn {W W' : World} {g e m : Nat} {ex : List Nat} (h : Blk W g e m) (ht : Turn ex W W') (hn : g ∉ ex) : Blk W' g e m := by
  have hl := h.lt
  obtain ⟨cur, h1, h2⟩ := h
  exact ⟨cur, (ht.block g hl hn).trans h1, h2⟩
theorem Blk.set {W : World} {g e m : Nat} (h : Blk W g e m) (p : Addr) (u : Value) : Blk (W.setCell p u) g e m := by
  by_cases hp : p.block = g
  · have hl := h.lt
    obtain ⟨cur, h1, h2⟩ := h
    subst hp
    have hg : W.heap[p.block] = .cells cur e (0, 0) := by
      rw [Array.getElem?_eq_getElem hl] at h1; exact Option.some.inj h1
    refine ⟨if p.spot.isSome then cur else cur.setIfInBounds p.off u, ?_, by split <;> simp [h2]⟩
    simp [World.setCell, Array.getElem?_modify, h1]
  · exact h.turn (ex := [p.block]) ((Turn.refl _ W).setCell (by simp) u) (by simpa using fun e => hp e.symm)

/-- The first cells of a row, while it is filled. -/
def Filled (W : World) (cb : Nat) (ks : List Int) : Prop := ∀ o u, (cidCells ks)[o]? = some u → W.cell? ⟨cb, o, none⟩ = some u

theorem Filled.turn {W W' : World} {cb : Nat} {ks : List Int} {ex : List Nat} (h : Filled W cb ks) (ht : Turn ex W W') (hn : cb ∉ ex) : Filled W' cb ks := fun o u hu => by
  have := h o u hu
  exact (ht.cell (lt_of_cell this) hn).trans this

theorem Filled.snoc {W : World} {cb m : Nat} {ks : List Int} (h : Filled W cb ks) (hB : Blk W cb 38 m) (hm : ks.length * 4 + 4 ≤ m) (z : Int) :
    Filled ((((W.setCell ⟨cb, ks.length * 4, none⟩ (.string ⟨#[]⟩)).setCell ⟨cb, ks.length * 4 + 1, none⟩ (.string ⟨#[]⟩)).setCell ⟨cb, ks.length * 4 + 2, none⟩ (.int .u16 0)).setCell ⟨cb, ks.length * 4 + 3, none⟩ (.int .u16 z)) cb (ks ++ [z]) := by
  intro o u hu
  rw [cidCells_snoc] at hu
  have hl := cidCells_length ks
  obtain ⟨u0, e0⟩ := hB.cell (ks.length * 4) (by omega)
  obtain ⟨u1, e1⟩ := hB.cell (ks.length * 4 + 1) (by omega)
  obtain ⟨u2, e2⟩ := hB.cell (ks.length * 4 + 2) (by omega)
  obtain ⟨u3, e3⟩ := hB.cell (ks.length * 4 + 3) (by omega)
  rcases Nat.lt_or_ge o (ks.length * 4) with ho | ho
  · rw [List.getElem?_append_left (by omega)] at hu
    rw [World.cell?_setCell_other _ _ _ _ (by simp <;> omega), World.cell?_setCell_other _ _ _ _ (by simp <;> omega), World.cell?_setCell_other _ _ _ _ (by simp <;> omega), World.cell?_setCell_other _ _ _ _ (by simp <;> omega)]
    exact h o u hu
  · rw [List.getElem?_append_right (by omega), hl] at hu
    have h4 : o - ks.length * 4 < 4 := by
      have := (List.getElem?_eq_some_iff.1 hu).1
      simpa using this
    have hcase : o = ks.length * 4 ∨ o = ks.length * 4 + 1 ∨ o = ks.length * 4 + 2 ∨ o = ks.length * 4 + 3 := by omega
    rcases hcase with rfl | rfl | rfl | rfl
    · simp at hu; subst hu; go_simp
    · simp at hu; subst hu; go_simp
    · simp at hu; subst hu; go_simp
    · simp at hu; subst hu; go_simp

theorem Filled.own {W : World} {cb : Nat} {zs : List Int} (h : Filled W cb zs) (hB : Blk W cb 38 (zs.length * 4)) (hn : zs.length ≤ 1024) : W.ownsRow 0 38 4 (.slice (some ⟨cb, 0, none⟩) zs.length zs.length) zs.length (cidCells zs) := by
  obtain ⟨cur, h1, h2⟩ := hB
  refine ⟨cidCells_length zs, .inr ⟨cb, zs.length, cur, rfl, Nat.zero_le _, h1, Nat.le_refl _, by unfold maxLen; omega, h2, ?_⟩⟩
  apply List.ext_getElem?
  intro o
  rcases Nat.lt_or_ge o (zs.length * 4) with ho | ho
  · have hl := cidCells_length zs
    have hu : (cidCells zs)[o]? = some (cidCells zs)[o] := List.getElem?_eq_getElem (by omega)
    have := h o _ hu
    simp only [World.cell?, h1] at this
    rw [List.getElem?_take, if_pos ho, hu]
    simpa using this
  · rw [List.getElem?_eq_none (by simp; omega), List.getElem?_eq_none (by rw [cidCells_length]; omega)]

set_option maxRecDepth 100000 in
/-- slices.Clone: where its block lies, too. -/
theorem clone_own (o : Option Addr) (n c : Nat) (zs : List Int) (w : World) (h : U16 w o n zs) (hn : n ≤ 1024) :
    Calls Ybad.prog 6 #[.slice o n c] w fun e w' => ∃ o' c', e = .returned (.slice o' n c') ∧ U16 w' o' n zs ∧ Below w.heap.size w w' ∧ ∀ k ∈ blk o', w.heap.size ≤ k ∧ k < w'.heap.size := by
  cases o with
  | none =>
    obtain rfl : n = 0 := by
      rcases h.2 with h | ⟨ad, h, _⟩
      · exact h
      · cases h
    have heq := Go.Lib.run_eql_slice_nil (P := Ybad.prog) w 23 31 none 0 c 0 0 Ybad.underlying23
    go_enter Ybad.func6, Ybad.ntmps6
    go_wp2
    go_ret
    exact ⟨none, _, rfl, h, Below.refl _ _, by simp [blk]⟩
  | some ad =>
    have heq := Go.Lib.run_eql_slice_nil (P := Ybad.prog) w 23 31 (some ad) n c 0 0 Ybad.underlying23
    by_cases h0 : n = 0
    · subst h0
      go_enter Ybad.func6, Ybad.ntmps6
      go_wp2
      go_ret
      exact ⟨some ⟨w.heap.size, 0, none⟩, 0, rfl, ⟨h.1, .inl rfl⟩, (Below.refl _ _).alloc (Nat.le_refl _) _, by simp [blk]⟩
    · obtain ⟨i0, hi0, hz0, hz1, hz2⟩ := info_parts info31
      obtain ⟨hl, h1 | ⟨ad', h1, h2⟩⟩ := h
      · omega
      · cases h1
        have hown : (w.alloc (.cells #[] 31)).ownsRow w.heap.size 31 1 (.slice (some ⟨w.heap.size, 0, none⟩) 0 0) 0 [] := by
          refine ⟨rfl, .inr ⟨w.heap.size, 0, #[], rfl, Nat.le_refl _, (MapKept.heap_alloc w _).1, ?_⟩⟩
          exact ⟨by omega, by unfold maxLen; omega, rfl, rfl⟩
        go_enter Ybad.func6, Ybad.ntmps6
        go_wp2_with (at_builtin; refine wpList_append_lies _ rfl (.tmp 5) (.tmp 6) 23 rfl w.heap.size 31 i0 (.int .u16 0) 1 2 Ybad.underlying23 hi0 hz0 hz1 hz2 rfl (by decide) (.slice (some ⟨w.heap.size, 0, none⟩) 0 0) 0 [] rfl hown ad n c (zs.map (.int .u16)) rfl (by simp [hl]) ?c1 ?c2 (by omega) (by unfold maxLen; omega) (by omega) (by simp) (w.heap.size + 1) (by simp) ?_)
        case c1 =>
          intro j u hj
          rw [List.getElem?_map] at hj
          obtain ⟨z, hz, rfl⟩ := Option.map_eq_some_iff.1 hj
          have hc := h2 j z hz
          exact (((Below.refl w.heap.size w).alloc (Nat.le_refl _) _).cell (lt_of_cell hc)).trans hc
        case c2 =>
          intro u hu
          obtain ⟨z, _, rfl⟩ := List.mem_map.1 hu
          rfl
        intro g cap w1 hown1 hgrow _ _
        go_wp2
        go_ret
        refine ⟨some ⟨g, 0, none⟩, cap, by simp, ⟨hl, .inr ⟨_, rfl, fun k u hu => ?_⟩⟩, ?_, own_base hown1⟩
        · have hkn : k < n := by
            have := (List.getElem?_eq_some_iff.1 hu).1
            omega
          rw [Addr.add_lit, Nat.zero_add, hown1.cellAt k (by simpa using hkn)]
          simp [hu]
        · exact ((Below.refl w.heap.size w).alloc (Nat.le_refl _) _).grown hgrow (by simp) (by simp [Value.ownBlock])

/-- One call of the input. -/
structure Arg where
  zs : List Int
  hs : List Int
  o1 : Option Addr
  c1 : Nat
  o2 : Option Addr
  c2 : Nat

structure ArgAt (w : World) (ad : Addr) (i : Nat) (a : Arg) : Prop where
  x1 : w.cell? (ad.add (i * 2)) = some (.slice a.o1 a.zs.length a.c1)
  x2 : w.cell? ⟨(ad.add (i * 2)).block, (ad.add (i * 2)).off + 1, none⟩ = some (.slice a.o2 a.hs.length a.c2)
  u1 : U16 w a.o1 a.zs.length a.zs
  u2 : U16 w a.o2 a.hs.length a.hs
  wz : ∀ z ∈ a.zs, wf16 z

theorem U16.below {w w' : World} {o : Option Addr} {n : Nat} {zs : List Int} (h : U16 w o n zs) (hB : Below w.heap.size w w') : U16 w' o n zs := h.turn (ex := []) (Turn.below hB) (by simp)
theorem ArgAt.below {w w' : World} {ad : Addr} {i : Nat} {a : Arg} (h : ArgAt w ad i a) (hB : Below w.heap.size w w') : ArgAt w' ad i a :=
  ⟨(hB.cell (lt_of_cell h.x1)).trans h.x1, (hB.cell (lt_of_cell h.x2)).trans h.x2, h.u1.below hB, h.u2.below hB, h.wz⟩

/-- What the set-up's loop keeps. -/
structure SetUp (CA SA OA n : Nat) (ar : Nat → Arg) (w W : World) (k : Nat) (d : Nat → Dat) (b : Nat → Nat) : Prop where
  todo : ∀ j, j < k → Todo CA W j (d j)
  dz : ∀ j, j < k → (d j).zs = (ar j).zs ∧ (d j).hs = (ar j).hs
  sa : ∀ j, j < k → W.cell? ⟨SA, j, none⟩ = some (.pointer (some ⟨(d j).S, 0, none⟩))
  oa : ∀ j, j < k → W.cell? ⟨OA, j, none⟩ = some (reqOf (d j).R)
  bC : Blk W CA 68 (n * 11)
  bS : Blk W SA 29 n
  bO : Blk W OA 52 n
  zS : ∀ j, j < k → b j ≤ (d j).S ∧ (d j).S < b (j + 1)
  zone : ∀ j, j < k → ∀ x ∈ (d j).rd, b j ≤ x ∧ x < b (j + 1) ∧ x ≠ (d j).S
  mono : ∀ j, b j ≤ b (j + 1)
  top : ∀ j, k ≤ j → b j = W.heap.size
  ca : w.heap.size ≤ CA ∧ CA < b 0
  saz : w.heap.size ≤ SA ∧ SA < b 0
  oaz : w.heap.size ≤ OA ∧ OA < b 0
  ne : CA ≠ SA ∧ CA ≠ OA ∧ SA ≠ OA
  below : Below w.heap.size w W

theorem SetUp.step {CA SA OA n : Nat} {ar : Nat → Arg} {w W W' : World} {k : Nat} {d : Nat → Dat} {b : Nat → Nat} (h : SetUp CA SA OA n ar w W k d b) (D : Dat) (ht : Turn [CA, SA, OA] W W')
    (hc : Rows1 CA k W W') (hs : ∀ o, o ≠ k → W'.cell? ⟨SA, o, none⟩ = W.cell? ⟨SA, o, none⟩) (ho : ∀ o, o ≠ k → W'.cell? ⟨OA, o, none⟩ = W.cell? ⟨OA, o, none⟩)
    (T : Todo CA W' k D) (hS : W'.cell? ⟨SA, k, none⟩ = some (.pointer (some ⟨D.S, 0, none⟩))) (hO : W'.cell? ⟨OA, k, none⟩ = some (reqOf D.R))
    (bC : Blk W' CA 68 (n * 11)) (bS : Blk W' SA 29 n) (bO : Blk W' OA 52 n) (zS : W.heap.size ≤ D.S ∧ D.S < W'.heap.size) (zr : ∀ x ∈ D.rd, W.heap.size ≤ x ∧ x < W'.heap.size ∧ x ≠ D.S) (dz : D.zs = (ar k).zs ∧ D.hs = (ar k).hs) :
    SetUp CA SA OA n ar w W' (k + 1) (fun j => if j = k then D else d j) (fun j => if j ≤ k then b j else W'.heap.size) := by
  have hbk := h.top k (Nat.le_refl _)
  have hmon : ∀ {i j : Nat}, i ≤ j → b i ≤ b j := by
    intro i j hij
    induction hij with
    | refl => exact Nat.le_refl _
    | step _ ih => exact Nat.le_trans ih (h.mono _)
  have h0k := hmon (Nat.zero_le k)
  have hca := h.ca
  have hsa := h.saz
  have hoa := h.oaz
  have hfar : ∀ j, j < k → ∀ x, b j ≤ x → x ∉ [CA, SA, OA] := fun j hj x hx => by
    have := hmon (Nat.zero_le j)
    simp; omega
  refine ⟨fun j hj => ?_, fun j hj => ?_, fun j hj => ?_, fun j hj => ?_, bC, bS, bO, fun j hj => ?_, fun j hj => ?_, fun j => ?_, fun j hj => ?_, ?_, ?_, ?_, h.ne, ?_⟩
  · by_cases hjk : j = k
    · subst hjk; simp only [if_true]; exact T
    · simp only [hjk, if_false]
      have hj' : j < k := by omega
      exact (h.todo j hj').turn ht (hfar j hj' _ (h.zS j hj').1) (fun x hx => hfar j hj' x (h.zone j hj' x hx).1) (fun f hf => hc _ (by omega))
  · by_cases hjk : j = k
    · subst hjk; simp only [if_true]; exact dz
    · simp only [hjk, if_false]; exact h.dz j (by omega)
  · by_cases hjk : j = k
    · subst hjk; simp only [if_true]; exact hS
    · simp only [hjk, if_false]; exact (hs j hjk).trans (h.sa j (by omega))
  · by_cases hjk : j = k
    · subst hjk; simp only [if_true]; exact hO
    · simp only [hjk, if_false]; exact (ho j hjk).trans (h.oa j (by omega))
  · by_cases hjk : j = k
    · subst hjk; rw [if_pos rfl, if_pos (Nat.le_refl _), if_neg (Nat.not_succ_le_self _), hbk]; exact zS
    · simp only [hjk, if_false]
      have := h.zS j (by omega)
      rw [if_pos (by omega), if_pos (by omega)]; exact this
  · by_cases hjk : j = k
    · subst hjk; simp only [if_true, if_pos (Nat.le_refl j), if_neg (Nat.not_succ_le_self j), hbk]; exact zr
    · simp only [hjk, if_false]
      have := h.zone j (by omega)
      rw [if_pos (by omega), if_pos (by omega)]; exact this
  · by_cases h1 : j + 1 ≤ k
    · simp only [if_pos h1, if_pos (Nat.le_of_succ_le h1)]; exact h.mono j
    · simp only [if_neg h1]
      by_cases h2 : j ≤ k
      · rw [if_pos h2]
        have h3 := hmon h2
        have h4 := ht.size
        rw [hbk] at h3
        exact Nat.le_trans h3 h4
      · rw [if_neg h2]; exact Nat.le_refl _
  · rw [if_neg (by omega)]
  · simpa using hca
  · simpa using hsa
  · simpa using hoa
  · exact h.below.trans (ht.toBelow (by simp; omega) h.below.size)

/-- Inside a round of the set-up: behind the stub. -/
structure Mid (CA SA OA n k : Nat) (W X : World) (S : Nat) (ho : Option Addr) (hc : Nat) (hs : List Int) : Prop where
  s0 : X.cell? ⟨S, 0, none⟩ = some (.slice ho hs.length hc)
  s1 : X.cell? ⟨S, 1, none⟩ = some (.int .i64 0)
  sz : X.frozen? ⟨S, 1, none⟩ = false
  held : U16 X ho hs.length hs
  zS : W.heap.size ≤ S
  zho : ∀ x ∈ blk ho, W.heap.size ≤ x ∧ x < X.heap.size ∧ x ≠ S
  sa : X.cell? ⟨SA, k, none⟩ = some (.pointer (some ⟨S, 0, none⟩))
  sa1 : ∀ o, o ≠ k → X.cell? ⟨SA, o, none⟩ = W.cell? ⟨SA, o, none⟩
  oa1 : ∀ o, o ≠ k → X.cell? ⟨OA, o, none⟩ = W.cell? ⟨OA, o, none⟩
  ca1 : ∀ o, X.cell? ⟨CA, o, none⟩ = W.cell? ⟨CA, o, none⟩
  bC : Blk X CA 68 (n * 11)
  bS : Blk X SA 29 n
  bO : Blk X OA 52 n
  turn : Turn [SA, OA] W X
  lts : CA < W.heap.size ∧ SA < W.heap.size ∧ OA < W.heap.size

theorem Mid.step {CA SA OA n k : Nat} {W X X' : World} {S : Nat} {ho : Option Addr} {hc : Nat} {hs : List Int} {ex : List Nat} (h : Mid CA SA OA n k W X S ho hc hs) (ht : Turn ex X X') (hex : ∀ x ∈ ex, W.heap.size ≤ x ∧ x ≠ S ∧ x ∉ blk ho) : Mid CA SA OA n k W X' S ho hc hs := by
  have hl := h.lts
  have hz := h.turn.size
  have nS : S ∉ ex := fun hx => (hex S hx).2.1 rfl
  have nC : CA ∉ ex := fun hx => by have := (hex CA hx).1; omega
  have nA : SA ∉ ex := fun hx => by have := (hex SA hx).1; omega
  have nO : OA ∉ ex := fun hx => by have := (hex OA hx).1; omega
  exact ⟨(ht.cell (lt_of_cell h.s0) nS).trans h.s0, (ht.cell (lt_of_cell h.s1) nS).trans h.s1, (ht.frozen (lt_of_cell h.s1) nS).trans h.sz, h.held.turn ht (fun x hx hm => (hex x hm).2.2 hx), h.zS, fun x hx => ⟨(h.zho x hx).1, Nat.lt_of_lt_of_le (h.zho x hx).2.1 ht.size, (h.zho x hx).2.2⟩,
    (ht.cell (p := ⟨SA, k, none⟩) (by simp; omega) nA).trans h.sa, fun o hne => (ht.cell (p := ⟨SA, o, none⟩) (by simp; omega) nA).trans (h.sa1 o hne), fun o hne => (ht.cell (p := ⟨OA, o, none⟩) (by simp; omega) nO).trans (h.oa1 o hne), fun o => (ht.cell (p := ⟨CA, o, none⟩) (by simp; omega) nC).trans (h.ca1 o),
    h.bC.turn ht nC, h.bS.turn ht nA, h.bO.turn ht nO, h.turn.fresh ht (fun x hx => .inr (hex x hx).1), hl⟩
end Go.Proofs.YbulkccjsDoor.H
