import Derived.Test.YbulkccjsDoorHState
import Derived.Handy
namespace Go.Proofs.YbulkccjsDoor.H
open Go.RowKit
set_option linter.unusedSimpArgs false
set_option linter.unusedVariables false

/-- Inside the first loop of a round. -/
structure H1 (CA i : Nat) (t : Int) (d : Dat) (W0 W : World) (k : Nat) (ks : List Int) (v : Value) : Prop where
  d6 : W.cell? ⟨CA, i * 11 + 6, none⟩ = some v
  hm : HeldMap (caus t) W v (hk d.hs ks)
  nv : ∀ r, v = .map (some r) → W0.heap.size ≤ r
  s0 : W.cell? ⟨d.S, 0, none⟩ = some (.slice d.ho d.hs.length d.hc)
  s1 : W.cell? ⟨d.S, 1, none⟩ = some (.int .i64 k)
  sz : W.frozen? ⟨d.S, 1, none⟩ = false
  ca : ∀ o, o ≠ i * 11 + 6 → W.cell? ⟨CA, o, none⟩ = W0.cell? ⟨CA, o, none⟩
  cz : ∀ o, W.frozen? ⟨CA, o, none⟩ = false
  turn : Turn [CA, d.S] W0 W

/-- What stays of the call's own blocks. -/
structure Away (CA : Nat) (d : Dat) : Prop where
  cs : CA ≠ d.S
  rd : ∀ x ∈ d.rd, x ≠ CA ∧ x ≠ d.S

theorem H1.step {CA i : Nat} {t : Int} {d : Dat} {W0 W W' : World} {k : Nat} {ks : List Int} {v : Value} (h : H1 CA i t d W0 W k ks v) (ht : Turn [] W W') : H1 CA i t d W0 W' k ks v := by
  have hl : CA < W.heap.size := lt_of_cell h.d6
  have hS : d.S < W.heap.size := lt_of_cell h.s0
  exact ⟨(ht.cell hl (by simp)).trans h.d6, h.hm.turn ht (by simp), h.nv, (ht.cell hS (by simp)).trans h.s0, (ht.cell hS (by simp)).trans h.s1, (ht.frozen hS (by simp)).trans h.sz,
    fun o ho => (ht.cell (p := ⟨CA, o, none⟩) hl (by simp)).trans (h.ca o ho), fun o => (ht.frozen (p := ⟨CA, o, none⟩) hl (by simp)).trans (h.cz o), h.turn.trans (ht.mono (by simp))⟩

theorem H1.told {CA i : Nat} {t : Int} {d : Dat} {W0 W W' : World} {k k' : Nat} {ks : List Int} {v : Value} (h : H1 CA i t d W0 W k ks v) (ha : Away CA d) (hS0 : d.S < W0.heap.size) (ht : Turn [d.S] W W') (s0 : W'.cell? ⟨d.S, 0, none⟩ = some (.slice d.ho d.hs.length d.hc)) (s1 : W'.cell? ⟨d.S, 1, none⟩ = some (.int .i64 k')) (sz : W'.frozen? ⟨d.S, 1, none⟩ = false) : H1 CA i t d W0 W' k' ks v := by
  have hl : CA < W.heap.size := lt_of_cell h.d6
  have hn : CA ∉ [d.S] := by simpa using ha.cs
  exact ⟨(ht.cell hl hn).trans h.d6, h.hm.turn ht (fun r hr => by have := h.nv r hr; simp; omega), h.nv, s0, s1, sz,
    fun o ho => (ht.cell (p := ⟨CA, o, none⟩) hl hn).trans (h.ca o ho), fun o => (ht.frozen (p := ⟨CA, o, none⟩) hl hn).trans (h.cz o), h.turn.trans (ht.mono (by simp))⟩

theorem H1.make {CA i : Nat} {t : Int} {d : Dat} {W0 W : World} {k : Nat} {ks : List Int} (h : H1 CA i t d W0 W k ks (.map none)) (ha : Away CA d) : H1 CA i t d W0 ((W.setCell ⟨CA, i * 11 + 6, none⟩ (.map (some W.heap.size))).alloc (.map #[] 0)) k ks (.map (some W.heap.size)) := by
  have hks : hk d.hs ks = [] := by
    rcases h.hm with ⟨_, h1⟩ | ⟨r, arr, c, h1, _⟩
    · exact h1
    · cases h1
  have hs : (W.setCell ⟨CA, i * 11 + 6, none⟩ (.map (some W.heap.size))).heap.size = W.heap.size := by simp [World.setCell]
  have t2 : Turn [] (W.setCell ⟨CA, i * 11 + 6, none⟩ (.map (some W.heap.size))) ((W.setCell ⟨CA, i * 11 + 6, none⟩ (.map (some W.heap.size))).alloc (.map #[] 0)) := (Turn.refl _ _).alloc _
  have hw := (MapKept.heap_alloc (W.setCell ⟨CA, i * 11 + 6, none⟩ (.map (some W.heap.size))) (.map #[] 0)).1
  rw [hs] at hw
  have t1 : Turn [CA] W (W.setCell ⟨CA, i * 11 + 6, none⟩ (.map (some W.heap.size))) := (Turn.refl _ _).setCell (by simp) _
  have ht : Turn [CA] W ((W.setCell ⟨CA, i * 11 + 6, none⟩ (.map (some W.heap.size))).alloc (.map #[] 0)) := t1.trans (t2.mono (by simp))
  have hl : CA < W.heap.size := lt_of_cell h.d6
  have hS : d.S < W.heap.size := lt_of_cell h.s0
  have nS : d.S ∉ [CA] := by simpa using Ne.symm ha.cs
  refine ⟨(t2.cell (p := ⟨CA, i * 11 + 6, none⟩) (by rw [hs]; exact hl) (by simp)).trans (World.cell?_setCell_same _ _ _ h.d6), .inr ⟨W.heap.size, #[], 0, rfl, hw, by simp [hks]⟩, fun r hr => ?_, (ht.cell hS nS).trans h.s0, (ht.cell hS nS).trans h.s1, (ht.frozen hS nS).trans h.sz, fun o ho => ?_, fun o => ?_, h.turn.trans (ht.mono (by simp))⟩
  · cases hr; exact h.turn.size
  · rw [t2.cell (p := ⟨CA, o, none⟩) (by rw [hs]; exact hl) (by simp), World.cell?_setCell_other _ _ _ _ (by simp [ho] <;> omega)]; exact h.ca o ho
  · rw [t2.frozen (p := ⟨CA, o, none⟩) (by rw [hs]; exact hl) (by simp), World.frozen?_setCell]; exact h.cz o

theorem H1.put {CA i : Nat} {t : Int} {d : Dat} {W0 W : World} {k : Nat} {ks : List Int} {r : Nat} (h : H1 CA i t d W0 W k ks (.map (some r))) (ha : Away CA d) (hl0 : CA < W0.heap.size) (hS0 : d.S < W0.heap.size) (z : Int) (hz : z ∈ d.hs) (hwk : ∀ x ∈ ks, wf16 x) (hwz : wf16 z) :
    ∃ W', (Instr.mapUpdate 60 (.map (some r)) (cid z) (.int .u8 ((z + t) % 256))).run Ybad.prog W = .ok () W' ∧ H1 CA i t d W0 W' k (ks ++ [z]) (.map (some r)) := by
  obtain ⟨W', h1, h2, h3⟩ := held_put h.hm (fun x hx => hwk x ((mem_hk _ _ _).1 hx).1) z hwz
  have hr := h.nv r rfl
  have nC : CA ∉ [r] := by simp; omega
  have nS : d.S ∉ [r] := by simp; omega
  have hl : CA < W.heap.size := lt_of_cell h.d6
  have hS : d.S < W.heap.size := lt_of_cell h.s0
  refine ⟨W', h1, (h3.cell hl nC).trans h.d6, ?_, h.nv, (h3.cell hS nS).trans h.s0, (h3.cell hS nS).trans h.s1, (h3.frozen hS nS).trans h.sz, fun o ho => (h3.cell (p := ⟨CA, o, none⟩) hl nC).trans (h.ca o ho), fun o => (h3.frozen (p := ⟨CA, o, none⟩) hl nC).trans (h.cz o), h.turn.fresh h3 (by simp; omega)⟩
  rw [hk_snoc, if_pos hz]; exact h2

theorem H1.keep {CA i : Nat} {t : Int} {d : Dat} {W0 W : World} {k : Nat} {ks ks' : List Int} {v : Value} (h : H1 CA i t d W0 W k ks v) (he : hk d.hs ks' = hk d.hs ks) : H1 CA i t d W0 W k ks' v :=
  ⟨h.d6, by rw [he]; exact h.hm, h.nv, h.s0, h.s1, h.sz, h.ca, h.cz, h.turn⟩

theorem wrap_small (n : Nat) (h : n ≤ 1024) : IntKind.i64.wrap (n : Int) = (n : Int) := by
  have h1 : (0 : Int) ≤ n := by omega
  have h2 : (n : Int) ≤ 1024 := by omega
  generalize (n : Int) = x at *
  go_arith

theorem Tab.turn {w w' : World} {ex : List Nat} (h : Tab w) (hb : 1 < w.heap.size) (ht : Turn ex w w') (hn : 1 ∉ ex) : Tab w' := by
  obtain ⟨s, t0, ts⟩ := h.n
  exact ⟨⟨s, (ht.cell hb hn).trans t0, ts⟩, (ht.cell hb hn).trans h.p, (ht.cell hb hn).trans h.l, (ht.cell hb hn).trans h.c⟩

theorem newList_at (p : Option Addr) (x : Int) (n : Nat) (hx : x = n) (w : World) (hn : n ≤ 1024) :
    Calls Ybad.prog 21 #[.int .u8 0, .pointer p, .int .i64 x] w fun e w' => ∃ g c, e = .returned (.agg #[.int .u8 0, .slice (some ⟨g, 0, none⟩) 0 c, .map none]) ∧ w'.ownsRow w.heap.size 38 4 (.slice (some ⟨g, 0, none⟩) 0 c) 0 [] ∧ Below w.heap.size w w' := by
  subst hx; exact newList_is p n w hn

/-- The call's own cells behind the first loop. -/
theorem H1.own {CA i : Nat} {t : Int} {d : Dat} {W0 W : World} {k : Nat} {ks : List Int} {v : Value} (h : H1 CA i t d W0 W k ks v) (T : Todo CA W0 i d) (ha : Away CA d) :
    W.ownsRow 0 38 4 (.slice (some ⟨d.cb, 0, none⟩) d.zs.length d.cc) d.zs.length (cidCells d.zs) ∧ W.ownsRow 0 38 4 (.slice (some ⟨d.lb, 0, none⟩) d.zs.length d.lc) d.zs.length (cidCells d.zs) :=
  ⟨own_turn T.cells h.turn (by simpa [blk] using (ha.rd d.cb (by simp [Dat.rd]))), own_turn T.list h.turn (by simpa [blk] using (ha.rd d.lb (by simp [Dat.rd])))⟩

theorem done_none {Dl : List Nat} {CA i B ix : Nat} {t : Int} {d : Dat} {W0 W : World} {es : List Ent} (h : H1 CA i t d W0 W d.zs.length d.zs (.map none)) (T : Todo CA W0 i d) (ha : Away CA d) (he : hk d.hs d.zs = []) : Done Dl CA B t W i d es ix :=
  ⟨.map none, d.lb, d.zs.length, d.lc, reqOf d.R, d.zs, (h.ca _ (by omega)).trans T.a1, (h.ca _ (by omega)).trans T.a3, (h.ca _ (by omega)).trans T.a4, (h.ca _ (by omega)).trans T.a5, h.d6, h.s1, (h.own T ha).1, (h.own T ha).2, h.hm, (fun r hr => by cases hr), .inl rfl, .inl ⟨he, rfl, rfl, rfl⟩⟩

theorem rows_of {CA i : Nat} {t : Int} {d : Dat} {W0 W : World} {k : Nat} {ks : List Int} {v : Value} (h : H1 CA i t d W0 W k ks v) : Rows1 CA i W0 W := fun o ho => h.ca o (by omega)

/-- Inside the second loop of a round. -/
structure H2 (V W : World) (LB : Nat) (g c n : Nat) (ks : List Int) : Prop where
  l0 : W.cell? ⟨LB, 0, none⟩ = some (.int .u8 0)
  l1 : W.cell? ⟨LB, 1, none⟩ = some (.slice (some ⟨g, 0, none⟩) n c)
  l2 : W.cell? ⟨LB, 2, none⟩ = some (.map none)
  z1 : W.frozen? ⟨LB, 1, none⟩ = false
  own : W.ownsRow V.heap.size 38 4 (.slice (some ⟨g, 0, none⟩) n c) n (cidCells ks)
  lb : V.heap.size ≤ LB
  lg : LB ≠ g
  turn : Turn [] V W

theorem H2.step {V W W' : World} {LB g c n : Nat} {ks : List Int} (h : H2 V W LB g c n ks) (ht : Turn [] W W') : H2 V W' LB g c n ks := by
  have hl : LB < W.heap.size := lt_of_cell h.l0
  exact ⟨(ht.cell hl (by simp)).trans h.l0, (ht.cell hl (by simp)).trans h.l1, (ht.cell hl (by simp)).trans h.l2, (ht.frozen hl (by simp)).trans h.z1, own_turn h.own ht (by simp), h.lb, h.lg, h.turn.trans ht⟩


section
variable {P : Program} {ops : Array Oper} {Q : Exit → Act → World → Prop} {md : Region.Mode} {S : World → Prop} {fin : Nat}
/-- One of two operations may come up. -/
theorem Picks.two {i j : Nat} {oi oj : Oper} {fuel : Nat} {listed : Array Bool} {a : Act} {w : World} (hr : Region.ready md ops listed = [i, j]) (hoi : ops[i]? = some oi) (hoj : ops[j]? = some oj) (hwi : Region.wanted oi (yielded ops a.tmps) = true) (hwj : Region.wanted oj (yielded ops a.tmps) = true)
    (h1 : ∀ K : Act → World → Prop, (∀ a' w', (i ≠ fin → S w') → Picks P md ops Q S fin fuel (listed.setIfInBounds i true) a' w' → K a' w') → Oper.wp P oi a w K Q)
    (h2 : ∀ K : Act → World → Prop, (∀ a' w', (j ≠ fin → S w') → Picks P md ops Q S fin fuel (listed.setIfInBounds j true) a' w' → K a' w') → Oper.wp P oj a w K Q) : Picks P md ops Q S fin (fuel + 1) listed a w := by
  refine ⟨fun h0 => absurd h0 (by rw [hr]; simp), fun k hk => ?_⟩
  rw [hr] at hk
  simp only [List.mem_cons, List.not_mem_nil, or_false] at hk
  rcases hk with rfl | rfl
  · unfold wpOp
    simp only [hoi, hwi, if_true]
    exact .inl (h1 _ fun a' w' hS hP => ⟨hS, hP⟩)
  · unfold wpOp
    simp only [hoj, hwj, if_true]
    exact .inl (h2 _ fun a' w' hS hP => ⟨hS, hP⟩)
end

/-- What the region of newIDList's call reads. -/
def S14 (CA i : Nat) (D : Dat) (v : Value) (L : Nat) (w : World) : Prop :=
  w.cell? ⟨CA, i * 11, none⟩ = some (.pointer (some ⟨D.P, 0, none⟩)) ∧ w.cell? ⟨CA, i * 11 + 1, none⟩ = some (.slice (some ⟨D.cb, 0, none⟩) D.zs.length D.cc) ∧ w.cell? ⟨CA, i * 11 + 3, none⟩ = some (.int .u8 0) ∧ w.cell? ⟨CA, i * 11 + 6, none⟩ = some v ∧ (Builtin.len_ #[60] 3 #[v]).run Ybad.prog w = .ok (.int .i64 L) w

theorem H1.s14 {CA i : Nat} {t : Int} {d : Dat} {W0 W : World} {v : Value} (h : H1 CA i t d W0 W d.zs.length d.zs v) (T : Todo CA W0 i d) {L : Nat} (hL : L = (hk d.hs d.zs).length) : S14 CA i d v L W := by
  subst hL
  exact ⟨(h.ca _ (by omega)).trans T.a0, (h.ca _ (by omega)).trans T.a1, (h.ca _ (by omega)).trans T.a3, h.d6, held_len h.hm⟩

theorem own_mono {W : World} {base base' e size n c : Nat} {o : Option Addr} {xs : List Value} (h : W.ownsRow base e size (.slice o n c) n xs) (hb : base' ≤ base) : W.ownsRow base' e size (.slice o n c) n xs := by
  obtain ⟨h1, h | ⟨g, cap, cur, h2, h3, h4, h5⟩⟩ := h
  · exact ⟨h1, .inl h⟩
  · exact ⟨h1, .inr ⟨g, cap, cur, h2, Nat.le_trans hb h3, h4, h5⟩⟩

theorem h2_new {W w5 : World} {g c : Nat} (hown : w5.ownsRow W.heap.size 38 4 (.slice (some ⟨g, 0, none⟩) 0 c) 0 []) (ht : Turn [] W w5) :
    H2 W (w5.alloc (.cells #[.int .u8 0, .slice (some ⟨g, 0, none⟩) 0 c, .map none] 120)) w5.heap.size g c 0 [] := by
  have ha : Turn [] w5 (w5.alloc (.cells #[.int .u8 0, .slice (some ⟨g, 0, none⟩) 0 c, .map none] 120)) := (Turn.refl _ _).alloc _
  have hg := (own_base hown g (by simp [blk])).2
  exact ⟨by simp, by simp, by simp, by simp, own_turn hown ha (by simp), ht.size, by omega, ht.trans ha⟩

theorem h2_fill {W w5 : World} {g c : Nat} (hown : w5.ownsRow (W.heap.size + 1) 38 4 (.slice (some ⟨g, 0, none⟩) 0 c) 0 []) (ht : Turn [] W w5)
    (q0 : w5.cell? ⟨W.heap.size, 0, none⟩ = some (.int .u8 0)) (q1 : w5.cell? ⟨W.heap.size, 1, none⟩ = some (.slice none 0 0)) (q2 : w5.cell? ⟨W.heap.size, 2, none⟩ = some (.map none)) (zq : w5.frozen? ⟨W.heap.size, 1, none⟩ = false) :
    H2 W (((w5.setCell ⟨W.heap.size, 0, none⟩ (.int .u8 0)).setCell ⟨W.heap.size, 1, none⟩ (.slice (some ⟨g, 0, none⟩) 0 c)).setCell ⟨W.heap.size, 2, none⟩ (.map none)) W.heap.size g c 0 [] := by
  have hg := (own_base hown g (by simp [blk])).1
  have ts : Turn [W.heap.size] w5 (((w5.setCell ⟨W.heap.size, 0, none⟩ (.int .u8 0)).setCell ⟨W.heap.size, 1, none⟩ (.slice (some ⟨g, 0, none⟩) 0 c)).setCell ⟨W.heap.size, 2, none⟩ (.map none)) := (((Turn.refl _ _).setCell (by simp) _).setCell (by simp) _).setCell (by simp) _
  refine ⟨by go_simp, by go_simp, by go_simp, by go_simp, own_turn (own_mono hown (by omega)) ts (by simp [blk]; omega), Nat.le_refl _, by omega, ht.fresh ts (by simp)⟩

theorem done_all {Dl : List Nat} {CA i B ix : Nat} {t : Int} {d : Dat} {W0 W : World} {es : List Ent} {v : Value} (h : H1 CA i t d W0 W d.zs.length d.zs v) (T : Todo CA W0 i d) (ha : Away CA d) (hC : CA < W0.heap.size) (he : hk d.hs d.zs ≠ []) (hkp : kp d.hs d.zs = []) (hv : ∀ r, v = .map (some r) → B ≤ r ∧ r ∉ Dl) : Done Dl CA B t (W.setCell ⟨CA, i * 11 + 5, none⟩ .nilIface) i d es ix := by
  have ht : Turn [CA] W (W.setCell ⟨CA, i * 11 + 5, none⟩ .nilIface) := (Turn.refl _ _).setCell (by simp) _
  have ho : ∀ f u, f ≠ 5 → W.cell? ⟨CA, i * 11 + f, none⟩ = some u → (W.setCell ⟨CA, i * 11 + 5, none⟩ .nilIface).cell? ⟨CA, i * 11 + f, none⟩ = some u := fun f u hf hu => by
    rw [World.cell?_setCell_other _ _ _ _ (by simp <;> omega)]; exact hu
  have hS : d.S < W.heap.size := lt_of_cell h.s0
  refine ⟨v, d.lb, d.zs.length, d.lc, .nilIface, d.zs, ho 1 _ (by omega) ((h.ca _ (by omega)).trans T.a1), ho 3 _ (by omega) ((h.ca _ (by omega)).trans T.a3), ho 4 _ (by omega) ((h.ca _ (by omega)).trans T.a4), World.cell?_setCell_same _ _ _ ((h.ca _ (by omega)).trans T.a5), ho 6 _ (by omega) h.d6,
    (ht.cell hS (by simpa using Ne.symm ha.cs)).trans h.s1, own_turn (h.own T ha).1 ht (by simpa [blk] using (ha.rd d.cb (by simp [Dat.rd])).1), own_turn (h.own T ha).2 ht (by simpa [blk] using (ha.rd d.lb (by simp [Dat.rd])).1), h.hm.turn ht (fun r hr => by have := h.nv r hr; simp; omega), hv, .inl rfl, .inr (.inl ⟨he, hkp, rfl, rfl⟩)⟩

theorem done_third {Dl ex : List Nat} {CA i B ix g n c b0 R : Nat} {t : Int} {d : Dat} {W0 W w6 : World} {es : List Ent} {v : Value} (h : H1 CA i t d W0 W d.zs.length d.zs v) (T : Todo CA W0 i d) (ha : Away CA d) (hC : CA < W0.heap.size)
    (own : W.ownsRow b0 38 4 (.slice (some ⟨g, 0, none⟩) n c) n (cidCells (kp d.hs d.zs))) (ht : Turn ex W w6) (nC : CA ∉ ex) (nS : d.S ∉ ex) (nb : d.cb ∉ ex) (ng : g ∉ ex) (nv : ∀ r, v = .map (some r) → r ∉ ex) (gC : g ≠ CA)
    (he : hk d.hs d.zs ≠ []) (hkp : kp d.hs d.zs ≠ []) (hv : ∀ r, v = .map (some r) → B ≤ r ∧ r ∉ Dl) (hg : B ≤ g ∧ g ∉ Dl) (hent : es[ix]? = some ⟨R, g, n, c⟩) :
    Done Dl CA B t (((w6.setCell ⟨CA, i * 11 + 3, none⟩ (.int .u8 0)).setCell ⟨CA, i * 11 + 4, none⟩ (.slice (some ⟨g, 0, none⟩) n c)).setCell ⟨CA, i * 11 + 5, none⟩ (reqOf R)) i d es ix := by
  have t2 : Turn [CA] w6 (((w6.setCell ⟨CA, i * 11 + 3, none⟩ (.int .u8 0)).setCell ⟨CA, i * 11 + 4, none⟩ (.slice (some ⟨g, 0, none⟩) n c)).setCell ⟨CA, i * 11 + 5, none⟩ (reqOf R)) := (((Turn.refl _ _).setCell (by simp) _).setCell (by simp) _).setCell (by simp) _
  have hCl : CA < W.heap.size := lt_of_cell h.d6
  have hS : d.S < W.heap.size := lt_of_cell h.s0
  have c6 : ∀ o u, W.cell? ⟨CA, o, none⟩ = some u → w6.cell? ⟨CA, o, none⟩ = some u := fun o u hu => (ht.cell (p := ⟨CA, o, none⟩) hCl nC).trans hu
  have a1 := c6 _ _ ((h.ca (i * 11 + 1) (by omega)).trans T.a1)
  have a3 := c6 _ _ ((h.ca (i * 11 + 3) (by omega)).trans T.a3)
  have a4 := c6 _ _ ((h.ca (i * 11 + 4) (by omega)).trans T.a4)
  have a5 := c6 _ _ ((h.ca (i * 11 + 5) (by omega)).trans T.a5)
  have a6 := c6 _ _ h.d6
  have s6 : W.heap.size ≤ w6.heap.size := ht.size
  refine ⟨v, g, n, c, reqOf R, kp d.hs d.zs, by go_simp, by go_simp, by go_simp, by go_simp, by go_simp, (t2.cell (p := ⟨d.S, 1, none⟩) (by simp; omega) (by simpa using Ne.symm ha.cs)).trans ((ht.cell hS nS).trans h.s1),
    own_turn (own_turn (h.own T ha).1 ht (by simpa [blk] using nb)) t2 (by simpa [blk] using (ha.rd d.cb (by simp [Dat.rd])).1), own_turn (own_mono (own_turn own ht (by simpa [blk] using ng)) (Nat.zero_le _)) t2 (by simpa [blk] using gC),
    (h.hm.turn ht nv).turn t2 (fun r hr => by have := h.nv r hr; simp; omega), hv, .inr hg, .inr (.inr ⟨he, hkp, rfl, R, rfl, hent⟩)⟩

/-- What the region of the request reads. -/
def S26 (LB g n c : Nat) (w : World) : Prop := w.cell? ⟨LB, 0, none⟩ = some (.int .u8 0) ∧ w.cell? ⟨LB, 1, none⟩ = some (.slice (some ⟨g, 0, none⟩) n c)

theorem xs_snoc (es : List Ent) (e : Ent) : xsOf (es ++ [e]) = xsOf es ++ [.int .u8 0, .slice (some ⟨e.g, 0, none⟩) e.m e.c] := by simp [xsOf]
theorem ys_snoc (es : List Ent) (e : Ent) : ysOf (es ++ [e]) = ysOf es ++ [reqOf e.R] := by simp [ysOf]

set_option maxRecDepth 100000 in
set_option maxHeartbeats 4000000 in
theorem hold_is (CA n : Nat) (t : Int) (LL RR : Nat) (d : Nat → Dat) (b : Nat → Nat) (hn : n ≤ 256) (w : World) (z : Zones CA LL RR n w.heap.size d b) (hfit : ∀ j, j < n → Fit (d j))
    (hinv : Inv CA LL RR n t d w w 0 [] none 0 none 0) :
    Calls Ybad.prog 9 #[.slice (some ⟨CA, 0, none⟩) n n, .int .u8 t, .func (.func 8) #[] #[.pointer (some ⟨LL, 0, none⟩), .pointer (some ⟨RR, 0, none⟩)]] w fun e w' => e = .returned (.tuple #[]) ∧ ∃ es lo cl ro cr, Inv CA LL RR n t d w w' n es lo cl ro cr := by
  go_enter Ybad.func9, Ybad.ntmps9
  go_wp2_with fail
  go_loopw [20] (fun x W => ∃ i : Nat, i ≤ n ∧ x = .int .i64 i ∧ ∃ es lo cl ro cr, Inv CA LL RR n t d w W i es lo cl ro cr) (fun x _ => n - (intOf x).toNat)
  case atStart => exact ⟨0, by omega, rfl, _, _, _, _, _, hinv⟩
  case round =>
    obtain ⟨i, hi, rfl, es, lo, cl, ro, cr, hI⟩ := hrel
    by_cases hlt : i < n
    · have y1 : (i : Int) < (n : Int) := by omega
      have T := hI.todo i (Nat.le_refl _) hlt
      have F := hfit i hlt
      have hlC : CA < wr.heap.size := lt_of_cell T.a0
      have hlS : (d i).S < wr.heap.size := lt_of_cell T.s0
      have ha : Away CA (d i) := by
        have h0 := z.ca
        have h1 := z.le (Nat.zero_le i)
        have h2 := z.zS i hlt
        refine ⟨by omega, fun x hx => ?_⟩
        have h3 := z.zone i hlt x hx
        exact ⟨by omega, h3.2.2⟩
      have hH : H1 CA i t (d i) wr wr 0 [] (.map none) := { d6 := T.a6, hm := .inl ⟨rfl, rfl⟩, nv := (fun r hr => by cases hr), s0 := T.s0, s1 := T.s1, sz := T.sz, ca := fun o _ => rfl, cz := hI.cz, turn := Turn.refl _ _ }
      obtain ⟨V, hV⟩ : ∃ V, V = wr := ⟨_, rfl⟩
      subst hV
      obtain ⟨D, hD⟩ : ∃ D, D = d i := ⟨_, rfl⟩
      have HD : Hid (D = d i) := hD
      rw [← hD] at T F hlS ha hH
      clear hD
      have a1 := T.a1
      go_wp2_with fail
      go_loopw [31] (fun x W => ∃ k : Nat, k ≤ D.zs.length ∧ x = .int .i64 k ∧ ∃ v, H1 CA i t D V W k (D.zs.take k) v ∧ (hk D.hs (D.zs.take k) = [] → v = .map none)) (fun x _ => D.zs.length - (intOf x).toNat)
      case atStart => exact ⟨0, by omega, rfl, _, hH, fun _ => rfl⟩
      case round =>
        obtain ⟨k, hkk, rfl, v, h1, hnn⟩ := hrel
        by_cases hkl : k < D.zs.length
        · have y2 : (k : Int) < (D.zs.length : Int) := by omega
          obtain ⟨W, hW⟩ : ∃ W, W = wr := ⟨_, rfl⟩
          subst hW
          obtain ⟨zz, hz1, c0, c1, c2, c3⟩ := row_at (own_turn T.cells h1.turn (by simpa [blk] using (ha.rd D.cb (by simp [Dat.rd])))) k hkl
          have hlW : CA < W.heap.size := lt_of_cell h1.d6
          have h2 := h1.step (((Turn.refl [] W).alloc (.cells #[.string ⟨#[]⟩, .string ⟨#[]⟩, .int .u16 0, .int .u16 zz] 38)).drew)
          have a0 := (h2.ca (i * 11) (by omega)).trans T.a0
          have p0 := (h2.turn.cell (lt_of_cell T.p0) (by simpa using ha.rd D.P (by simp [Dat.rd]))).trans T.p0
          have hU : U16 _ D.ho D.hs.length D.hs := T.held.turn h2.turn (fun x hx => by simpa using ha.rd x (by simp [Dat.rd, hx]))
          have b0 : (W.alloc (.cells #[.string ⟨#[]⟩, .string ⟨#[]⟩, .int .u16 0, .int .u16 zz] 38)).cell? ⟨W.heap.size, 0, none⟩ = some (.string ⟨#[]⟩) := by go_simp
          have b1 : (W.alloc (.cells #[.string ⟨#[]⟩, .string ⟨#[]⟩, .int .u16 0, .int .u16 zz] 38)).cell? ⟨W.heap.size, 1, none⟩ = some (.string ⟨#[]⟩) := by go_simp
          have b2 : (W.alloc (.cells #[.string ⟨#[]⟩, .string ⟨#[]⟩, .int .u16 0, .int .u16 zz] 38)).cell? ⟨W.heap.size, 2, none⟩ = some (.int .u16 0) := by go_simp
          have b3 : (W.alloc (.cells #[.string ⟨#[]⟩, .string ⟨#[]⟩, .int .u16 0, .int .u16 zz] 38)).cell? ⟨W.heap.size, 3, none⟩ = some (.int .u16 zz) := by go_simp
          obtain ⟨B, hB⟩ : ∃ B, B = decide (zz ∈ D.hs) := ⟨_, rfl⟩
          have HB : Hid (B = decide (zz ∈ D.hs)) := hB
          clear hB
          go_wp2_with fail
          generalize W.alloc (.cells #[.string ⟨#[]⟩, .string ⟨#[]⟩, .int .u16 0, .int .u16 zz] 38) = W1 at *
          have hnz := F.nz
          have hcall := heldm_is D.S D.ho D.hs.length D.hc D.hs zz t k _ hU F.nh h2.s0 h2.s1 h2.sz (by omega) (by omega) (fun ad had => (ha.rd ad.block (by simp [Dat.rd, blk, had])).2) B HB
          unfold cid at hcall
          have hlS1 : D.S < W.heap.size := lt_of_cell h1.s0
          have hwz : wf16 zz := F.wf zz (List.mem_of_getElem? hz1)
          have hwk : ∀ x ∈ D.zs.take k, wf16 x := fun x hx => F.wf x (List.mem_of_mem_take hx)
          have nB : W.heap.size ∉ [D.S] := by simp; omega
          go_cut [10, 11] from 32 to 64 (fun x y wx => x = .int .u8 ((zz + t) % 256) ∧ y = .bool B ∧ H1 CA i t D V wx (k + 1) (D.zs.take k) v ∧ wx.cell? ⟨W.heap.size, 0, none⟩ = some (.string ⟨#[]⟩) ∧ wx.cell? ⟨W.heap.size, 1, none⟩ = some (.string ⟨#[]⟩) ∧ wx.cell? ⟨W.heap.size, 2, none⟩ = some (.int .u16 0) ∧ wx.cell? ⟨W.heap.size, 3, none⟩ = some (.int .u16 zz))
          case first =>
            go_region_with (go_at_call 63; refine hcall.mono ?_; rintro e w5 ⟨rfl, q1, q2, q3, q4⟩)
            all_goals
              go_wp2
              go_meet
              case rel => exact ⟨rfl, rfl, h2.told ha hlS q2 q3 q1 q4, (q2.cell (lt_of_cell b0) nB).trans b0, (q2.cell (lt_of_cell b1) nB).trans b1, (q2.cell (lt_of_cell b2) nB).trans b2, (q2.cell (lt_of_cell b3) nB).trans b3⟩
          case rest =>
            obtain ⟨rfl, rfl, h3, e0, e1, e2, e3⟩ := hcut
            have hd6 := h3.d6
            have hcz := h3.cz (i * 11 + 6)
            have hlw5 : CA < wc.heap.size := lt_of_cell h3.d6
            have hBw5 : W.heap.size < wc.heap.size := lt_of_cell e0
            have hAB : CA ≠ W.heap.size := by omega
            clear b0 b1 b2 b3 a0 p0 hU hcall c0 c1 c2 c3
            cases B with
            | false =>
              have hni : zz ∉ D.hs := by simpa using HB.out
              have hke : hk D.hs (D.zs.take (k + 1)) = hk D.hs (D.zs.take k) := by rw [take_snoc hz1, hk_snoc, if_neg hni]
              go_wp2
              go_roundw
              case rel => exact ⟨k + 1, by omega, by go_num, v, h3.keep hke, by rw [hke]; exact hnn⟩
              case measure => simp [intOf]; omega
            | true =>
              have hin : zz ∈ D.hs := by simpa using HB.out
              have hne : hk D.hs (D.zs.take (k + 1)) ≠ [] := by rw [take_snoc hz1, hk_snoc, if_pos hin]; intro h; have := (mem_ins (hk D.hs (D.zs.take k)) zz zz).2 (.inr rfl); rw [h] at this; simp at this
              rcases h3.hm with ⟨rfl, _⟩ | ⟨r, arr, c, rfl, _, _⟩
              · have heq := fun W => run_eql_map_nil (P := Ybad.prog) W 60 38 76 none Ybad.underlying60
                have h4 := (h3.make ha).step (Turn.refl [] _).drew
                obtain ⟨W', hput, h5⟩ := h4.put ha hlC hlS zz hin hwk hwz
                rw [← take_snoc hz1] at h5
                unfold cid at hput
                have hmk : ∀ w : World, (Instr.makeMap 60 none).run Ybad.prog w = .ok (.map (some w.heap.size)) (w.alloc (.map #[] 0)) := fun _ => rfl
                go_wp2_with fail
                go_region_with (fail)
                all_goals
                  go_wp2
                  go_roundw
                  case rel => exact ⟨k + 1, by omega, by go_num, _, h5, fun h => absurd h hne⟩
                  case measure => simp [intOf]; omega
              · have heq := fun W => run_eql_map_nil (P := Ybad.prog) W 60 38 76 (some r) Ybad.underlying60
                have h4 := h3.step (Turn.refl [] _).drew
                obtain ⟨W', hput, h5⟩ := h4.put ha hlC hlS zz hin hwk hwz
                rw [← take_snoc hz1] at h5
                unfold cid at hput
                go_wp2_with fail
                go_region_with (fail)
                all_goals
                  go_wp2
                  go_roundw
                  case rel => exact ⟨k + 1, by omega, by go_num, _, h5, fun h => absurd h hne⟩
                  case measure => simp [intOf]; omega
        · obtain rfl : k = D.zs.length := by omega
          rw [List.take_length] at h1 hnn
          obtain ⟨W, hW⟩ : ∃ W, W = wr := ⟨_, rfl⟩
          subst hW
          have hnz := F.nz
          have hlen := held_len h1.hm
          have hd6 := h1.d6
          clear hH hkl
          by_cases he : hk D.hs D.zs = []
          · obtain rfl := hnn he
            have hq := hI.quiet z hlt (by rw [← HD.out]; exact h1.turn) (rows_of h1) (by rw [← HD.out]; simp [third, he]) (by rw [← HD.out]; exact done_none h1 T ha he) h1.cz
            rw [he] at hlen
            go_wp2
            go_roundw
            case rel => exact ⟨i + 1, by omega, by go_num, _, _, _, _, _, hq⟩
            case measure => simp [intOf]; omega
          · have hlp : 0 < (hk D.hs D.zs).length := List.length_pos_iff.2 he
            have hle := hk_kp D.hs D.zs
            obtain ⟨L, hL⟩ : ∃ L, L = (hk D.hs D.zs).length := ⟨_, rfl⟩
            rw [← hL] at hlen hlp hle
            have HL : Hid (L = (hk D.hs D.zs).length) := hL
            clear hL
            have hL0 : ((L : Int) == 0) = false := by simp; omega
            have a0 := (h1.ca (i * 11) (by omega)).trans T.a0
            have a3 := (h1.ca (i * 11 + 3) (by omega)).trans T.a3
            have a1' := (h1.ca (i * 11 + 1) (by omega)).trans T.a1
            have hlw : CA < W.heap.size := lt_of_cell h1.d6
            go_wp2_with fail
            clear a0 a3 a1' a1 hd6 hlen hL0
            have hS : S14 CA i D v L W.drew := (h1.step (Turn.refl [] _).drew).s14 T HL.out
            have hN4 : D.zs.length - L ≤ 1024 := by omega
            have hcall := fun w => newList_at (some ⟨D.P, 0, none⟩) (IntKind.i64.wrap ((D.zs.length : Int) - (L : Int))) (D.zs.length - L) (by rw [show ((D.zs.length : Int) - (L : Int)) = ((D.zs.length - L : Nat) : Int) by omega]; exact wrap_small _ hN4) w hN4
            go_cut [12] from 21 to 134 (fun x wx => ∃ LB g c, x = .pointer (some ⟨LB, 0, none⟩) ∧ H2 W wx LB g c 0 [])
            case first =>
              refine region_picks (S14 CA i D v L) 22 (by kernel_rfl) ?_
              refine Picks.take [22] (i := 0) (v := ?v0) rfl (by kernel_rfl) (by kernel_rfl) (by kernel_rfl) (by kernel_rfl) (fun _ _ _ h => h) (Or.inl ⟨by rfl, ?y0⟩) hS ?r0
              case y0 => (intro w' hSw; unfold S14 at hSw; go_simp <;> with_reducible rfl)
              case r0 =>
               simp only [List.getElem_toArray, List.getElem_cons_succ, List.getElem_cons_zero, Act.put, List.setIfInBounds_toArray, List.set_cons_zero, List.set_cons_succ]
               refine Picks.take [22] (i := 1) (v := ?v1) rfl (by kernel_rfl) (by kernel_rfl) (by kernel_rfl) (by kernel_rfl) (fun _ _ _ h => h) (Or.inl ⟨by rfl, ?y1⟩) hS ?r1
               case y1 => (intro w' hSw; unfold S14 at hSw; go_simp <;> with_reducible rfl)
               case r1 =>
                simp only [List.getElem_toArray, List.getElem_cons_succ, List.getElem_cons_zero, Act.put, List.setIfInBounds_toArray, List.set_cons_zero, List.set_cons_succ]
                refine Picks.take [22] (i := 2) (v := ?v2) rfl (by kernel_rfl) (by kernel_rfl) (by kernel_rfl) (by kernel_rfl) (fun _ _ _ h => h) (Or.inl ⟨by rfl, ?y2⟩) hS ?r2
                case y2 => (intro w' hSw; unfold S14 at hSw; go_simp <;> with_reducible rfl)
                case r2 =>
                 simp only [List.getElem_toArray, List.getElem_cons_succ, List.getElem_cons_zero, Act.put, List.setIfInBounds_toArray, List.set_cons_zero, List.set_cons_succ]
                 refine Picks.take [22] (i := 3) (v := ?v3) rfl (by kernel_rfl) (by kernel_rfl) (by kernel_rfl) (by kernel_rfl) (fun _ _ _ h => h) (Or.inl ⟨by rfl, ?y3⟩) hS ?r3
                 case y3 => (intro w' hSw; unfold S14 at hSw; go_simp <;> with_reducible rfl)
                 case r3 =>
                  simp only [List.getElem_toArray, List.getElem_cons_succ, List.getElem_cons_zero, Act.put, List.setIfInBounds_toArray, List.set_cons_zero, List.set_cons_succ]
                  refine Picks.take [22] (i := 4) (v := ?v4) rfl (by kernel_rfl) (by kernel_rfl) (by kernel_rfl) (by kernel_rfl) (fun _ _ _ h => h) (Or.inl ⟨by rfl, ?y4⟩) hS ?r4
                  case y4 => (intro w' hSw; unfold S14 at hSw; go_simp <;> with_reducible rfl)
                  case r4 =>
                   simp only [List.getElem_toArray, List.getElem_cons_succ, List.getElem_cons_zero, Act.put, List.setIfInBounds_toArray, List.set_cons_zero, List.set_cons_succ]
                   refine Picks.take [22] (i := 5) (v := ?v5) rfl (by kernel_rfl) (by kernel_rfl) (by kernel_rfl) (by kernel_rfl) (fun _ _ _ h => h) (Or.inl ⟨by rfl, ?y5⟩) hS ?r5
                   case y5 => (intro w' hSw; unfold S14 at hSw; go_simp <;> with_reducible rfl)
                   case r5 =>
                    simp only [List.getElem_toArray, List.getElem_cons_succ, List.getElem_cons_zero, Act.put, List.setIfInBounds_toArray, List.set_cons_zero, List.set_cons_succ]
                    refine Picks.take [22] (i := 6) (v := ?v6) rfl (by kernel_rfl) (by kernel_rfl) (by kernel_rfl) (by kernel_rfl) (fun _ _ _ h => h) (Or.inl ⟨by rfl, ?y6⟩) hS ?r6
                    case y6 => (intro w' hSw; unfold S14 at hSw; go_simp <;> with_reducible rfl)
                    case r6 =>
                     simp only [List.getElem_toArray, List.getElem_cons_succ, List.getElem_cons_zero, Act.put, List.setIfInBounds_toArray, List.set_cons_zero, List.set_cons_succ]
                     refine Picks.take [22] (i := 7) (v := ?v7) rfl (by kernel_rfl) (by kernel_rfl) (by kernel_rfl) (by kernel_rfl) (fun _ _ _ h => h) (Or.inl ⟨by rfl, ?y7⟩) hS ?r7
                     case y7 => (intro w' hSw; unfold S14 at hSw; go_simp <;> with_reducible rfl)
                     case r7 =>
                      simp only [List.getElem_toArray, List.getElem_cons_succ, List.getElem_cons_zero, Act.put, List.setIfInBounds_toArray, List.set_cons_zero, List.set_cons_succ]
                      refine Picks.take [22] (i := 8) (v := ?v8) rfl (by kernel_rfl) (by kernel_rfl) (by kernel_rfl) (by kernel_rfl) (fun _ _ _ h => h) (Or.inl ⟨by rfl, ?y8⟩) hS ?r8
                      case y8 => (intro w' hSw; unfold S14 at hSw; go_simp <;> with_reducible rfl)
                      case r8 =>
                       simp only [List.getElem_toArray, List.getElem_cons_succ, List.getElem_cons_zero, Act.put, List.setIfInBounds_toArray, List.set_cons_zero, List.set_cons_succ]
                       refine Picks.take [22] (i := 9) (v := ?v9) rfl (by kernel_rfl) (by kernel_rfl) (by kernel_rfl) (by kernel_rfl) (fun _ _ _ h => h) (Or.inl ⟨by rfl, ?y9⟩) hS ?r9
                       case y9 => (intro w' hSw; unfold S14 at hSw; go_simp <;> with_reducible rfl)
                       case r9 =>
                        simp only [List.getElem_toArray, List.getElem_cons_succ, List.getElem_cons_zero, Act.put, List.setIfInBounds_toArray, List.set_cons_zero, List.set_cons_succ]
                        refine Picks.take [22] (i := 10) (v := ?v10) rfl (by kernel_rfl) (by kernel_rfl) (by kernel_rfl) (by kernel_rfl) (fun _ _ _ h => h) (Or.inl ⟨by rfl, ?y10⟩) hS ?r10
                        case y10 => (intro w' hSw; unfold S14 at hSw; go_simp <;> with_reducible rfl)
                        case r10 =>
                         simp only [List.getElem_toArray, List.getElem_cons_succ, List.getElem_cons_zero, Act.put, List.setIfInBounds_toArray, List.set_cons_zero, List.set_cons_succ]
                         refine Picks.take [22] (i := 11) (v := ?v11) rfl (by kernel_rfl) (by kernel_rfl) (by kernel_rfl) (by kernel_rfl) (fun _ _ _ h => h) (Or.inl ⟨by rfl, ?y11⟩) hS ?r11
                         case y11 => (intro w' hSw; unfold S14 at hSw; go_simp <;> with_reducible rfl)
                         case r11 =>
                          simp only [List.getElem_toArray, List.getElem_cons_succ, List.getElem_cons_zero, Act.put, List.setIfInBounds_toArray, List.set_cons_zero, List.set_cons_succ]
                          refine Picks.take [22] (i := 12) (v := ?v12) rfl (by kernel_rfl) (by kernel_rfl) (by kernel_rfl) (by kernel_rfl) (fun _ _ _ h => h) (Or.inl ⟨by rfl, ?y12⟩) hS ?r12
                          case y12 => (intro w' hSw; unfold S14 at hSw; go_simp <;> with_reducible rfl)
                          case r12 =>
                           simp only [List.getElem_toArray, List.getElem_cons_succ, List.getElem_cons_zero, Act.put, List.setIfInBounds_toArray, List.set_cons_zero, List.set_cons_succ]
                           refine Picks.take [22] (i := 13) (v := ?v13) rfl (by kernel_rfl) (by kernel_rfl) (by kernel_rfl) (by kernel_rfl) (fun _ _ _ h => h) (Or.inl ⟨by rfl, ?y13⟩) hS ?r13
                           case y13 => (intro w' hSw; unfold S14 at hSw; go_simp <;> with_reducible rfl)
                           case r13 =>
                            simp only [List.getElem_toArray, List.getElem_cons_succ, List.getElem_cons_zero, Act.put, List.setIfInBounds_toArray, List.set_cons_zero, List.set_cons_succ]
                            refine Picks.take [22] (i := 14) (v := ?v14) rfl (by kernel_rfl) (by kernel_rfl) (by kernel_rfl) (by kernel_rfl) (fun _ _ _ h => h) (Or.inl ⟨by rfl, ?y14⟩) hS ?r14
                            case y14 => (intro w' hSw; unfold S14 at hSw; go_simp <;> with_reducible rfl)
                            case r14 =>
                             simp only [List.getElem_toArray, List.getElem_cons_succ, List.getElem_cons_zero, Act.put, List.setIfInBounds_toArray, List.set_cons_zero, List.set_cons_succ]
                             refine Picks.take [22] (i := 15) (v := ?v15) rfl (by kernel_rfl) (by kernel_rfl) (by kernel_rfl) (by kernel_rfl) (fun _ _ _ h => h) (Or.inl ⟨by rfl, ?y15⟩) hS ?r15
                             case y15 => (intro w' hSw; unfold S14 at hSw; go_simp <;> with_reducible rfl)
                             case r15 =>
                              simp only [List.getElem_toArray, List.getElem_cons_succ, List.getElem_cons_zero, Act.put, List.setIfInBounds_toArray, List.set_cons_zero, List.set_cons_succ]
                              refine Picks.take [22] (i := 16) (v := ?v16) rfl (by kernel_rfl) (by kernel_rfl) (by kernel_rfl) (by kernel_rfl) (fun _ _ _ h => h) (Or.inl ⟨by rfl, ?y16⟩) hS ?r16
                              case y16 => (intro w' hSw; unfold S14 at hSw; go_simp <;> with_reducible rfl)
                              case r16 =>
                               simp only [List.getElem_toArray, List.getElem_cons_succ, List.getElem_cons_zero, Act.put, List.setIfInBounds_toArray, List.set_cons_zero, List.set_cons_succ]
                               refine Picks.take [22] (i := 17) (v := ?v17) rfl (by kernel_rfl) (by kernel_rfl) (by kernel_rfl) (by kernel_rfl) (fun _ _ _ h => h) (Or.inl ⟨by rfl, ?y17⟩) hS ?r17
                               case y17 => (intro w' hSw; unfold S14 at hSw; go_simp <;> with_reducible rfl)
                               case r17 =>
                                simp only [List.getElem_toArray, List.getElem_cons_succ, List.getElem_cons_zero, Act.put, List.setIfInBounds_toArray, List.set_cons_zero, List.set_cons_succ]
                                refine Picks.take [22] (i := 18) (v := ?v18) rfl (by kernel_rfl) (by kernel_rfl) (by kernel_rfl) (by kernel_rfl) (fun _ _ _ h => h) (Or.inl ⟨by rfl, ?y18⟩) hS ?r18
                                case y18 => (intro w' hSw; unfold S14 at hSw; go_simp <;> with_reducible rfl)
                                case r18 =>
                                 simp only [List.getElem_toArray, List.getElem_cons_succ, List.getElem_cons_zero, Act.put, List.setIfInBounds_toArray, List.set_cons_zero, List.set_cons_succ]
                                 refine Picks.take [22] (i := 19) (v := ?v19) rfl (by kernel_rfl) (by kernel_rfl) (by kernel_rfl) (by kernel_rfl) (fun _ _ _ h => h) (Or.inl ⟨by rfl, ?y19⟩) hS ?r19
                                 case y19 => (intro w' hSw; unfold S14 at hSw; go_simp <;> with_reducible rfl)
                                 case r19 =>
                                  simp only [List.getElem_toArray, List.getElem_cons_succ, List.getElem_cons_zero, Act.put, List.setIfInBounds_toArray, List.set_cons_zero, List.set_cons_succ]
                                  refine Picks.two (i := 20) (j := 21) (by kernel_rfl) rfl rfl (by rfl) (by rfl) (fun K hK => ?p1) (fun K hK => ?p2)
                                  case p1 =>
                                    go_simp
                                    go_wp2_with (go_at_call 21; with_reducible refine (hcall _).mono ?_; rintro e w5 ⟨g, c, rfl, hown, hbel⟩)
                                    have t5 : Turn [] W w5 := (Turn.refl [] W).drew.trans (Turn.below hbel)
                                    have h5 := h1.step t5
                                    refine hK _ _ (fun _ => h5.s14 T HL.out) ?_
                                    clear hK K
                                    refine Picks.one (i := 21) (by kernel_rfl) rfl (by rfl) (fun K hK => ?_)
                                    go_simp
                                    refine hK _ _ (fun _ => (h5.step ((Turn.refl [] _).alloc _)).s14 T HL.out) ?_
                                    clear hK K
                                    refine Picks.one (i := 22) (by kernel_rfl) rfl (by rfl) (fun K hK => ?_)
                                    go_simp
                                    refine hK _ _ (fun h => absurd rfl h) ?_
                                    clear hK K
                                    refine Picks.done (by kernel_rfl) ?_ _
                                    refine NoPanic.normal ?_
                                    go_wp2
                                    go_meet
                                    case rel => exact ⟨_, _, _, rfl, h2_new (by simpa using hown) t5⟩
                                  case p2 =>
                                    go_simp
                                    have ta : Turn [] W (W.drew.alloc (.cells #[.int .u8 0, .slice none 0 0, .map none] 120)) := (Turn.refl [] W).drew.alloc _
                                    refine hK _ _ (fun _ => (h1.step ta).s14 T HL.out) ?_
                                    clear hK K
                                    refine Picks.one (i := 20) (by kernel_rfl) rfl (by rfl) (fun K hK => ?_)
                                    go_simp
                                    go_wp2_with (go_at_call 21; with_reducible refine (hcall _).mono ?_; rintro e w5 ⟨g, c, rfl, hown, hbel⟩)
                                    have t5 : Turn [] W w5 := ta.trans (Turn.below hbel)
                                    have h5 := h1.step t5
                                    refine hK _ _ (fun _ => h5.s14 T HL.out) ?_
                                    clear hK K
                                    have q0 : w5.cell? ⟨W.heap.size, 0, none⟩ = some (.int .u8 0) := (hbel.cell (p := ⟨W.heap.size, 0, none⟩) (by simp)).trans (by go_simp)
                                    have q1 : w5.cell? ⟨W.heap.size, 1, none⟩ = some (.slice none 0 0) := (hbel.cell (p := ⟨W.heap.size, 1, none⟩) (by simp)).trans (by go_simp)
                                    have q2 : w5.cell? ⟨W.heap.size, 2, none⟩ = some (.map none) := (hbel.cell (p := ⟨W.heap.size, 2, none⟩) (by simp)).trans (by go_simp)
                                    have zq : ∀ j, w5.frozen? ⟨W.heap.size, j, none⟩ = false := fun j => (hbel.frozen (p := ⟨W.heap.size, j, none⟩) (by simp)).trans (by go_simp)
                                    refine Picks.one (i := 22) (by kernel_rfl) rfl (by rfl) (fun K hK => ?_)
                                    go_simp
                                    refine hK _ _ (fun h => absurd rfl h) ?_
                                    clear hK K
                                    refine Picks.done (by kernel_rfl) ?_ _
                                    refine NoPanic.normal ?_
                                    go_wp2
                                    go_meet
                                    case rel => exact ⟨_, _, _, rfl, h2_fill (by simpa using hown) t5 q0 q1 q2 (zq 1)⟩
            case rest =>
              obtain ⟨LB, g, c, rfl, hH2⟩ := hcut
              clear hS hcall
              have hI2 := h1.step hH2.turn
              have a1w := (hI2.ca (i * 11 + 1) (by omega)).trans T.a1
              have hvD : ∀ r, v = .map (some r) → w.heap.size ≤ r ∧ r ∉ blk lo ++ blk ro := fun r hr => by
                have h5 := h1.nv r hr
                have h6 := hI.turn.size
                refine ⟨by omega, fun hx => ?_⟩
                rcases List.mem_append.1 hx with h7 | h7
                · have := (own_base hI.ol r h7).2; omega
                · have := (own_base hI.or r h7).2; omega
              have hTW : Tab W := hI.tab.turn hI.sz h1.turn (by
                have q0 := z.one; have q1 := z.one'; have q2 := z.zS i hlt; have q3 := z.le (Nat.zero_le i)
                rw [← HD.out] at q2
                simp; omega)
              have hszW : 1 < W.heap.size := Nat.lt_of_lt_of_le hI.sz h1.turn.size
              have hCW : CA < W.heap.size := lt_of_cell h1.d6
              go_wp2_with fail
              go_loopw [97, 13] (fun x y X => ∃ k : Nat, k ≤ D.zs.length ∧ x = .int .i64 k ∧ y = .int .i64 (kp D.hs (D.zs.take k)).length ∧ ∃ g c, H2 W X LB g c (kp D.hs (D.zs.take k)).length (kp D.hs (D.zs.take k))) (fun x _ _ => D.zs.length - (intOf x).toNat)
              case atStart => exact ⟨0, by omega, rfl, rfl, g, c, hH2⟩
              case round =>
                obtain ⟨k, hkk, rfl, rfl, g, c, h2⟩ := hrel
                obtain ⟨X, hX⟩ : ∃ X, X = wr := ⟨_, rfl⟩
                subst hX
                clear hH2 hI2 a1w
                by_cases hkl : k < D.zs.length
                · have y2 : (k : Int) < (D.zs.length : Int) := by omega
                  have hx := h1.step h2.turn
                  obtain ⟨zz, hz1, c0, c1, c2, c3⟩ := row_at (hx.own T ha).1 k hkl
                  have hwz : wf16 zz := F.wf zz (List.mem_of_getElem? hz1)
                  have hX1 := hx.step (((Turn.refl [] X).alloc (.cells #[.string ⟨#[]⟩, .string ⟨#[]⟩, .int .u16 0, .int .u16 zz] 38)).drew)
                  have h2' := h2.step (((Turn.refl [] X).alloc (.cells #[.string ⟨#[]⟩, .string ⟨#[]⟩, .int .u16 0, .int .u16 zz] 38)).drew)
                  have hlook := held_look hX1.hm (fun x hx => F.wf x ((mem_hk _ _ _).1 hx).1) zz hwz
                  have hmem : zz ∈ hk D.hs D.zs ↔ zz ∈ D.hs := by rw [mem_hk]; exact ⟨fun h => h.2, fun h => ⟨List.mem_of_getElem? hz1, h⟩⟩
                  obtain ⟨Bq, hBq⟩ : ∃ Bq, Bq = decide (zz ∈ hk D.hs D.zs) := ⟨_, rfl⟩
                  rw [← hBq] at hlook
                  have HBq : Hid (Bq = decide (zz ∈ hk D.hs D.zs)) := hBq
                  clear hBq
                  obtain ⟨Cq, hCq⟩ : ∃ Cq : Int, Cq = (if zz ∈ hk D.hs D.zs then caus t zz else 0) := ⟨_, rfl⟩
                  rw [← hCq] at hlook
                  clear hCq
                  unfold cid at hlook
                  have b0 : (X.alloc (.cells #[.string ⟨#[]⟩, .string ⟨#[]⟩, .int .u16 0, .int .u16 zz] 38)).cell? ⟨X.heap.size, 0, none⟩ = some (.string ⟨#[]⟩) := by go_simp
                  have b1 : (X.alloc (.cells #[.string ⟨#[]⟩, .string ⟨#[]⟩, .int .u16 0, .int .u16 zz] 38)).cell? ⟨X.heap.size, 1, none⟩ = some (.string ⟨#[]⟩) := by go_simp
                  have b2 : (X.alloc (.cells #[.string ⟨#[]⟩, .string ⟨#[]⟩, .int .u16 0, .int .u16 zz] 38)).cell? ⟨X.heap.size, 2, none⟩ = some (.int .u16 0) := by go_simp
                  have b3 : (X.alloc (.cells #[.string ⟨#[]⟩, .string ⟨#[]⟩, .int .u16 0, .int .u16 zz] 38)).cell? ⟨X.heap.size, 3, none⟩ = some (.int .u16 zz) := by go_simp
                  have hd6x := hX1.d6
                  have T1 : Turn [] X (X.alloc (.cells #[.string ⟨#[]⟩, .string ⟨#[]⟩, .int .u16 0, .int .u16 zz] 38)) := (Turn.refl [] X).alloc _
                  go_wp2_with fail
                  generalize X.alloc (.cells #[.string ⟨#[]⟩, .string ⟨#[]⟩, .int .u16 0, .int .u16 zz] 38) = X1 at *
                  clear c0 c1 c2 c3
                  go_cut [17] from 98 to 116 (fun y wx => y = .bool Bq ∧ wx = X1.drew)
                  case first =>
                    go_region_with (fail)
                    all_goals
                      go_wp2
                      go_meet
                      case rel => exact ⟨rfl, rfl⟩
                  case rest =>
                    obtain ⟨rfl, rfl⟩ := hcut
                    cases Bq with
                    | true =>
                      have hin : zz ∈ D.hs := hmem.1 (by simpa using HBq.out)
                      have hke : kp D.hs (D.zs.take (k + 1)) = kp D.hs (D.zs.take k) := by rw [take_snoc hz1, kp_snoc, if_pos hin]
                      go_wp2
                      go_roundw
                      case rel => exact ⟨k + 1, by omega, by go_num, by rw [hke], g, c, by rw [hke]; exact h2'⟩
                      case measure => simp [intOf]; omega
                    | false =>
                      have hni : zz ∉ D.hs := fun h => by have := HBq.out; simp [hmem.2 h] at this
                      have hke : kp D.hs (D.zs.take (k + 1)) = kp D.hs (D.zs.take k) ++ [zz] := by rw [take_snoc hz1, kp_snoc, if_neg hni]
                      have hnl := kp_le D.hs D.zs k
                      have hnz := F.nz
                      have hcall := add_is LB g (kp D.hs (D.zs.take k)).length c W.heap.size (kp D.hs (D.zs.take k)) zz X1.drew (hTW.turn hszW h2'.turn (by simp)) (Nat.lt_of_lt_of_le hszW h2'.turn.size) h2'.turn.size (by omega) h2'.l0 h2'.l1 h2'.l2 h2'.z1 h2'.own h2'.lg
                      unfold cid at hcall
                      go_wp2_with (go_at_call 22; with_reducible refine hcall.mono ?_; rintro e w5 ⟨rfl, g', c', r0, r1, r2, r3, r4, r5, r6⟩)
                      have hLl : LB < X1.drew.heap.size := lt_of_cell h2'.l0
                      have hgb := (own_base h2'.own g (by simp [blk])).1
                      have hlg : LB ≠ g' := by
                        rcases r6 with h | h
                        · rw [h]; exact h2'.lg
                        · omega
                      have hll : (kp D.hs (D.zs.take (k + 1))).length = (kp D.hs (D.zs.take k)).length + 1 := by rw [hke]; simp
                      have hlb := h2'.lb
                      have hF : H2 W w5 LB g' c' ((kp D.hs (D.zs.take k)).length + 1) (kp D.hs (D.zs.take k) ++ [zz]) := ⟨r0, r1, r2, r3, r4, hlb, hlg, h2'.turn.fresh r5 (by
                        intro x hx
                        simp only [List.mem_cons, List.not_mem_nil, or_false] at hx
                        right
                        rcases hx with rfl | rfl
                        · exact hlb
                        · exact hgb)⟩
                      go_roundw
                      case rel => exact ⟨k + 1, by omega, by go_num, by rw [hll]; rfl, g', c', by rw [hll, hke]; exact hF⟩
                      case measure => simp [intOf]; omega
                · obtain rfl : k = D.zs.length := by omega
                  rw [List.take_length] at h2 ⊢
                  have hx := h1.step h2.turn
                  have hClx : CA < X.heap.size := lt_of_cell hx.d6
                  have hcz5 := hx.cz (i * 11 + 5)
                  have x5 := (hx.ca (i * 11 + 5) (by omega)).trans T.a5
                  clear hkl
                  by_cases hkp : kp D.hs D.zs = []
                  · have hk0 : ((kp D.hs D.zs).length : Int) = 0 := by simp [hkp]
                    have t5 : Turn [CA] X (X.setCell ⟨CA, i * 11 + 5, none⟩ .nilIface) := (Turn.refl _ _).setCell (by simp) _
                    have hq := hI.quiet z hlt (by rw [← HD.out]; exact hx.turn.trans (t5.mono (by simp))) (fun o ho => by rw [World.cell?_setCell_other _ _ _ _ (by simp <;> omega)]; exact rows_of hx o ho) (by rw [← HD.out]; simp [third, hkp]) (by rw [← HD.out]; exact done_all hx T ha hlC he hkp hvD) (fun o => by rw [World.frozen?_setCell]; exact hx.cz o)
                    unfold reqOf at x5
                    go_wp2
                    go_roundw
                    case rel => exact ⟨i + 1, by omega, by go_num, _, _, _, _, _, hq⟩
                    case measure => simp [intOf]; omega
                  · have hkpos : 0 < (kp D.hs D.zs).length := List.length_pos_iff.2 hkp
                    have hk0 : (((kp D.hs D.zs).length : Int) == 0) = false := by simp; exact hkp
                    unfold reqOf at x5
                    clear x5 hcz5
                    have hxd := hx.step (Turn.refl [] X).drew
                    have h2d := h2.step (Turn.refl [] X).drew
                    have hVs := hI.turn.size
                    have hWV := h1.turn.size
                    have hXW := h2.turn.size
                    have hbl : ∀ k ∈ blk lo, w.heap.size ≤ k ∧ k < V.heap.size := own_base hI.ol
                    have hbr : ∀ k ∈ blk ro, w.heap.size ≤ k ∧ k < V.heap.size := own_base hI.or
                    have zca := z.ca
                    have zll := z.ll
                    have zrr := z.rr
                    have zlB := z.llB
                    have zrB := z.rrB
                    have z0n := z.le (Nat.zero_le n)
                    have zin := z.le (show i + 1 ≤ n from hlt)
                    have zi0 := z.le (Nat.zero_le i)
                    have zSi := z.zS i hlt
                    have zcb := z.zone i hlt (d i).cb (by simp [Dat.rd])
                    rw [← HD.out] at zSi zcb
                    have hgb := own_base h2d.own g (by simp [blk])
                    have hlb := h2d.lb
                    have nL : LL ∉ [CA, D.S] := by simp; omega
                    have nR : RR ∉ [CA, D.S] := by simp; omega
                    have nlo : ∀ k ∈ blk lo, k ∉ [CA, D.S] := fun k hk => by have := hbl k hk; simp; omega
                    have nro : ∀ k ∈ blk ro, k ∉ [CA, D.S] := fun k hk => by have := hbr k hk; simp; omega
                    have hesl : es.length ≤ 1024 := by have := hI.len; have := cnt_le d i; omega
                    have hcall := clo_is LL RR w.heap.size es.length cl es.length cr g (kp D.hs D.zs).length c lo ro (xsOf es) (ysOf es) X.drew (Nat.le_trans hVs hxd.turn.size) ((hxd.turn.cell (lt_of_cell hI.bl) nL).trans hI.bl) ((hxd.turn.cell (lt_of_cell hI.br) nR).trans hI.br) z.lr ((hxd.turn.frozen (lt_of_cell hI.bl) nL).trans hI.zl) ((hxd.turn.frozen (lt_of_cell hI.br) nR).trans hI.zr) (own_turn hI.ol hxd.turn nlo) (own_turn hI.or hxd.turn nro) zlB zrB hesl hesl hI.dj
                    unfold reqOf at hcall
                    have hS : S26 LB g (kp D.hs D.zs).length c X.drew := ⟨h2d.l0, h2d.l1⟩
                    go_wp2_with fail
                    refine region_picks (S26 LB g (kp D.hs D.zs).length c) 13 (by kernel_rfl) ?_
                    refine Picks.take [13] (i := 0) (v := ?va0) rfl (by kernel_rfl) (by kernel_rfl) (by kernel_rfl) (by kernel_rfl) (fun _ _ _ h => h) (Or.inl ⟨by rfl, ?ya0⟩) hS ?ra0
                    case ya0 => (intro w' hSw; unfold S26 at hSw; go_simp <;> with_reducible rfl)
                    case ra0 =>
                     simp only [List.getElem_toArray, List.getElem_cons_succ, List.getElem_cons_zero, Act.put, List.setIfInBounds_toArray, List.set_cons_zero, List.set_cons_succ]
                     refine Picks.take [13] (i := 1) (v := ?va1) rfl (by kernel_rfl) (by kernel_rfl) (by kernel_rfl) (by kernel_rfl) (fun _ _ _ h => h) (Or.inl ⟨by rfl, ?ya1⟩) hS ?ra1
                     case ya1 => (intro w' hSw; unfold S26 at hSw; go_simp <;> with_reducible rfl)
                     case ra1 =>
                      simp only [List.getElem_toArray, List.getElem_cons_succ, List.getElem_cons_zero, Act.put, List.setIfInBounds_toArray, List.set_cons_zero, List.set_cons_succ]
                      refine Picks.take [13] (i := 2) (v := ?va2) rfl (by kernel_rfl) (by kernel_rfl) (by kernel_rfl) (by kernel_rfl) (fun _ _ _ h => h) (Or.inl ⟨by rfl, ?ya2⟩) hS ?ra2
                      case ya2 => (intro w' hSw; unfold S26 at hSw; go_simp <;> with_reducible rfl)
                      case ra2 =>
                       simp only [List.getElem_toArray, List.getElem_cons_succ, List.getElem_cons_zero, Act.put, List.setIfInBounds_toArray, List.set_cons_zero, List.set_cons_succ]
                       refine Picks.take [13] (i := 3) (v := ?va3) rfl (by kernel_rfl) (by kernel_rfl) (by kernel_rfl) (by kernel_rfl) (fun _ _ _ h => h) (Or.inl ⟨by rfl, ?ya3⟩) hS ?ra3
                       case ya3 => (intro w' hSw; unfold S26 at hSw; go_simp <;> with_reducible rfl)
                       case ra3 =>
                        simp only [List.getElem_toArray, List.getElem_cons_succ, List.getElem_cons_zero, Act.put, List.setIfInBounds_toArray, List.set_cons_zero, List.set_cons_succ]
                        refine Picks.take [13] (i := 4) (v := ?va4) rfl (by kernel_rfl) (by kernel_rfl) (by kernel_rfl) (by kernel_rfl) (fun _ _ _ h => h) (Or.inl ⟨by rfl, ?ya4⟩) hS ?ra4
                        case ya4 => (intro w' hSw; unfold S26 at hSw; go_simp <;> with_reducible rfl)
                        case ra4 =>
                         simp only [List.getElem_toArray, List.getElem_cons_succ, List.getElem_cons_zero, Act.put, List.setIfInBounds_toArray, List.set_cons_zero, List.set_cons_succ]
                         refine Picks.take [13] (i := 5) (v := ?va5) rfl (by kernel_rfl) (by kernel_rfl) (by kernel_rfl) (by kernel_rfl) (fun _ _ _ h => h) (Or.inl ⟨by rfl, ?ya5⟩) hS ?ra5
                         case ya5 => (intro w' hSw; unfold S26 at hSw; go_simp <;> with_reducible rfl)
                         case ra5 =>
                          simp only [List.getElem_toArray, List.getElem_cons_succ, List.getElem_cons_zero, Act.put, List.setIfInBounds_toArray, List.set_cons_zero, List.set_cons_succ]
                          refine Picks.take [13] (i := 6) (v := ?va6) rfl (by kernel_rfl) (by kernel_rfl) (by kernel_rfl) (by kernel_rfl) (fun _ _ _ h => h) (Or.inl ⟨by rfl, ?ya6⟩) hS ?ra6
                          case ya6 => (intro w' hSw; unfold S26 at hSw; go_simp <;> with_reducible rfl)
                          case ra6 =>
                           simp only [List.getElem_toArray, List.getElem_cons_succ, List.getElem_cons_zero, Act.put, List.setIfInBounds_toArray, List.set_cons_zero, List.set_cons_succ]
                           refine Picks.one (i := 7) (by kernel_rfl) rfl (by rfl) (fun K hK => ?_)
                           go_simp
                           go_wp2_with (go_at_call 8; with_reducible refine hcall.mono ?_; rintro e w6 ⟨R, rfl, hR, lo', cl', ro', cr', f1, f2, f3, f4, f5, f6, f7, f8, f9, ht6⟩)
                           have nex : ∀ x, V.heap.size ≤ x → x ∉ LL :: RR :: (blk lo ++ blk ro) := fun x hx h => by
                             simp only [List.mem_cons, List.mem_append] at h
                             rcases h with h | h | h | h
                             · omega
                             · omega
                             · have := hbl _ h; omega
                             · have := hbr _ h; omega
                           have nex2 : ∀ x, x < b n → x ∉ LL :: RR :: (blk lo ++ blk ro) := fun x hx h => by
                             simp only [List.mem_cons, List.mem_append] at h
                             rcases h with h | h | h | h
                             · omega
                             · omega
                             · have := hbl _ h; omega
                             · have := hbr _ h; omega
                           have nC : CA ∉ LL :: RR :: (blk lo ++ blk ro) := nex2 CA (by omega)
                           have nLB := nex LB (by omega)
                           have hClx' : CA < X.drew.heap.size := hClx
                           have hLBl : LB < X.drew.heap.size := lt_of_cell h2d.l0
                           have hS6 : S26 LB g (kp D.hs D.zs).length c w6 := ⟨(ht6.cell hLBl nLB).trans h2d.l0, (ht6.cell hLBl nLB).trans h2d.l1⟩
                           have g3 := (ht6.cell (p := ⟨CA, i * 11 + 3, none⟩) hClx' nC).trans ((hxd.ca _ (by omega)).trans T.a3)
                           have g4 := (ht6.cell (p := ⟨CA, i * 11 + 4, none⟩) hClx' nC).trans ((hxd.ca _ (by omega)).trans T.a4)
                           have g5 := (ht6.cell (p := ⟨CA, i * 11 + 5, none⟩) hClx' nC).trans ((hxd.ca _ (by omega)).trans T.a5)
                           unfold reqOf at g5
                           have hz6 : ∀ o, w6.frozen? ⟨CA, o, none⟩ = false := fun o => (ht6.frozen (p := ⟨CA, o, none⟩) hClx' nC).trans (hxd.cz o)
                           have hz3 := hz6 (i * 11 + 3)
                           have hz4 := hz6 (i * 11 + 4)
                           have hz5 := hz6 (i * 11 + 5)
                           have hLC : LB ≠ CA := by omega
                           refine hK _ _ (fun _ => hS6) ?_
                           clear hK K
                           refine Picks.one (i := 8) (by kernel_rfl) rfl (by rfl) (fun K hK => ?_)
                           go_simp
                           refine hK _ _ (fun _ => hS6) ?_
                           clear hK K
                           refine Picks.one (i := 9) (by kernel_rfl) rfl (by rfl) (fun K hK => ?_)
                           go_simp
                           refine hK _ _ (fun _ => hS6) ?_
                           clear hK K
                           refine Picks.one (i := 10) (by kernel_rfl) rfl (by rfl) (fun K hK => ?_)
                           go_simp
                           have hS7 : S26 LB g (kp D.hs D.zs).length c ((w6.setCell ⟨CA, i * 11 + 3, none⟩ (.int .u8 0)).setCell ⟨CA, i * 11 + 4, none⟩ (.slice (some ⟨g, 0, none⟩) (kp D.hs D.zs).length c)) := by
                             refine ⟨?_, ?_⟩
                             · rw [World.cell?_setCell_other _ _ _ _ (by simp [hLC]), World.cell?_setCell_other _ _ _ _ (by simp [hLC])]; exact hS6.1
                             · rw [World.cell?_setCell_other _ _ _ _ (by simp [hLC]), World.cell?_setCell_other _ _ _ _ (by simp [hLC])]; exact hS6.2
                           refine hK _ _ (fun _ => hS7) ?_
                           clear hK K
                           refine Picks.one (i := 11) (by kernel_rfl) rfl (by rfl) (fun K hK => ?_)
                           go_simp
                           refine hK _ _ (fun _ => hS7) ?_
                           clear hK K
                           refine Picks.one (i := 12) (by kernel_rfl) rfl (by rfl) (fun K hK => ?_)
                           go_simp
                           refine hK _ _ (fun _ => hS7) ?_
                           clear hK K
                           refine Picks.one (i := 13) (by kernel_rfl) rfl (by rfl) (fun K hK => ?_)
                           go_simp
                           refine hK _ _ (fun h => absurd rfl h) ?_
                           clear hK K
                           refine Picks.done (by kernel_rfl) ?_ _
                           refine NoPanic.normal ?_
                           go_wp2
                           have t7 : Turn [CA] w6 (((w6.setCell ⟨CA, i * 11 + 3, none⟩ (.int .u8 0)).setCell ⟨CA, i * 11 + 4, none⟩ (.slice (some ⟨g, 0, none⟩) (kp D.hs D.zs).length c)).setCell ⟨CA, i * 11 + 5, none⟩ (reqOf R)) := (((Turn.refl _ _).setCell (by simp) _).setCell (by simp) _).setCell (by simp) _
                           have hs6 : X.drew.heap.size ≤ w6.heap.size := ht6.size
                           have hXd : X.drew.heap.size = X.heap.size := rfl
                           have h3d : third (d i) = true := by rw [← HD.out]; simp [third, he, hkp]
                           have hlo' : ∀ k ∈ blk lo', w.heap.size ≤ k := fun k hk => (own_base f5 k hk).1
                           have hro' : ∀ k ∈ blk ro', w.heap.size ≤ k := fun k hk => (own_base f6 k hk).1
                           have hq := Inv.step (ext := [⟨R, g, (kp D.hs D.zs).length, c⟩]) (lo' := lo') (cl' := cl') (ro' := ro') (cr' := cr') (W' := (((w6.setCell ⟨CA, i * 11 + 3, none⟩ (.int .u8 0)).setCell ⟨CA, i * 11 + 4, none⟩ (.slice (some ⟨g, 0, none⟩) (kp D.hs D.zs).length c)).setCell ⟨CA, i * 11 + 5, none⟩ (reqOf R))) hI z hlt
                             (by rw [← HD.out]; exact ((hxd.turn.mono (by intro x hx; simp only [List.mem_cons, List.not_mem_nil, or_false] at hx ⊢; rcases hx with h | h <;> simp [h])).trans (ht6.mono (by intro x hx; simp only [List.mem_cons] at hx ⊢; rcases hx with h | h | h <;> simp [h]))).trans (t7.mono (by intro x hx; simp only [List.mem_cons, List.not_mem_nil, or_false] at hx; simp [hx])))
                             (fun o ho => by
                               rw [World.cell?_setCell_other _ _ _ _ (by simp <;> omega), World.cell?_setCell_other _ _ _ _ (by simp <;> omega), World.cell?_setCell_other _ _ _ _ (by simp <;> omega), ht6.cell (p := ⟨CA, o, none⟩) hClx' nC]
                               exact rows_of hxd o ho)
                             (by simp only [List.length_append, List.length_cons, List.length_nil, cnt, h3d, if_true]; rw [hI.len])
                             (by rw [t7.cell (p := ⟨LL, 0, none⟩) (lt_of_cell f1) (by simp; omega)]; simpa using f1)
                             (by rw [t7.cell (p := ⟨RR, 0, none⟩) (lt_of_cell f2) (by simp; omega)]; simpa using f2)
                             (by rw [t7.frozen (p := ⟨LL, 0, none⟩) (lt_of_cell f1) (by simp; omega)]; exact f3)
                             (by rw [t7.frozen (p := ⟨RR, 0, none⟩) (lt_of_cell f2) (by simp; omega)]; exact f4)
                             (by rw [xs_snoc, List.length_append]; exact own_turn f5 t7 (fun k hk => by have := hlo' k hk; simp; omega))
                             (by rw [ys_snoc, List.length_append]; exact own_turn f6 t7 (fun k hk => by have := hro' k hk; simp; omega))
                             f7 (fun k hk => (f8 k hk).imp id (fun h => by omega)) (fun k hk => (f9 k hk).imp id (fun h => by omega))
                             (by
                               rw [← HD.out]
                               refine done_third hxd T ha hlC h2d.own ht6 nC (nex2 _ (by omega)) (nex2 _ (by omega)) (nex _ (by omega)) (fun r hr => nex r (by have := h1.nv r hr; omega)) (by omega) he hkp (fun r hr => ⟨(hvD r hr).1, fun hx => ?_⟩) ⟨by omega, fun hx => ?_⟩ (by rw [← hI.len]; simp)
                               · have hrl : r < X.drew.heap.size := by subst hr; exact hxd.hm.lt
                                 rcases List.mem_append.1 hx with h | h
                                 · rcases f8 _ h with h' | h'
                                   · exact (hvD r hr).2 (by simp [h'])
                                   · omega
                                 · rcases f9 _ h with h' | h'
                                   · exact (hvD r hr).2 (by simp [h'])
                                   · omega
                               · rcases List.mem_append.1 hx with h | h
                                 · rcases f8 _ h with h' | h'
                                   · have := hbl _ h'; omega
                                   · omega
                                 · rcases f9 _ h with h' | h'
                                   · have := hbr _ h'; omega
                                   · omega)
                             (fun o => by rw [World.frozen?_setCell, World.frozen?_setCell, World.frozen?_setCell]; exact hz6 o)
                           go_roundw
                           case rel => exact ⟨i + 1, by omega, by go_num, _, _, _, _, _, hq⟩
                           case measure => simp [intOf]; omega
    · obtain rfl : i = n := by omega
      go_wp2
      go_returns
      exact ⟨rfl, _, _, _, _, _, hI⟩
end Go.Proofs.YbulkccjsDoor.H
