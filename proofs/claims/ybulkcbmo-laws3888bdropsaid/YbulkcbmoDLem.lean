import Derived.Test.YbulkcbmoDDrop
import Derived.WalkKit
import Derived.WalkSpells
import Derived.WalkLawsBesides
import Derived.Deep.RegionHeld3
import Derived.Deep.RegionWith
import Derived.Deep.DrawnRows
import Derived.Deep.AppendLies
import Derived.Deep.CutRange
import Derived.Deep.DeepCutAuto
import Derived.Deep.CutBlock
import Derived.Laws.BitsAllLaws
namespace Go.Proofs.Ybulkcbmo.D
open Go.RowKit
set_option linter.unusedSimpArgs false
set_option linter.unusedVariables false
set_option linter.unnecessarySimpa false
attribute [local go_sem ↓] Go.wp_at_zero Go.wp_at_succ

/-- Pointers to whole blocks. -/
def ptrs (bs : List Nat) : List Value := bs.map fun b => .pointer (some ⟨b, 0, none⟩)
theorem ptrs_one (bs : List Nat) : ∀ u ∈ ptrs bs, u.oneCell' = true := by
  intro u hu
  obtain ⟨_, _, rfl⟩ := List.mem_map.1 hu
  rfl
theorem ptrs_snoc (bs : List Nat) (b : Nat) : ptrs (bs ++ [b]) = ptrs bs ++ [.pointer (some ⟨b, 0, none⟩)] := by simp [ptrs]
theorem ptrs_length (bs : List Nat) : (ptrs bs).length = bs.length := by simp [ptrs]

/-- What the switch on the state leaves: no Data Set; some held; withdrawn. -/
def Kind (st id : Int) (m3 : Option Nat) (es2 es3 : List (Int × Value)) (bp : Bool) (po : Option Addr) (pn pc : Nat) : Prop :=
  (st = 0 ∧ m3 = none ∧ es2 = [] ∧ es3 = [] ∧ bp = false ∧ po = none ∧ pn = 0 ∧ pc = 0) ∨
  (st = 1 ∧ m3 = none ∧ es2 = [(id, sv false (.slice po pn pc))] ∧ es3 = [] ∧ bp = false ∧ 0 < pn) ∨
  (st = 2 ∧ (∃ r3, m3 = some r3) ∧ es2 = [] ∧ es3 = [(id, sv true (.slice none 0 0))] ∧ bp = true ∧ po = none ∧ pn = 0 ∧ pc = 0)

/-- The world behind the switch. -/
def AfterA (w wx : World) (st id : Int) (po : Option Addr) (pn pc : Nat) (hs : List Nat) (m2 m3 : Option Nat) (es2 es3 : List (Int × Value)) (bp : Bool) : Prop :=
  Kind st id m3 es2 es3 bp po pn pc ∧ Dom wx w.heap.size m2 m3 es2 es3 ∧ wx.cell? ⟨w.heap.size + 1, 4, none⟩ = some (.bool bp) ∧ Held wx po pn pc (ptrs hs) ∧ Below w.heap.size w wx ∧ pn ≤ 11 ∧
    (∀ k ∈ blk po, w.heap.size + 1 < k ∧ k < wx.heap.size) ∧ (∀ k ∈ m2.toList ++ m3.toList, w.heap.size + 1 < k ∧ k < wx.heap.size) ∧ ∀ r q, m2 = some r → m3 = some q → q ≠ r

theorem xor_ne (id : Int) (hi : 0 ≤ id ∧ id ≤ 65535) : bits .xor .u16 id 1 ≠ id := by
  rw [u16_xor id 1 (by omega) (by omega) (by omega) (by omega)]
  intro h
  have h1 : (1 : Int).toNat = 1 := rfl
  rw [h1] at h
  have h2 : id.toNat ^^^ 1 = id.toNat := by omega
  have h3 := congrArg (fun x => id.toNat ^^^ x) h2
  simp [← Nat.xor_assoc] at h3

theorem alloc_set (X : World) (o o' : Obj) : { X.alloc o with heap := (X.alloc o).heap.setIfInBounds X.heap.size o' } = X.alloc o' := by
  have ha : (X.heap.push o).setIfInBounds X.heap.size o' = X.heap.push o' := by
    apply Array.ext
    · simp
    · intro i h1 h2
      simp only [Array.getElem_setIfInBounds, Array.getElem_push]
      by_cases hi : X.heap.size = i
      · subst hi; simp
      · simp at h2
        have : i < X.heap.size := by omega
        rw [Array.getElem_setIfInBounds_ne (by simpa using h1) hi, Array.getElem_push_lt this]
        simp [this]
  have e : ({ X.alloc o with heap := (X.alloc o).heap.setIfInBounds X.heap.size o' } : World) = { X with heap := (X.heap.push o).setIfInBounds X.heap.size o' } := rfl
  rw [e, ha]
  rfl

theorem ins_new (X : World) (id : Int) (v : Value) : (Instr.mapUpdate 30 (.map (some X.heap.size)) (.int .u16 id) v).run Yba.prog (X.alloc (.map #[] 0)) = .ok () (X.alloc (.map #[{ key := .int .u16 id, val := v, born := 0 }] 1)) := by
  have hb : (X.alloc (.map #[] 0)).heap[X.heap.size]? = some (.map #[] 0) := (MapKept.heap_alloc X _).1
  have hf : Instr.findNow (.int .u16) (.int .u16 id) ([] : List MapEntry) 0 = some none := rfl
  have hc : (Instr.checkKey false 10000 27 (.int .u16 id)).run Yba.prog (X.alloc (.map #[] 0)) = .ok () (X.alloc (.map #[] 0)) := MapKept.run_checkKey (k := .int .u16 id) Yba.underlying27 (by simp [MapKept.IsKey]) false 9999
  simp [Instr.mapUpdate, run_underlying Yba.underlying30, MapKept.run_getObj_map hb, hc, MapKept.run_findKey Yba.underlying27 hf, MapKept.run_setObj_map _ hb, Result.andThen]
  exact alloc_set X _ _
theorem ins_newD (X : World) (id : Int) (v : Value) : (Instr.mapUpdate 30 (.map (some X.heap.size)) (.int .u16 id) v).run Yba.prog (X.alloc (.map #[] 0)).drew = .ok () (X.alloc (.map #[{ key := .int .u16 id, val := v, born := 0 }] 1)).drew := ins_new X.drew id v
theorem insS_new (X : World) (v : Value) : (Instr.mapUpdate 58 (.map (some X.heap.size)) (.int .u32 0) v).run Yba.prog (X.alloc (.map #[] 0)) = .ok () (X.alloc (.map #[{ key := .int .u32 0, val := v, born := 0 }] 1)) := by
  have hb : (X.alloc (.map #[] 0)).heap[X.heap.size]? = some (.map #[] 0) := (MapKept.heap_alloc X _).1
  have hf : Instr.findNow (.int .u32) (.int .u32 0) ([] : List MapEntry) 0 = some none := rfl
  have hc : (Instr.checkKey false 10000 32 (.int .u32 0)).run Yba.prog (X.alloc (.map #[] 0)) = .ok () (X.alloc (.map #[] 0)) := MapKept.run_checkKey (k := .int .u32 0) Yba.underlying32 (by simp [MapKept.IsKey]) false 9999
  simp [Instr.mapUpdate, run_underlying Yba.underlying58, MapKept.run_getObj_map hb, hc, MapKept.run_findKey Yba.underlying32 hf, MapKept.run_setObj_map _ hb, Result.andThen]
  exact alloc_set X _ _

theorem after_U (w : World) (id : Int) : AfterA w ((w.alloc (.cells #[.map none, .map none, .map none, .map none, .int .u32 0, .bool false] 34)).alloc (.cells #[.pointer none, .int .u64 0, .int .i64 0, .pointer none, .bool false, .slice none 0 0] 41)) 0 id none 0 0 [] none none [] [] false := by
  refine ⟨.inl ⟨rfl, rfl, rfl, rfl, rfl, rfl, rfl, rfl⟩, ⟨by simp, by simp, by simp, by simp, .inl ⟨rfl, rfl⟩, .inl ⟨rfl, rfl⟩, by simp, by simp⟩, by simp, .inl ⟨rfl, rfl, rfl, rfl⟩, ((Below.refl _ _).alloc (Nat.le_refl _) _).alloc (by simp) _, by omega, by simp [blk], by simp, by simp⟩

/-- The domain and prev as they lie before the switch hangs a map in. -/
structure Ab (w W : World) (b : Bool) (h : Value) : Prop where
  d0 : W.cell? ⟨w.heap.size, 0, none⟩ = some (.map none)
  d1 : W.cell? ⟨w.heap.size, 1, none⟩ = some (.map none)
  d2 : W.cell? ⟨w.heap.size, 2, none⟩ = some (.map none)
  d3 : W.cell? ⟨w.heap.size, 3, none⟩ = some (.map none)
  z2 : W.frozen? ⟨w.heap.size, 2, none⟩ = false
  z3 : W.frozen? ⟨w.heap.size, 3, none⟩ = false
  two : Two W (w.heap.size + 1) (w.heap.size + 1) b h b h
  zp : ∀ j, W.frozen? ⟨w.heap.size + 1, j, none⟩ = false
  bel : Below w.heap.size w W
  sz : w.heap.size + 1 < W.heap.size

theorem Two.six {w' : World} {A B : Nat} {ba bb : Bool} {ha hb : Value} (h : Two w' A B ba ha bb hb) : w'.cell? ⟨A, 0, none⟩ = some (.pointer none) ∧ w'.cell? ⟨A, 1, none⟩ = some (.int .u64 0) ∧ w'.cell? ⟨A, 2, none⟩ = some (.int .i64 0) ∧ w'.cell? ⟨A, 3, none⟩ = some (.pointer none) ∧ w'.cell? ⟨A, 4, none⟩ = some (.bool ba) ∧ w'.cell? ⟨A, 5, none⟩ = some ha :=
  ⟨h.a0, h.a1, h.a2, h.a3, h.a4, h.a5⟩

theorem ab_start (w : World) (b : Bool) (h : Value) : Ab w ((w.alloc (.cells #[.map none, .map none, .map none, .map none, .int .u32 0, .bool false] 34)).alloc (.cells #[.pointer none, .int .u64 0, .int .i64 0, .pointer none, .bool b, h] 41)) b h :=
  ⟨by simp, by simp, by simp, by simp, by simp, by simp, ⟨by simp, by simp, by simp, by simp, by simp, by simp, by simp, by simp, by simp, by simp, by simp, by simp⟩, by intro j; simp, ((Below.refl _ _).alloc (Nat.le_refl _) _).alloc (by simp) _, by simp⟩

/-- Behind the hanging in of a map with one entry, at place j of the domain. -/
theorem Ab.hung {w W : World} {b : Bool} {h : Value} (ab : Ab w W b h) (j : Nat) (id : Int) (v : Value) :
    let V := ((W.setCell ⟨w.heap.size, j, none⟩ (.map (some W.heap.size))).alloc (.map #[{ key := .int .u16 id, val := v, born := 0 }] 1)).drew
    Turn [w.heap.size] W V ∧ MapIs V (.map (some W.heap.size)) [(id, v)] ∧ (∀ u, W.cell? ⟨w.heap.size, j, none⟩ = some u → V.cell? ⟨w.heap.size, j, none⟩ = some (.map (some W.heap.size))) ∧ (∀ i, i ≠ j → V.cell? ⟨w.heap.size, i, none⟩ = W.cell? ⟨w.heap.size, i, none⟩) ∧ (∀ i, V.frozen? ⟨w.heap.size, i, none⟩ = W.frozen? ⟨w.heap.size, i, none⟩) ∧ W.heap.size < V.heap.size := by
  intro V
  have hs : (W.setCell ⟨w.heap.size, j, none⟩ (.map (some W.heap.size))).heap.size = W.heap.size := by simp [World.setCell]
  have hl : w.heap.size < (W.setCell ⟨w.heap.size, j, none⟩ (.map (some W.heap.size))).heap.size := by have := ab.sz; omega
  have hb : Below (W.setCell ⟨w.heap.size, j, none⟩ (.map (some W.heap.size))).heap.size (W.setCell ⟨w.heap.size, j, none⟩ (.map (some W.heap.size))) V := (((Below.refl _ _).alloc (Nat.le_refl _) _)).drew
  refine ⟨(((Turn.refl [w.heap.size] W).setCell (by simp) _).alloc _).drew, .inr ⟨W.heap.size, #[{ key := .int .u16 id, val := v, born := 0 }], 1, rfl, ?_, rfl⟩, fun u hu => ?_, fun i hi => ?_, fun i => ?_, ?_⟩
  · have e := (MapKept.heap_alloc (W.setCell ⟨w.heap.size, j, none⟩ (.map (some W.heap.size))) (.map #[{ key := .int .u16 id, val := v, born := 0 }] 1)).1
    rw [hs] at e
    exact e
  · exact (hb.cell (p := ⟨w.heap.size, j, none⟩) hl).trans (World.cell?_setCell_same _ _ _ hu)
  · refine (hb.cell (p := ⟨w.heap.size, i, none⟩) hl).trans ?_
    exact World.cell?_setCell_other _ _ _ _ (by simpa using Ne.symm hi)
  · refine (hb.frozen (p := ⟨w.heap.size, i, none⟩) hl).trans ?_
    exact World.frozen?_setCell _ _ _ _
  · have e : V.heap.size = (W.setCell ⟨w.heap.size, j, none⟩ (.map (some W.heap.size))).heap.size + 1 := by
      show ((W.setCell ⟨w.heap.size, j, none⟩ (.map (some W.heap.size))).alloc (.map #[{ key := .int .u16 id, val := v, born := 0 }] 1)).heap.size = _
      simp
    omega

theorem after_W {w W : World} {id : Int} (ab : Ab w W true (.slice none 0 0)) :
    AfterA w ((W.setCell ⟨w.heap.size, 3, none⟩ (.map (some W.heap.size))).alloc (.map #[{ key := .int .u16 id, val := sv true (.slice none 0 0), born := 0 }] 1)).drew 2 id none 0 0 [] none (some W.heap.size) [] [(id, sv true (.slice none 0 0))] true := by
  obtain ⟨ht, hm, h1, h2, h3, h4⟩ := ab.hung 3 id (sv true (.slice none 0 0))
  refine ⟨.inr (.inr ⟨rfl, ⟨_, rfl⟩, rfl, rfl, rfl, rfl, rfl, rfl⟩), ⟨(h2 0 (by omega)).trans ab.d0, (h2 1 (by omega)).trans ab.d1, (h2 2 (by omega)).trans ab.d2, h1 _ ab.d3, .inl ⟨rfl, rfl⟩, hm, (h3 2).trans ab.z2, (h3 3).trans ab.z3⟩, (ht.cell (lt_of_cell ab.two.a4) (by simp)).trans ab.two.a4, .inl ⟨rfl, rfl, rfl, rfl⟩,
    ab.bel.trans (ht.toBelow (by simp) (by have := ab.sz; omega)), by omega, by simp [blk], fun k hk => by have h5 := ab.sz; simp at hk; subst hk; exact ⟨h5, h4⟩, by simp⟩

theorem own_base {W : World} {base e size n c : Nat} {o : Option Addr} {xs : List Value} (h : W.ownsRow base e size (.slice o n c) n xs) : ∀ k ∈ blk o, base ≤ k ∧ k < W.heap.size := by
  obtain ⟨h1, ⟨h, _⟩ | ⟨g, cap, cur, h2, h3, h4, h5⟩⟩ := h
  · cases h; simp [blk]
  · cases h2
    intro k hk
    have : k = g := by simpa [blk] using hk
    subst this
    exact ⟨h3, (Array.getElem?_eq_some_iff.1 h4).1⟩

theorem blk_own {n c k : Nat} {o : Option Addr} (h : (Value.slice o n c).ownBlock = some k) : k ∈ blk o := by
  cases o with
  | none => simp [Value.ownBlock] at h
  | some a => simpa [Value.ownBlock, blk] using h.symm

/-- Behind the loop that holds Data Sets, and the store into prev. -/
theorem Ab.fill {w W wr : World} {b : Bool} {h : Value} (ab : Ab w W b h) (hb : Below W.heap.size W wr) (h' : Value) :
    Ab w ((((((wr.setCell ⟨w.heap.size + 1, 0, none⟩ (.pointer none)).setCell ⟨w.heap.size + 1, 1, none⟩ (.int .u64 0)).setCell ⟨w.heap.size + 1, 2, none⟩ (.int .i64 0)).setCell ⟨w.heap.size + 1, 3, none⟩ (.pointer none)).setCell ⟨w.heap.size + 1, 4, none⟩ (.bool false)).setCell ⟨w.heap.size + 1, 5, none⟩ h') false h' := by
  have lD : w.heap.size < W.heap.size := by have := ab.sz; omega
  have lP : w.heap.size + 1 < W.heap.size := ab.sz
  have tt : Turn [w.heap.size + 1] wr ((((((wr.setCell ⟨w.heap.size + 1, 0, none⟩ (.pointer none)).setCell ⟨w.heap.size + 1, 1, none⟩ (.int .u64 0)).setCell ⟨w.heap.size + 1, 2, none⟩ (.int .i64 0)).setCell ⟨w.heap.size + 1, 3, none⟩ (.pointer none)).setCell ⟨w.heap.size + 1, 4, none⟩ (.bool false)).setCell ⟨w.heap.size + 1, 5, none⟩ h') := ((((((Turn.refl [w.heap.size + 1] wr).setCell (by simp) _).setCell (by simp) _).setCell (by simp) _).setCell (by simp) _).setCell (by simp) _).setCell (by simp) _
  have lD' := Nat.lt_of_lt_of_le lD hb.size
  have nD : w.heap.size ∉ [w.heap.size + 1] := by simp
  have p0 := (hb.cell (p := ⟨w.heap.size + 1, 0, none⟩) lP).trans ab.two.a0
  have p1 := (hb.cell (p := ⟨w.heap.size + 1, 1, none⟩) lP).trans ab.two.a1
  have p2 := (hb.cell (p := ⟨w.heap.size + 1, 2, none⟩) lP).trans ab.two.a2
  have p3 := (hb.cell (p := ⟨w.heap.size + 1, 3, none⟩) lP).trans ab.two.a3
  have p4 := (hb.cell (p := ⟨w.heap.size + 1, 4, none⟩) lP).trans ab.two.a4
  have p5 := (hb.cell (p := ⟨w.heap.size + 1, 5, none⟩) lP).trans ab.two.a5
  refine ⟨(tt.cell lD' nD).trans ((hb.cell lD).trans ab.d0), (tt.cell lD' nD).trans ((hb.cell lD).trans ab.d1), (tt.cell lD' nD).trans ((hb.cell lD).trans ab.d2), (tt.cell lD' nD).trans ((hb.cell lD).trans ab.d3), (tt.frozen lD' nD).trans ((hb.frozen lD).trans ab.z2), (tt.frozen lD' nD).trans ((hb.frozen lD).trans ab.z3),
    ⟨?_, ?_, ?_, ?_, ?_, ?_, ?_, ?_, ?_, ?_, ?_, ?_⟩, fun j => ?_, (ab.bel.trans (hb.mono (Nat.le_of_lt lD))).trans (tt.toBelow (by simp) (Nat.le_of_lt lD')), ?_⟩
  all_goals first | (go_simp; done) | skip
  · simp only [World.frozen?_setCell]; exact (hb.frozen (p := ⟨w.heap.size + 1, j, none⟩) lP).trans (ab.zp j)
  · simp [World.setCell]; have := hb.size; omega

theorem after_H {w W : World} {id : Int} {po : Option Addr} {pn pc : Nat} {hs : List Nat} (ab : Ab w W false (.slice po pn pc)) (hn0 : 0 < pn) (hn : pn ≤ 11) (hh : Held W po pn pc (ptrs hs)) (hp : ∀ k ∈ blk po, w.heap.size + 1 < k ∧ k < W.heap.size) :
    AfterA w ((W.setCell ⟨w.heap.size, 2, none⟩ (.map (some W.heap.size))).alloc (.map #[{ key := .int .u16 id, val := sv false (.slice po pn pc), born := 0 }] 1)).drew 1 id po pn pc hs (some W.heap.size) none [(id, sv false (.slice po pn pc))] [] false := by
  obtain ⟨ht, hm, h1, h2, h3, h4⟩ := ab.hung 2 id (sv false (.slice po pn pc))
  refine ⟨.inr (.inl ⟨rfl, rfl, rfl, rfl, rfl, hn0⟩), ⟨(h2 0 (by omega)).trans ab.d0, (h2 1 (by omega)).trans ab.d1, h1 _ ab.d2, (h2 3 (by omega)).trans ab.d3, hm, .inl ⟨rfl, rfl⟩, (h3 2).trans ab.z2, (h3 3).trans ab.z3⟩, (ht.cell (lt_of_cell ab.two.a4) (by simp)).trans ab.two.a4, held_turn hh ht (fun k hk => by have := (hp k hk).1; simp; omega),
    ab.bel.trans (ht.toBelow (by simp) (by have := ab.sz; omega)), hn, fun k hk => ⟨(hp k hk).1, by have := (hp k hk).2; exact Nat.lt_of_lt_of_le this ht.size⟩, fun k hk => by have h5 := ab.sz; simp at hk; subst hk; exact ⟨h5, h4⟩, by simp⟩

theorem held_own {W : World} {base n c : Nat} {o : Option Addr} {bs : List Nat} (h : W.ownsRow base 42 1 (.slice o n c) n (ptrs bs)) (h0 : 0 < n) (hm : n ≤ 1000) : Held W o n c (ptrs bs) := by
  have hlen : (ptrs bs).length = n := by simpa using h.1
  have hc := h
  obtain ⟨h1, ⟨_, h⟩ | ⟨g, cap, cur, h2, h3, h4, h5⟩⟩ := h
  · omega
  · cases h2
    refine .inr ⟨⟨g, 0, none⟩, rfl, h0, hm, hlen, fun j u hj => ?_, ptrs_one _⟩
    have hjl : j < n := by
      have := (List.getElem?_eq_some_iff.1 hj).1
      omega
    rw [Addr.add_lit, Nat.zero_add, hc.cellAt j (by omega)]
    exact hj

/-- What stays as it is from the setting up of the domain on: all of it lies below block N. -/
structure Base (w W : World) (N : Nat) (po : Option Addr) (pn pc : Nat) (hs : List Nat) (m2 m3 : Option Nat) (es2 es3 : List (Int × Value)) (bp : Bool) : Prop where
  dom : Dom W w.heap.size m2 m3 es2 es3
  pv : W.cell? ⟨w.heap.size + 1, 4, none⟩ = some (.bool bp)
  held : Held W po pn pc (ptrs hs)
  bel : Below w.heap.size w W
  lt : ∀ k ∈ blk po ++ (m2.toList ++ m3.toList), k < N
  lo : ∀ k ∈ blk po ++ (m2.toList ++ m3.toList), w.heap.size + 1 < k
  mm : ∀ r q, m2 = some r → m3 = some q → q ≠ r
  ds : w.heap.size + 1 < N
  sz : N ≤ W.heap.size

theorem Base.step {w W W' : World} {N : Nat} {po : Option Addr} {pn pc : Nat} {hs : List Nat} {m2 m3 : Option Nat} {es2 es3 : List (Int × Value)} {bp : Bool} (h : Base w W N po pn pc hs m2 m3 es2 es3 bp) {ex : List Nat} (ht : Turn ex W W') (hex : ∀ k ∈ ex, N ≤ k) : Base w W' N po pn pc hs m2 m3 es2 es3 bp := by
  have hn : ∀ k, k < N → k ∉ ex := fun k hk hm => by have := hex k hm; omega
  have hds := h.ds
  refine ⟨h.dom.turn ht (hn _ (by omega)) (fun r e => hn _ (h.lt r (by simp [e]))) (fun r e => hn _ (h.lt r (by simp [e]))), (ht.cell (lt_of_cell h.pv) (hn _ hds)).trans h.pv, held_turn h.held ht (fun k hk => hn k (h.lt k (by simp [hk]))), h.bel.trans (ht.toBelow (fun k hk => by have := hex k hk; omega) (by have := h.sz; omega)), h.lt, h.lo, h.mm, h.ds, Nat.le_trans h.sz ht.size⟩

theorem Base.raise {w W : World} {N N' : Nat} {po : Option Addr} {pn pc : Nat} {hs : List Nat} {m2 m3 : Option Nat} {es2 es3 : List (Int × Value)} {bp : Bool} (h : Base w W N po pn pc hs m2 m3 es2 es3 bp) (h1 : N ≤ N') (h2 : N' ≤ W.heap.size) : Base w W N' po pn pc hs m2 m3 es2 es3 bp :=
  ⟨h.dom, h.pv, h.held, h.bel, fun k hk => Nat.lt_of_lt_of_le (h.lt k hk) h1, h.lo, h.mm, Nat.lt_of_lt_of_le h.ds h1, h2⟩

theorem base_of {w wc : World} {st id : Int} {po : Option Addr} {pn pc : Nat} {hs : List Nat} {m2 m3 : Option Nat} {es2 es3 : List (Int × Value)} {bp : Bool} (h : AfterA w wc st id po pn pc hs m2 m3 es2 es3 bp) : Base w wc wc.heap.size po pn pc hs m2 m3 es2 es3 bp := by
  obtain ⟨h1, h2, h3, h4, h5, h6, h7, h8, h9⟩ := h
  have hall : ∀ k ∈ blk po ++ (m2.toList ++ m3.toList), w.heap.size + 1 < k ∧ k < wc.heap.size := fun k hk => by
    rcases List.mem_append.1 hk with hk | hk
    · exact h7 k hk
    · exact h8 k hk
  exact ⟨h2, h3, h4, h5, fun k hk => (hall k hk).2, fun k hk => (hall k hk).1, h9, lt_of_cell h3, Nat.le_refl _⟩

/-- Behind the hanging in of an empty map for the holding slots. -/
theorem Base.hang {w W : World} {N : Nat} {po : Option Addr} {pn pc : Nat} {hs : List Nat} {m3 : Option Nat} {es2 es3 : List (Int × Value)} {bp : Bool} (h : Base w W N po pn pc hs none m3 es2 es3 bp) :
    Base w ((W.setCell ⟨w.heap.size, 2, none⟩ (.map (some W.heap.size))).alloc (.map #[] 0)) (W.heap.size + 1) po pn pc hs (some W.heap.size) m3 es2 es3 bp := by
  have hs0 : (W.setCell ⟨w.heap.size, 2, none⟩ (.map (some W.heap.size))).heap.size = W.heap.size := by simp [World.setCell]
  have tt : Turn [w.heap.size] W ((W.setCell ⟨w.heap.size, 2, none⟩ (.map (some W.heap.size))).alloc (.map #[] 0)) := ((Turn.refl [w.heap.size] W).setCell (by simp) _).alloc _
  have hb : Below (W.setCell ⟨w.heap.size, 2, none⟩ (.map (some W.heap.size))).heap.size (W.setCell ⟨w.heap.size, 2, none⟩ (.map (some W.heap.size))) ((W.setCell ⟨w.heap.size, 2, none⟩ (.map (some W.heap.size))).alloc (.map #[] 0)) := (Below.refl _ _).alloc (Nat.le_refl _) _
  have hsz := h.sz
  have hds := h.ds
  have hl : w.heap.size < (W.setCell ⟨w.heap.size, 2, none⟩ (.map (some W.heap.size))).heap.size := by omega
  have he : es2 = [] := by
    rcases h.dom.i2 with ⟨_, e⟩ | ⟨r, arr, c, e, _, _⟩
    · exact e
    · cases e
  subst he
  refine ⟨⟨?_, ?_, ?_, ?_, .inr ⟨W.heap.size, #[], 0, rfl, ?_, rfl⟩, ?_, ?_, ?_⟩, (tt.cell (lt_of_cell h.pv) (by simp)).trans h.pv, held_turn h.held tt (fun k hk => by have := h.lo k (by simp [hk]); simp; omega), h.bel.trans (tt.toBelow (by simp) (by omega)), fun k hk => ?_, fun k hk => ?_, fun r q e1 e2 => ?_, by omega, ?_⟩
  · exact (hb.cell (p := ⟨w.heap.size, 0, none⟩) hl).trans ((World.cell?_setCell_other _ _ _ _ (by simp)).trans h.dom.c0)
  · exact (hb.cell (p := ⟨w.heap.size, 1, none⟩) hl).trans ((World.cell?_setCell_other _ _ _ _ (by simp)).trans h.dom.c1)
  · exact (hb.cell (p := ⟨w.heap.size, 2, none⟩) hl).trans (World.cell?_setCell_same _ _ _ h.dom.c2)
  · exact (hb.cell (p := ⟨w.heap.size, 3, none⟩) hl).trans ((World.cell?_setCell_other _ _ _ _ (by simp)).trans h.dom.c3)
  · have e := (MapKept.heap_alloc (W.setCell ⟨w.heap.size, 2, none⟩ (.map (some W.heap.size))) (.map #[] 0)).1
    rw [hs0] at e
    exact e
  · refine h.dom.i3.keep (fun r e hr => tt.block r hr ?_)
    cases e
    simpa using Ne.symm (ne_map h.dom.i3 h.dom.c0)
  · exact (hb.frozen (p := ⟨w.heap.size, 2, none⟩) hl).trans ((World.frozen?_setCell _ _ _ _).trans h.dom.z2)
  · exact (hb.frozen (p := ⟨w.heap.size, 3, none⟩) hl).trans ((World.frozen?_setCell _ _ _ _).trans h.dom.z3)
  · rcases List.mem_append.1 hk with hk | hk
    · have := h.lt k (by simp [hk]); omega
    · rcases List.mem_append.1 hk with hk | hk
      · simp at hk; omega
      · have := h.lt k (by simp [hk]); omega
  · rcases List.mem_append.1 hk with hk | hk
    · exact h.lo k (by simp [hk])
    · rcases List.mem_append.1 hk with hk | hk
      · simp at hk; omega
      · exact h.lo k (by simp [hk])
  · cases e1
    have := h.lt q (by simp [e2])
    omega
  · have e : ((W.setCell ⟨w.heap.size, 2, none⟩ (.map (some W.heap.size))).alloc (.map #[] 0)).heap.size = (W.setCell ⟨w.heap.size, 2, none⟩ (.map (some W.heap.size))).heap.size + 1 := by simp
    omega

theorem held_ne {W : World} {po : Option Addr} {pn pc r : Nat} {hs : List Value} {es : List (Int × Value)} (h : Held W po pn pc hs) (hm : MapIs W (.map (some r)) es) : ∀ k ∈ blk po, k ≠ r := by
  rcases h with ⟨rfl, _⟩ | ⟨ad, rfl, h1, h2, h3, h4, h5⟩
  · simp [blk]
  · intro k hk
    have hk' : k = ad.block := by simpa [blk] using hk
    have hb : (ad.add 0).block = ad.block := by unfold Addr.add; split <;> rfl
    have hc := h4 0 (hs[0]'(by omega)) (List.getElem?_eq_getElem _)
    rw [hk', ← hb]
    exact ne_map hm hc

/-- Behind a store into the holding slots' map. -/
theorem Base.put2 {w W W' : World} {N r : Nat} {po : Option Addr} {pn pc : Nat} {hs : List Nat} {m3 : Option Nat} {es2 es3 fs2 : List (Int × Value)} {bp : Bool} (h : Base w W N po pn pc hs (some r) m3 es2 es3 bp) (ht : Turn [r] W W') (hm : MapIs W' (.map (some r)) fs2) :
    Base w W' N po pn pc hs (some r) m3 fs2 es3 bp := by
  have nD : w.heap.size ≠ r := ne_map h.dom.i2 h.dom.c0
  have nP : w.heap.size + 1 ≠ r := ne_map h.dom.i2 h.pv
  have hl : w.heap.size < W.heap.size := lt_of_cell h.dom.c0
  have hge := h.lo r (by simp)
  exact ⟨⟨(ht.cell hl (by simpa using nD)).trans h.dom.c0, (ht.cell hl (by simpa using nD)).trans h.dom.c1, (ht.cell hl (by simpa using nD)).trans h.dom.c2, (ht.cell hl (by simpa using nD)).trans h.dom.c3, hm, h.dom.i3.keep (fun q e hq => ht.block q hq (by cases e; simpa using h.mm r q rfl rfl)), (ht.frozen hl (by simpa using nD)).trans h.dom.z2, (ht.frozen hl (by simpa using nD)).trans h.dom.z3⟩,
    (ht.cell (lt_of_cell h.pv) (by simpa using nP)).trans h.pv, held_turn h.held ht (fun k hk => by simpa using held_ne h.held h.dom.i2 k hk), h.bel.trans (ht.toBelow (by simp; omega) (Nat.le_of_lt hl)), h.lt, h.lo, h.mm, h.ds, Nat.le_trans h.sz ht.size⟩

/-- The scratch: nothing to undo; its list of Data Sets that are no longer held. -/
structure Sc (W : World) (C base : Nat) (uo : Option Addr) (un uc : Nat) (us : List Nat) : Prop where
  u3 : W.cell? ⟨C, 3, none⟩ = some (.slice none 0 0)
  zu3 : W.frozen? ⟨C, 3, none⟩ = false
  c5 : W.cell? ⟨C, 5, none⟩ = some (.slice uo un uc)
  zc5 : W.frozen? ⟨C, 5, none⟩ = false
  own : W.ownsRow base 42 1 (.slice uo un uc) un (ptrs us)

theorem Sc.step {W W' : World} {C base : Nat} {uo : Option Addr} {un uc : Nat} {us : List Nat} (h : Sc W C base uo un uc us) {ex : List Nat} (ht : Turn ex W W') (hC : C ∉ ex) (hu : ∀ k ∈ blk uo, k ∉ ex) : Sc W' C base uo un uc us :=
  ⟨(ht.cell (lt_of_cell h.u3) hC).trans h.u3, (ht.frozen (lt_of_cell h.u3) hC).trans h.zu3, (ht.cell (lt_of_cell h.c5) hC).trans h.c5, (ht.frozen (lt_of_cell h.c5) hC).trans h.zc5, own_turn h.own ht hu⟩

/-- One Data Set more on the scratch's list. -/
theorem Sc.push {W W1 : World} {C base : Nat} {uo : Option Addr} {un uc : Nat} {us : List Nat} (h : Sc W C base uo un uc us) (o1 o2 : Obj) (hg : ((W.alloc o1).alloc o2).grownBy W1 (Value.slice uo un uc).ownBlock) (hCb : C < base) {g cap b : Nat}
    (ho : W1.ownsRow base 42 1 (.slice (some ⟨g, 0, none⟩) (un + 1) cap) (un + 1) (ptrs us ++ [.pointer (some ⟨b, 0, none⟩)])) :
    W1.cell? ⟨C, 5, none⟩ = some (.slice uo un uc) ∧ W1.frozen? ⟨C, 5, none⟩ = false ∧ Sc (W1.setCell ⟨C, 5, none⟩ (.slice (some ⟨g, 0, none⟩) (un + 1) cap)) C base (some ⟨g, 0, none⟩) (un + 1) cap (us ++ [b]) ∧ Turn (C :: blk uo) W (W1.setCell ⟨C, 5, none⟩ (.slice (some ⟨g, 0, none⟩) (un + 1) cap)) := by
  have hob := own_base h.own
  have nC : C ∉ blk uo := fun hm => by have := (hob C hm).1; omega
  have t1 : Turn (blk uo) W W1 := (((Turn.refl (blk uo) W).alloc o1).alloc o2).grown hg (fun k hk => Or.inl (blk_own hk))
  have lC : C < W.heap.size := lt_of_cell h.u3
  have h1 := h.u3
  have q5 : W1.cell? ⟨C, 5, none⟩ = some (.slice uo un uc) := (t1.cell lC nC).trans h.c5
  have q3 : W1.cell? ⟨C, 3, none⟩ = some (.slice none 0 0) := (t1.cell lC nC).trans h.u3
  have z5 : W1.frozen? ⟨C, 5, none⟩ = false := (t1.frozen lC nC).trans h.zc5
  have z3 : W1.frozen? ⟨C, 3, none⟩ = false := (t1.frozen lC nC).trans h.zu3
  have t2 : Turn [C] W1 (W1.setCell ⟨C, 5, none⟩ (.slice (some ⟨g, 0, none⟩) (un + 1) cap)) := (Turn.refl [C] W1).setCell (by simp) _
  have hgb : base ≤ g := (own_base ho g (by simp [blk])).1
  refine ⟨q5, z5, ⟨?_, ?_, World.cell?_setCell_same _ _ _ q5, ?_, ?_⟩, (t1.mono (fun k hk => by simp [hk])).trans (t2.mono (by simp))⟩
  · rw [World.cell?_setCell_other _ _ _ _ (by simp)]; exact q3
  · rw [World.frozen?_setCell]; exact z3
  · rw [World.frozen?_setCell]; exact z5
  · rw [ptrs_snoc]
    exact own_turn ho t2 (fun k hk => by have : k = g := by simpa [blk] using hk
                                         simp; omega)

theorem own_some {W : World} {base e n c : Nat} {o : Option Addr} {xs : List Value} (h : W.ownsRow base e 1 (.slice o n c) n xs) (h0 : 0 < n) : ∃ g, o = some ⟨g, 0, none⟩ := by
  obtain ⟨h1, ⟨_, h⟩ | ⟨g, cap, cur, h2, h3, h4, h5⟩⟩ := h
  · omega
  · cases h2; exact ⟨g, rfl⟩

theorem ptrs_at (us : List Nat) (j : Nat) (h : j < us.length) : (ptrs us)[j]? = some (.pointer (some ⟨us[j], 0, none⟩)) := by
  simp [ptrs, List.getElem?_eq_getElem h]

end Go.Proofs.Ybulkcbmo.D
