import Derived.Test.YbulkcbmoDSess
import Derived.WalkKit
import Derived.WalkSpells
import Derived.WalkLawsBesides
import Derived.Deep.RegionHeld3
import Derived.Deep.RegionWith
import Derived.Deep.DrawnRows
import Derived.Deep.AppendLies
namespace Go.Proofs.Ybulkcbmo.D
open Go.RowKit
set_option linter.unusedSimpArgs false
set_option linter.unusedVariables false
attribute [local go_sem ↓] Go.wp_at_zero Go.wp_at_succ

theorem field_held (b : Bool) (o : Option Addr) (n c : Nat) (W : World) : (Instr.field 41 (sv b (.slice o n c)) 3).run Yba.prog W = .ok (.slice o n c) W := by kernel_rfl

theorem info42 : (Yba.prog.info? 42).map (fun i => (i.zero, i.size, i.bytes)) = some (some (.pointer none), 1, 8) := by kernel_rfl

theorem wp_append_run {P : Program} {w w' : World} {o : Oper} {a : Act} {K : Act → World → Prop} {Q : Exit → Act → World → Prop} (s x : Operand) (t : TypeId)
    (ho : o.op = .call { callee := .builtin .append, args := #[s, x], argTypes := #[t, t] }) (v u r : Value) (hs : a.eval s = v) (hx : a.eval x = u)
    (hr : (Builtin.append_ #[t, t] o.type #[v, u]).run P w = .ok r w') (h : K (a.put o.dst r) w') : o.wp P a w K Q := by
  unfold Oper.wp execOp
  simp only [ho, resolve, invoke, builtin, Sem.run_bind, Sem.run_pure, Result.andThen_ok, List.map_toArray, List.map_cons, List.map_nil, hs, hx, hr]
  exact h

/-- The block that a slice lies in. -/
def blk (o : Option Addr) : List Nat := (o.map (·.block)).toList

/-- The list of held Data Sets: nil; or its cells lie where it points to. -/
def Held (W : World) (po : Option Addr) (pn pc : Nat) (hs : List Value) : Prop :=
  (po = none ∧ pn = 0 ∧ pc = 0 ∧ hs = []) ∨ ∃ ad, po = some ad ∧ 0 < pn ∧ pn ≤ 1000 ∧ hs.length = pn ∧ (∀ j u, hs[j]? = some u → W.cell? (ad.add j) = some u) ∧ ∀ u ∈ hs, u.oneCell' = true

theorem own_turn {W W' : World} {ex : List Nat} {base e size n : Nat} {o : Option Addr} {c : Nat} {xs : List Value} (h : W.ownsRow base e size (.slice o n c) n xs) (ht : Turn ex W W') (hn : ∀ k ∈ blk o, k ∉ ex) : W'.ownsRow base e size (.slice o n c) n xs := by
  obtain ⟨h1, h | ⟨g, cap, cur, h2, h3, h4, h5⟩⟩ := h
  · exact ⟨h1, .inl h⟩
  · refine ⟨h1, .inr ⟨g, cap, cur, h2, h3, ?_, h5⟩⟩
    have hl : g < W.heap.size := (Array.getElem?_eq_some_iff.1 h4).1
    cases h2
    rw [ht.block g hl (hn g (by simp [blk]))]
    exact h4

theorem held_turn {W W' : World} {ex : List Nat} {po : Option Addr} {pn pc : Nat} {hs : List Value} (h : Held W po pn pc hs) (ht : Turn ex W W') (hn : ∀ k ∈ blk po, k ∉ ex) : Held W' po pn pc hs := by
  rcases h with h | ⟨ad, rfl, h1, h2, h3, h4, h5⟩
  · exact .inl h
  · refine .inr ⟨ad, rfl, h1, h2, h3, fun j u hj => ?_, h5⟩
    have hc := h4 j u hj
    have hb : (ad.add j).block = ad.block := by unfold Addr.add; split <;> rfl
    rw [ht.cell (lt_of_cell hc) (by rw [hb]; exact hn _ (by simp [blk]))]
    exact hc

theorem app_run {W : World} {base un uc pn pc : Nat} {uo po : Option Addr} {us hs : List Value} (hown : W.ownsRow base 42 1 (.slice uo un uc) un us) (hh : Held W po pn pc hs) (hu : un ≤ 1000) (hb : base ≤ W.heap.size) (ty : TypeId) :
    ∃ uo' uc' W', (Builtin.append_ #[35, 35] ty #[.slice uo un uc, .slice po pn pc]).run Yba.prog W = .ok (.slice uo' (un + pn) uc') W' ∧ W'.ownsRow base 42 1 (.slice uo' (un + pn) uc') (un + pn) (us ++ hs) ∧
      Turn (blk uo) W W' ∧ ∀ k ∈ blk uo', k ∈ blk uo ∨ W.heap.size ≤ k := by
  obtain ⟨i0, hi, hz0, hz1, hz2⟩ := info_parts info42
  rcases hh with ⟨rfl, rfl, rfl, rfl⟩ | ⟨ad, rfl, h1, h2, h3, h4, h5⟩
  · exact ⟨uo, uc, W, run_append_owned_none (P := Yba.prog) W base 35 ty 42 i0 1 Yba.underlying35 hi _ un us hown, by simpa using hown, Turn.refl _ _, fun k hk => .inl hk⟩
  · obtain ⟨g, cap, W', hr, ho, hg, hat, hlt⟩ := run_append_lies (P := Yba.prog) W 35 ty base 42 i0 _ 1 8 Yba.underlying35 hi hz0 hz1 hz2 rfl (by decide) (.slice uo un uc) un us hown ad pn pc hs (by omega) h4 h5 h1 (by unfold maxLen; omega) (by omega) hb W.heap.size rfl
    refine ⟨some ⟨g, 0, none⟩, cap, W', hr, ho, (Turn.refl _ _).grown hg (fun k hk => ?_), fun k hk => ?_⟩
    · cases uo with
      | none => simp [Value.ownBlock] at hk
      | some a => left; simpa [Value.ownBlock, blk] using hk.symm
    · have hk' : k = g := by simpa [blk] using hk
      subst hk'
      rcases hat with h | h
      · cases uo with
        | none => simp [Value.ownBlock] at h
        | some a => left; simpa [Value.ownBlock, blk] using h.symm
      · right; omega

/-- Where a walk of (*Session).dropHeld stands. -/
structure Ds (ex : List Nat) (w W : World) (D S C M A : Nat) (kept pre : Int) (base : Nat) (uo : Option Addr) (un uc : Nat) (us : List Value) (po : Option Addr) (pn pc : Nat) (hs : List Value) (m2 m3 : Option Nat) (es2 es3 : List (Int × Value)) (bs : Bool) : Prop where
  two : Two W A A bs (.slice none 0 0) bs (.slice none 0 0)
  dom : Dom W D m2 m3 es2 es3
  s19 : W.cell? ⟨S, 19, none⟩ = some (.pointer (some ⟨C, 0, none⟩))
  s7 : W.cell? ⟨S, 7, none⟩ = some (.int .i64 kept)
  zs7 : W.frozen? ⟨S, 7, none⟩ = false
  u3 : W.cell? ⟨C, 3, none⟩ = some (.slice none 0 0)
  zu3 : W.frozen? ⟨C, 3, none⟩ = false
  c5 : W.cell? ⟨C, 5, none⟩ = some (.slice uo un uc)
  zc5 : W.frozen? ⟨C, 5, none⟩ = false
  mm0 : W.cell? ⟨M, 0, none⟩ = some (.pointer (some ⟨D, 0, none⟩))
  mm12 : W.cell? ⟨M, 12, none⟩ = some (.int .u64 pre)
  zm12 : W.frozen? ⟨M, 12, none⟩ = false
  own : W.ownsRow base 42 1 (.slice uo un uc) un us
  held : Held W po pn pc hs
  turn : Turn ex w W
  sS : ∀ j, W.cell? ⟨S, j, none⟩ = w.cell? ⟨S, j, none⟩

section
variable {ex : List Nat} {w W V W' : World} {D S C M A : Nat} {kept pre : Int} {base : Nat} {uo : Option Addr} {un uc : Nat} {us : List Value} {po : Option Addr} {pn pc : Nat} {hs : List Value} {m2 m3 : Option Nat} {es2 es3 : List (Int × Value)} {bs : Bool}
theorem Ds.step (h : Ds ex w W D S C M A kept pre base uo un uc us po pn pc hs m2 m3 es2 es3 bs) {ex' : List Nat} (ht : Turn ex' W W') (hex : ∀ i ∈ ex', i ∈ ex ∨ w.heap.size ≤ i)
    (hA : A ∉ ex') (hS : S ∉ ex') (hC : C ∉ ex') (hM : M ∉ ex') (hD : D ∉ ex') (h2 : ∀ r, m2 = some r → r ∉ ex') (h3 : ∀ r, m3 = some r → r ∉ ex') (hu : ∀ k ∈ blk uo, k ∉ ex') (hp : ∀ k ∈ blk po, k ∉ ex') : Ds ex w W' D S C M A kept pre base uo un uc us po pn pc hs m2 m3 es2 es3 bs := by
  have lS : S < W.heap.size := lt_of_cell h.s19
  have lC : C < W.heap.size := lt_of_cell h.u3
  have lM : M < W.heap.size := lt_of_cell h.mm0
  exact ⟨h.two.turn ht hA hA, h.dom.turn ht hD h2 h3, (ht.cell lS hS).trans h.s19, (ht.cell lS hS).trans h.s7, (ht.frozen lS hS).trans h.zs7, (ht.cell lC hC).trans h.u3, (ht.frozen lC hC).trans h.zu3, (ht.cell lC hC).trans h.c5, (ht.frozen lC hC).trans h.zc5,
    (ht.cell lM hM).trans h.mm0, (ht.cell lM hM).trans h.mm12, (ht.frozen lM hM).trans h.zm12, own_turn h.own ht hu, held_turn h.held ht hp, h.turn.fresh ht hex, fun j => (ht.cell lS hS).trans (h.sS j)⟩
theorem Ds.next (h : Ds ex w W D S C M A kept pre base uo un uc us po pn pc hs m2 m3 es2 es3 bs) (hbel : Below V.heap.size V W') (hv : V = W ∨ V = W.drew := by first | exact Or.inl rfl | exact Or.inr rfl) : Ds ex w W' D S C M A kept pre base uo un uc us po pn pc hs m2 m3 es2 es3 bs := by
  have hb : Turn [] W W' := by
    rcases hv with rfl | rfl
    · exact Turn.below hbel
    · exact ⟨hbel.os, hbel.tape, hbel.output, hbel.size, fun k hk _ => hbel.block k hk⟩
  exact h.step (ex' := []) hb (by simp) (by simp) (by simp) (by simp) (by simp) (by simp) (by simp) (by simp) (by simp) (by simp)
theorem Ds.drew (h : Ds ex w W D S C M A kept pre base uo un uc us po pn pc hs m2 m3 es2 es3 bs) : Ds ex w W.drew D S C M A kept pre base uo un uc us po pn pc hs m2 m3 es2 es3 bs :=
  h.step (ex' := []) ((Turn.refl [] W).drew) (by simp) (by simp) (by simp) (by simp) (by simp) (by simp) (by simp) (by simp) (by simp) (by simp)
end

section
variable {ex : List Nat} {w W V W' : World} {D S C M A : Nat} {kept pre : Int} {base : Nat} {uo : Option Addr} {un uc : Nat} {us : List Value} {po : Option Addr} {pn pc : Nat} {hs : List Value} {m2 m3 : Option Nat} {es2 es3 : List (Int × Value)} {bs : Bool}
/-- Behind the store into the Message's count. -/
theorem Ds.count (h : Ds ex w W D S C M A kept pre base uo un uc us po pn pc hs m2 m3 es2 es3 bs) (p : Int) (hM : M ∈ ex) (hMA : A ≠ M) (hMS : M ≠ S) (hMC : M ≠ C) (hMD : M ≠ D) (hu : ∀ k ∈ blk uo, k ≠ M) (hp : ∀ k ∈ blk po, k ≠ M) :
    Ds ex w (W.setCell ⟨M, 12, none⟩ (.int .u64 p)) D S C M A kept p base uo un uc us po pn pc hs m2 m3 es2 es3 bs := by
  have tt : Turn [M] W (W.setCell ⟨M, 12, none⟩ (.int .u64 p)) := (Turn.refl [M] W).setCell (by simp) _
  have lS : S < W.heap.size := lt_of_cell h.s19
  have lC : C < W.heap.size := lt_of_cell h.u3
  have nS : S ∉ [M] := by simpa using Ne.symm hMS
  have nC : C ∉ [M] := by simpa using Ne.symm hMC
  refine ⟨h.two.turn tt (by simpa using hMA) (by simpa using hMA), h.dom.turn tt (by simpa using Ne.symm hMD) (fun r e => ?_) (fun r e => ?_), (tt.cell lS nS).trans h.s19, (tt.cell lS nS).trans h.s7, (tt.frozen lS nS).trans h.zs7, (tt.cell lC nC).trans h.u3, (tt.frozen lC nC).trans h.zu3, (tt.cell lC nC).trans h.c5, (tt.frozen lC nC).trans h.zc5,
    ?_, World.cell?_setCell_same _ _ _ h.mm12, by rw [World.frozen?_setCell]; exact h.zm12, own_turn h.own tt (fun k hk => by simpa using hu k hk), held_turn h.held tt (fun k hk => by simpa using hp k hk), h.turn.fresh tt (by simpa using Or.inl hM), fun j => (tt.cell lS nS).trans (h.sS j)⟩
  · subst e; simpa using Ne.symm (ne_map h.dom.i2 h.mm0)
  · subst e; simpa using Ne.symm (ne_map h.dom.i3 h.mm0)
  · rw [World.cell?_setCell_other _ _ _ _ (by simp)]; exact h.mm0

theorem blk_ne_map {W : World} {r n c base e : Nat} {es : List (Int × Value)} {o : Option Addr} {xs : List Value} (hm : MapIs W (.map (some r)) es) (h : W.ownsRow base e 1 (.slice o n c) n xs) : r ∉ blk o := by
  obtain ⟨h1, ⟨h, _⟩ | ⟨g, cap, cur, h2, h3, h4, h5⟩⟩ := h
  · cases h; simp [blk]
  · cases h2
    intro hr
    have : r = g := by simpa [blk] using hr
    subst this
    rcases hm with ⟨h, _⟩ | ⟨r', arr, c', h, hb, _⟩
    · cases h
    · cases h
      rw [h4] at hb
      cases hb

/-- Behind the append and the store of what it gave into the scratch's list. -/
theorem Ds.grow (h : Ds ex w W D S C M A kept pre base uo un uc us po pn pc hs m2 m3 es2 es3 bs) {uo' : Option Addr} {uc' : Nat} (ht : Turn (blk uo) W W') (ho : W'.ownsRow base 42 1 (.slice uo' (un + pn) uc') (un + pn) (us ++ hs)) (hk : ∀ k ∈ blk uo', k ∈ blk uo ∨ W.heap.size ≤ k)
    (hex : ∀ k ∈ blk uo, k ∈ ex) (hC : C ∈ ex) (hA : A ≠ C ∧ A ∉ blk uo) (hSC : S ≠ C) (hMC : M ≠ C) (hCD : C ≠ D) (hu : ∀ k ∈ blk uo, k ≠ D ∧ k ≠ S ∧ k ≠ C ∧ k ≠ M) (hp : ∀ k ∈ blk po, k ≠ C) (hup : ∀ k ∈ blk uo, k ∉ blk po) :
    Ds ex w (W'.setCell ⟨C, 5, none⟩ (.slice uo' (un + pn) uc')) D S C M A kept pre base uo' (un + pn) uc' (us ++ hs) po pn pc hs m2 m3 es2 es3 bs := by
  have lS : S < W.heap.size := lt_of_cell h.s19
  have lC : C < W.heap.size := lt_of_cell h.u3
  have lM : M < W.heap.size := lt_of_cell h.mm0
  have nS : S ∉ blk uo := fun hm => (hu S hm).2.1 rfl
  have nC : C ∉ blk uo := fun hm => (hu C hm).2.2.1 rfl
  have nM : M ∉ blk uo := fun hm => (hu M hm).2.2.2 rfl
  have nD : D ∉ blk uo := fun hm => (hu D hm).1 rfl
  have tt : Turn [C] W' (W'.setCell ⟨C, 5, none⟩ (.slice uo' (un + pn) uc')) := (Turn.refl [C] W').setCell (by simp) _
  have lS' := Nat.lt_of_lt_of_le lS ht.size
  have lC' := Nat.lt_of_lt_of_le lC ht.size
  have lM' := Nat.lt_of_lt_of_le lM ht.size
  have mS : S ∉ [C] := by simpa using hSC
  have mM : M ∉ [C] := by simpa using hMC
  have d1 := h.dom.turn ht nD (fun r e => by subst e; exact blk_ne_map h.dom.i2 h.own) (fun r e => by subst e; exact blk_ne_map h.dom.i3 h.own)
  have cC : W'.cell? ⟨C, 3, none⟩ = some (.slice none 0 0) := (ht.cell lC nC).trans h.u3
  refine ⟨(h.two.turn ht hA.2 hA.2).turn tt (by simpa using hA.1) (by simpa using hA.1), d1.turn tt (by simpa using Ne.symm hCD) (fun r e => ?_) (fun r e => ?_), (tt.cell lS' mS).trans ((ht.cell lS nS).trans h.s19), (tt.cell lS' mS).trans ((ht.cell lS nS).trans h.s7), (tt.frozen lS' mS).trans ((ht.frozen lS nS).trans h.zs7),
    ?_, ?_, World.cell?_setCell_same _ _ _ ((ht.cell lC nC).trans h.c5), ?_, (tt.cell lM' mM).trans ((ht.cell lM nM).trans h.mm0), (tt.cell lM' mM).trans ((ht.cell lM nM).trans h.mm12), (tt.frozen lM' mM).trans ((ht.frozen lM nM).trans h.zm12), own_turn ho tt (fun k hk' => ?_),
    held_turn (held_turn h.held ht (fun k hk' hm => hup k hm hk')) tt (fun k hk' => by simpa using hp k hk'), (h.turn.fresh ht (fun i hi => Or.inl (hex i hi))).fresh tt (by simpa using Or.inl hC), fun j => (tt.cell lS' mS).trans ((ht.cell lS nS).trans (h.sS j))⟩
  · subst e; simpa using Ne.symm (ne_map d1.i2 cC)
  · subst e; simpa using Ne.symm (ne_map d1.i3 cC)
  · rw [World.cell?_setCell_other _ _ _ _ (by simp)]; exact cC
  · rw [World.frozen?_setCell]; exact (ht.frozen lC nC).trans h.zu3
  · rw [World.frozen?_setCell]; exact (ht.frozen lC nC).trans h.zc5
  · have : k ≠ C := by
      rcases hk k hk' with h1 | h1
      · exact (hu k h1).2.2.1
      · omega
    simpa using this
end

/-- What (*Session).dropHeld finds. -/
structure D0 (W : World) (D S C M : Nat) (kept pre : Int) (base : Nat) (uo : Option Addr) (un uc : Nat) (us : List Value) (po : Option Addr) (pn pc : Nat) (hs : List Value) (m2 m3 : Option Nat) (es2 es3 : List (Int × Value)) : Prop where
  dom : Dom W D m2 m3 es2 es3
  s19 : W.cell? ⟨S, 19, none⟩ = some (.pointer (some ⟨C, 0, none⟩))
  s7 : W.cell? ⟨S, 7, none⟩ = some (.int .i64 kept)
  zs7 : W.frozen? ⟨S, 7, none⟩ = false
  u3 : W.cell? ⟨C, 3, none⟩ = some (.slice none 0 0)
  zu3 : W.frozen? ⟨C, 3, none⟩ = false
  c5 : W.cell? ⟨C, 5, none⟩ = some (.slice uo un uc)
  zc5 : W.frozen? ⟨C, 5, none⟩ = false
  mm0 : W.cell? ⟨M, 0, none⟩ = some (.pointer (some ⟨D, 0, none⟩))
  mm12 : W.cell? ⟨M, 12, none⟩ = some (.int .u64 pre)
  zm12 : W.frozen? ⟨M, 12, none⟩ = false
  own : W.ownsRow base 42 1 (.slice uo un uc) un us
  held : Held W po pn pc hs

theorem D0.enter {w : World} {D S C M : Nat} {kept pre : Int} {base : Nat} {uo : Option Addr} {un uc : Nat} {us : List Value} {po : Option Addr} {pn pc : Nat} {hs : List Value} {m2 m3 : Option Nat} {es2 es3 : List (Int × Value)}
    (h : D0 w D S C M kept pre base uo un uc us po pn pc hs m2 m3 es2 es3) (lD : D < w.heap.size) (lS : S < w.heap.size) (lC : C < w.heap.size) (lM : M < w.heap.size) (ex : List Nat) (bs : Bool) :
    Ds ex w (w.alloc (.cells #[.pointer none, .int .u64 0, .int .i64 0, .pointer none, .bool bs, .slice none 0 0] 41)) D S C M w.heap.size kept pre base uo un uc us po pn pc hs m2 m3 es2 es3 bs := by
  have hb : Below w.heap.size w (w.alloc (.cells #[.pointer none, .int .u64 0, .int .i64 0, .pointer none, .bool bs, .slice none 0 0] 41)) := (Below.refl _ _).alloc (Nat.le_refl _) _
  have ht : Turn [] w (w.alloc (.cells #[.pointer none, .int .u64 0, .int .i64 0, .pointer none, .bool bs, .slice none 0 0] 41)) := Turn.below hb
  refine ⟨⟨?_, ?_, ?_, ?_, ?_, ?_, ?_, ?_, ?_, ?_, ?_, ?_⟩, h.dom.below hb, (hb.cell lS).trans h.s19, (hb.cell lS).trans h.s7, (hb.frozen lS).trans h.zs7, (hb.cell lC).trans h.u3, (hb.frozen lC).trans h.zu3, (hb.cell lC).trans h.c5, (hb.frozen lC).trans h.zc5, (hb.cell lM).trans h.mm0, (hb.cell lM).trans h.mm12, (hb.frozen lM).trans h.zm12, own_turn h.own ht (by simp), held_turn h.held ht (by simp), Turn.below hb, fun j => hb.cell lS⟩ <;> exact World.cell?_alloc_new _ _ _ _

/-- Blocks that must be apart. -/
structure Apart (D S C M : Nat) (m2 m3 : Option Nat) (uo po : Option Addr) : Prop where
  sd : S ≠ D
  cd : C ≠ D
  md : M ≠ D
  sc : S ≠ C
  ms : M ≠ S
  mc : M ≠ C
  u : ∀ k ∈ blk uo, k ≠ D ∧ k ≠ S ∧ k ≠ C ∧ k ≠ M
  p : ∀ k ∈ blk po, k ≠ D ∧ k ≠ S ∧ k ≠ C ∧ k ≠ M
  up : ∀ k ∈ blk uo, k ∉ blk po

/-- What (*Session).dropHeld leaves. -/
def DPost (w w' : World) (D S C M : Nat) (id kept pre : Int) (base : Nat) (uo : Option Addr) (un : Nat) (us hs : List Value) (m2 m3 : Option Nat) (es2' es3' : List (Int × Value)) (bp : Bool) (po : Option Addr) (pn pc : Nat) : Prop :=
  ∃ g cap q uo' uc', w'.cell? ⟨M, 12, none⟩ = some (.int .u64 (IntKind.u64.wrap (pre + pn))) ∧ w'.cell? ⟨S, 7, none⟩ = some (.int .i64 kept) ∧ w'.cell? ⟨C, 3, none⟩ = some (.slice (some ⟨g, 0, none⟩) 1 cap) ∧
    (∀ j, j < 7 → w'.cell? ⟨g, j, none⟩ = ([.int .u16 id, .pointer none, .int .u64 0, .int .i64 0, .pointer none, .bool bp, .slice po pn pc] : List Value)[j]?) ∧
    w'.cell? ⟨C, 5, none⟩ = some (.slice uo' (un + pn) uc') ∧ w'.ownsRow base 42 1 (.slice uo' (un + pn) uc') (un + pn) (us ++ hs) ∧
    Dom w' D m2 q es2' es3' ∧ Turn (M :: S :: C :: (blk uo ++ exs D m2 m3)) w w' ∧ (∀ j, j ≠ 7 → w'.cell? ⟨S, j, none⟩ = w.cell? ⟨S, j, none⟩)

set_option maxRecDepth 100000 in
set_option maxHeartbeats 4000000 in
theorem drop_any (D S C M : Nat) (id kept pre : Int) (base : Nat) (uo : Option Addr) (un uc : Nat) (us hs : List Value) (m2 m3 : Option Nat) (es2 es3 es2' es3' : List (Int × Value)) (bp : Bool) (po : Option Addr) (pn pc : Nat) (bs : Bool) (r : Int) (H : Acts D id m2 m3 es2 es3 es2' es3' bp po pn pc bs r)
    (w : World) (hap : Apart D S C M m2 m3 uo po) (hun : un ≤ 1000) (hpn : pn ≤ 1000) (hbase : base ≤ w.heap.size)
    (lb : D < w.heap.size ∧ S < w.heap.size ∧ C < w.heap.size ∧ M < w.heap.size ∧ ∀ k ∈ blk uo, k < w.heap.size)
    (h0 : D0 w D S C M kept pre base uo un uc us po pn pc hs m2 m3 es2 es3) :
    Calls Yba.prog 7 #[.pointer (some ⟨S, 0, none⟩), .pointer (some ⟨M, 0, none⟩), .int .u16 id, sv bs (.slice none 0 0)] w fun e w' => e = .returned (.tuple #[]) ∧
      DPost w w' D S C M id (IntKind.i64.wrap (kept + r)) pre base uo un us hs m2 m3 es2' es3' bp po pn pc := by
  obtain ⟨lD, lS, lC, lM, lU⟩ := lb
  have h := h0.enter lD lS lC lM (M :: S :: C :: (blk uo ++ exs D m2 m3)) bs
  have q0 : w.cell? ⟨M, 0, none⟩ = some (.pointer (some ⟨D, 0, none⟩)) := by
    exact h0.mm0
  go_enter Yba.func7, Yba.ntmps7
  go_wp2_with fail
  refine (H.slot _ h.dom).mono ?_
  rintro e w1 ⟨rfl, hb⟩
  replace h := h.next hb
  clear hb q0
  obtain ⟨A, hA⟩ : ∃ A, A = w.heap.size := ⟨_, rfl⟩
  rw [← hA] at h ⊢
  have HA : Hid (A = w.heap.size) := hA
  clear hA
  have q0 := h.mm0
  have q12 := h.mm12
  have z12 := h.zm12
  have hfd := field_held bp po pn pc
  go_wp2
  clear q0 q12 z12 hfd
  have nA : A ≠ M ∧ A ≠ S ∧ A ≠ C ∧ A ≠ D ∧ A ∉ blk uo := by
    have e := HA.out
    exact ⟨by omega, by omega, by omega, by omega, fun hm => by have := lU A hm; omega⟩
  replace h := h.count (IntKind.u64.wrap (pre + pn)) (by simp) nA.1 hap.ms hap.mc hap.md (fun k hk => (hap.u k hk).2.2.2) (fun k hk => (hap.p k hk).2.2.2)
  generalize w1.setCell ⟨M, 12, none⟩ (.int .u64 (IntKind.u64.wrap (pre + pn))) = W2 at *
  have hS : (fun w' : World => w'.cell? ⟨S, 19, none⟩ = some (.pointer (some ⟨C, 0, none⟩)) ∧ w'.cell? ⟨C, 5, none⟩ = some (.slice uo un uc)) W2.drew := ⟨h.drew.s19, h.drew.c5⟩
  refine region_picks (fun w' => w'.cell? ⟨S, 19, none⟩ = some (.pointer (some ⟨C, 0, none⟩)) ∧ w'.cell? ⟨C, 5, none⟩ = some (.slice uo un uc)) 15 (by kernel_rfl) ?_
  refine Picks.take [15] (i := 0) (v := ?v0) rfl (by kernel_rfl) (by kernel_rfl) (by kernel_rfl) (by kernel_rfl) (fun _ _ _ h => h) (Or.inl ⟨by rfl, ?y0⟩) hS ?r0
  case y0 => (intro w' hSw; (try dsimp only at hSw); go_simp <;> with_reducible rfl)
  case r0 =>
    simp only [List.getElem_toArray, List.getElem_cons_succ, List.getElem_cons_zero, Act.put, List.setIfInBounds_toArray, List.set_cons_zero, List.set_cons_succ]
    refine Picks.take [15] (i := 1) (v := ?v1) rfl (by kernel_rfl) (by kernel_rfl) (by kernel_rfl) (by kernel_rfl) (fun _ _ _ h => h) (Or.inl ⟨by rfl, ?y1⟩) hS ?r1
    case y1 => (intro w' hSw; (try dsimp only at hSw); go_simp <;> with_reducible rfl)
    case r1 =>
      simp only [List.getElem_toArray, List.getElem_cons_succ, List.getElem_cons_zero, Act.put, List.setIfInBounds_toArray, List.set_cons_zero, List.set_cons_succ]
      refine Picks.take [15] (i := 2) (v := ?v2) rfl (by kernel_rfl) (by kernel_rfl) (by kernel_rfl) (by kernel_rfl) (fun _ _ _ h => h) (Or.inl ⟨by rfl, ?y2⟩) hS ?r2
      case y2 => (intro w' hSw; (try dsimp only at hSw); go_simp <;> with_reducible rfl)
      case r2 =>
        simp only [List.getElem_toArray, List.getElem_cons_succ, List.getElem_cons_zero, Act.put, List.setIfInBounds_toArray, List.set_cons_zero, List.set_cons_succ]
        refine Picks.take [15] (i := 3) (v := ?v3) rfl (by kernel_rfl) (by kernel_rfl) (by kernel_rfl) (by kernel_rfl) (fun _ _ _ h => h) (Or.inl ⟨by rfl, ?y3⟩) hS ?r3
        case y3 => (intro w' hSw; (try dsimp only at hSw); go_simp <;> with_reducible rfl)
        case r3 =>
          simp only [List.getElem_toArray, List.getElem_cons_succ, List.getElem_cons_zero, Act.put, List.setIfInBounds_toArray, List.set_cons_zero, List.set_cons_succ]
          refine Picks.take [15] (i := 4) (v := ?v4) rfl (by kernel_rfl) (by kernel_rfl) (by kernel_rfl) (by kernel_rfl) (fun _ _ _ h => h) (Or.inl ⟨by rfl, ?y4⟩) hS ?r4
          case y4 => (intro w' hSw; (try dsimp only at hSw); go_simp <;> with_reducible rfl)
          case r4 =>
            simp only [List.getElem_toArray, List.getElem_cons_succ, List.getElem_cons_zero, Act.put, List.setIfInBounds_toArray, List.set_cons_zero, List.set_cons_succ]
            refine Picks.take [15] (i := 5) (v := ?v5) rfl (by kernel_rfl) (by kernel_rfl) (by kernel_rfl) (by kernel_rfl) (fun _ _ _ h => h) (Or.inl ⟨by rfl, ?y5⟩) hS ?r5
            case y5 => (intro w' hSw; (try dsimp only at hSw); go_simp <;> with_reducible rfl)
            case r5 =>
              simp only [List.getElem_toArray, List.getElem_cons_succ, List.getElem_cons_zero, Act.put, List.setIfInBounds_toArray, List.set_cons_zero, List.set_cons_succ]
              refine Picks.take [15] (i := 6) (v := ?v6) rfl (by kernel_rfl) (by kernel_rfl) (by kernel_rfl) (by kernel_rfl) (fun _ _ _ h => h) (Or.inl ⟨by rfl, ?y6⟩) hS ?r6
              case y6 => (intro w' hSw; (try dsimp only at hSw); go_simp <;> with_reducible rfl)
              case r6 =>
                simp only [List.getElem_toArray, List.getElem_cons_succ, List.getElem_cons_zero, Act.put, List.setIfInBounds_toArray, List.set_cons_zero, List.set_cons_succ]
                refine Picks.take [15] (i := 7) (v := ?v7) rfl (by kernel_rfl) (by kernel_rfl) (by kernel_rfl) (by kernel_rfl) (fun _ _ _ h => h) (Or.inl ⟨by rfl, ?y7⟩) hS ?r7
                case y7 => (intro w' hSw; (try dsimp only at hSw); go_simp <;> with_reducible rfl)
                case r7 =>
                  simp only [List.getElem_toArray, List.getElem_cons_succ, List.getElem_cons_zero, Act.put, List.setIfInBounds_toArray, List.set_cons_zero, List.set_cons_succ]
                  refine Picks.take [15] (i := 8) (v := ?v8) rfl (by kernel_rfl) (by kernel_rfl) (by kernel_rfl) (by kernel_rfl) (fun _ _ _ h => h) (Or.inl ⟨by rfl, ?y8⟩) hS ?r8
                  case y8 => (intro w' hSw; (try dsimp only at hSw); go_simp <;> with_reducible rfl)
                  case r8 =>
                    simp only [List.getElem_toArray, List.getElem_cons_succ, List.getElem_cons_zero, Act.put, List.setIfInBounds_toArray, List.set_cons_zero, List.set_cons_succ]
                    refine Picks.take [15] (i := 9) (v := ?v9) rfl (by kernel_rfl) (by kernel_rfl) (by kernel_rfl) (by kernel_rfl) (fun _ _ _ h => h) (Or.inl ⟨by rfl, ?y9⟩) hS ?r9
                    case y9 => (intro w' hSw; (try dsimp only at hSw); go_simp <;> with_reducible rfl)
                    case r9 =>
                      simp only [List.getElem_toArray, List.getElem_cons_succ, List.getElem_cons_zero, Act.put, List.setIfInBounds_toArray, List.set_cons_zero, List.set_cons_succ]
                      refine Picks.take [15] (i := 10) (v := ?v10) rfl (by kernel_rfl) (by kernel_rfl) (by kernel_rfl) (by kernel_rfl) (fun _ _ _ h => h) (Or.inl ⟨by rfl, ?y10⟩) hS ?r10
                      case y10 => (intro w' hSw; (try dsimp only at hSw); go_simp <;> with_reducible rfl)
                      case r10 =>
                        simp only [List.getElem_toArray, List.getElem_cons_succ, List.getElem_cons_zero, Act.put, List.setIfInBounds_toArray, List.set_cons_zero, List.set_cons_succ]
                        refine Picks.take [15] (i := 11) (v := ?v11) rfl (by kernel_rfl) (by kernel_rfl) (by kernel_rfl) (by kernel_rfl) (fun _ _ _ h => h) (Or.inl ⟨by rfl, ?y11⟩) hS ?r11
                        case y11 => (intro w' hSw; (try dsimp only at hSw); go_simp <;> with_reducible rfl)
                        case r11 =>
                          simp only [List.getElem_toArray, List.getElem_cons_succ, List.getElem_cons_zero, Act.put, List.setIfInBounds_toArray, List.set_cons_zero, List.set_cons_succ]
                          have hzz : w.heap.size ≤ W2.drew.heap.size := h.drew.turn.size
                          obtain ⟨uo', uc', W3, hrun, ho3, ht3, hk3⟩ := app_run h.drew.own h.drew.held hun (Nat.le_trans hbase h.turn.size) 35
                          have nS : S ∉ blk uo := fun hm => (hap.u S hm).2.1 rfl
                          have nC : C ∉ blk uo := fun hm => (hap.u C hm).2.2.1 rfl
                          have x19 : W3.cell? ⟨S, 19, none⟩ = some (.pointer (some ⟨C, 0, none⟩)) := (ht3.cell (lt_of_cell h.drew.s19) nS).trans h.drew.s19
                          have x5 : W3.cell? ⟨C, 5, none⟩ = some (.slice uo un uc) := (ht3.cell (lt_of_cell h.drew.c5) nC).trans h.drew.c5
                          have z5 : W3.frozen? ⟨C, 5, none⟩ = false := (ht3.frozen (lt_of_cell h.drew.c5) nC).trans h.drew.zc5
                          refine Picks.one (i := 12) (by kernel_rfl) rfl (by rfl) (fun K hK => ?_)
                          refine wp_append_run (.tmp 38) (.tmp 39) 35 (by rfl) _ _ _ (by rfl) (by rfl) hrun ?_
                          simp only [List.getElem_toArray, List.getElem_cons_succ, List.getElem_cons_zero, Act.put, List.setIfInBounds_toArray, List.set_cons_zero, List.set_cons_succ]
                          refine hK _ _ (fun _ => ⟨x19, x5⟩) ?_
                          clear hK K hS
                          refine Picks.one (i := 13) (by kernel_rfl) rfl (by rfl) (fun K hK => ?_)
                          go_simp
                          refine hK _ _ (fun _ => ⟨x19, x5⟩) ?_
                          clear hK K
                          refine Picks.one (i := 14) (by kernel_rfl) rfl (by rfl) (fun K hK => ?_)
                          go_simp
                          refine hK _ _ (fun _ => ⟨x19, x5⟩) ?_
                          clear hK K
                          refine Picks.one (i := 15) (by kernel_rfl) rfl (by rfl) (fun K hK => ?_)
                          go_simp
                          refine hK _ _ (fun h => absurd rfl h) ?_
                          clear hK K x19 x5 z5
                          refine Picks.done (by kernel_rfl) ?_ _
                          refine NoPanic.normal ?_
                          replace h := h.drew.grow ht3 ho3 hk3 (fun k hk => by simp [hk]) (by simp) ⟨nA.2.2.1, nA.2.2.2.2⟩ hap.sc hap.mc hap.cd hap.u (fun k hk => (hap.p k hk).2.2.1) hap.up
                          have hU : ∀ k ∈ blk uo', k ≠ D ∧ k ≠ S ∧ k ≠ C ∧ k ≠ M := fun k hk => by
                            rcases hk3 k hk with h1 | h1
                            · exact hap.u k h1
                            · have hz : w.heap.size ≤ W2.drew.heap.size := hzz
                              omega
                          clear ho3 ht3 hk3 hrun
                          go_wp2
                          generalize W3.setCell ⟨C, 5, none⟩ (.slice uo' (un + pn) uc') = W4 at *
                          have n1 : M ∉ S :: C :: exs D m2 m3 := by
                            have := notin_exs h.dom h.mm0 hap.md
                            simp only [List.mem_cons, not_or]
                            exact ⟨hap.ms, hap.mc, this⟩
                          have n2 : A ∉ S :: C :: exs D m2 m3 := by
                            have := notin_exs h.dom h.two.a0 nA.2.2.2.1
                            simp only [List.mem_cons, not_or]
                            exact ⟨nA.2.1, nA.2.2.1, this⟩
                          have n3 : ∀ k ∈ blk uo', k ∉ S :: C :: exs D m2 m3 := fun k hk => by
                            have h1 := hU k hk
                            simp only [List.mem_cons, not_or, exs, List.mem_append]
                            refine ⟨h1.2.1, h1.2.2.1, h1.1, fun hm => ?_, fun hm => ?_⟩
                            · cases m2 with
                              | none => simp at hm
                              | some q => simp at hm; subst hm; exact blk_ne_map h.dom.i2 h.own hk
                            · cases m3 with
                              | none => simp at hm
                              | some q => simp at hm; subst hm; exact blk_ne_map h.dom.i3 h.own hk
                          replace h := h
                          go_region_held3 (fun w' => w'.cell? ⟨M, 0, none⟩ = some (.pointer (some ⟨D, 0, none⟩)) ∧ w'.cell? ⟨A, 0, none⟩ = some (.pointer none) ∧ w'.cell? ⟨A, 1, none⟩ = some (.int .u64 0) ∧ w'.cell? ⟨A, 2, none⟩ = some (.int .i64 0) ∧ w'.cell? ⟨A, 3, none⟩ = some (.pointer none) ∧ w'.cell? ⟨A, 4, none⟩ = some (.bool bs) ∧ w'.cell? ⟨A, 5, none⟩ = some (.slice none 0 0)) (first | exact ⟨h.drew.mm0, h.drew.two.a0, h.drew.two.a1, h.drew.two.a2, h.drew.two.a3, h.drew.two.a4, h.drew.two.a5⟩ | exact ⟨y0, y2.a0, y2.a1, y2.a2, y2.a3, y2.a4, y2.a5⟩)
                            (first | (go_at_call 10; refine (sset_any D S C id kept m2 m3 es2 es3 es2' es3' bp po pn pc bs r H _ h.drew.dom hap.sd hap.cd hap.sc h.drew.s19 h.drew.s7 h.drew.zs7 h.drew.u3 h.drew.zu3).mono ?_; rintro e w5 ⟨rfl, hp⟩; obtain ⟨g, cap, q, hg, e7, e3, hrow, hd5, ht5, sS5, sC5⟩ := hp; have y0 : w5.cell? ⟨M, 0, none⟩ = some (.pointer (some ⟨D, 0, none⟩)) := (ht5.cell (lt_of_cell h.drew.mm0) n1).trans h.drew.mm0; have y2 := h.drew.two.turn ht5 n2 n2))
                          go_wp2
                          go_end0
                          refine ⟨rfl, ?_⟩
                          unfold DPost
                          exact ⟨g, cap, q, uo', uc', (ht5.cell (lt_of_cell h.drew.mm12) n1).trans h.drew.mm12, e7, e3, hrow, (sC5 5 (by omega)).trans h.drew.c5, own_turn h.drew.own ht5 n3, hd5, h.drew.turn.fresh ht5 (fun i hi => Or.inl (by simp only [List.mem_cons, List.mem_append] at hi ⊢; rcases hi with hi | hi | hi <;> simp [hi])), fun j hj => (sS5 j hj).trans (h.drew.sS j)⟩
end Go.Proofs.Ybulkcbmo.D
