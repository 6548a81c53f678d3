/-
  THE STATE OF holdBack: what a call holds before ('Todo') and after ('Done') its round, and what the loop keeps ('Inv'). No walk here.
-/
import Derived.Test.YbulkccjsDoorHHeld
import Derived.Test.YbulkccjsDoorHClo
namespace Go.Proofs.YbulkccjsDoor.H
open Go.RowKit
set_option linter.unusedSimpArgs false
set_option linter.unusedVariables false

/-- The cause that the stub tells. -/
def caus (t : Int) : Int → Int := fun ci => (ci + t) % 256
/-- The keys of the held map behind a row of cells. -/
def hk (hs zs : List Int) : List Int := zs.foldl (fun ks z => if z ∈ hs then ins ks z else ks) []
/-- The cells that are not held. -/
def kp (hs zs : List Int) : List Int := zs.filter (fun z => decide (z ∉ hs))

theorem hk_snoc (hs zs : List Int) (z : Int) : hk hs (zs ++ [z]) = if z ∈ hs then ins (hk hs zs) z else hk hs zs := by simp [hk]
theorem kp_snoc (hs zs : List Int) (z : Int) : kp hs (zs ++ [z]) = if z ∈ hs then kp hs zs else kp hs zs ++ [z] := by
  by_cases h : z ∈ hs <;> simp [kp, h]
theorem take_snoc {zs : List Int} {k : Nat} {z : Int} (h : zs[k]? = some z) : zs.take (k + 1) = zs.take k ++ [z] := by
  obtain ⟨h1, h2⟩ := List.getElem?_eq_some_iff.1 h
  rw [List.take_succ_eq_append_getElem h1, h2]
theorem mem_ins (ks : List Int) (a x : Int) : x ∈ ins ks a ↔ x ∈ ks ∨ x = a := by
  unfold ins
  by_cases h : a ∈ ks
  · rw [if_pos h]
    exact ⟨.inl, fun h' => h'.elim id (fun e => e ▸ h)⟩
  · rw [if_neg h]; simp
theorem snoc_ind {P : List Int → Prop} (h0 : P []) (h1 : ∀ zs z, P zs → P (zs ++ [z])) : ∀ zs, P zs := by
  intro zs
  rw [← List.reverse_reverse zs]
  induction zs.reverse with
  | nil => exact h0
  | cons z l ih => rw [List.reverse_cons]; exact h1 _ _ ih
theorem mem_hk (hs zs : List Int) (x : Int) : x ∈ hk hs zs ↔ x ∈ zs ∧ x ∈ hs := by
  refine snoc_ind (P := fun zs => x ∈ hk hs zs ↔ x ∈ zs ∧ x ∈ hs) (by simp [hk]) ?_ zs
  intro zs z ih
  rw [hk_snoc]
  by_cases h : z ∈ hs
  · rw [if_pos h, mem_ins, ih]
    constructor
    · rintro (⟨h1, h2⟩ | rfl)
      · exact ⟨by simp [h1], h2⟩
      · exact ⟨by simp, h⟩
    · rintro ⟨h1, h2⟩
      simp at h1
      rcases h1 with h1 | h1
      · exact .inl ⟨h1, h2⟩
      · exact .inr h1
  · rw [if_neg h, ih]
    constructor
    · rintro ⟨h1, h2⟩; exact ⟨by simp [h1], h2⟩
    · rintro ⟨h1, h2⟩
      simp at h1
      rcases h1 with h1 | rfl
      · exact ⟨h1, h2⟩
      · exact absurd h2 h
theorem hk_kp (hs zs : List Int) : (hk hs zs).length + (kp hs zs).length ≤ zs.length := by
  refine snoc_ind (P := fun zs => (hk hs zs).length + (kp hs zs).length ≤ zs.length) (by simp [hk, kp]) ?_ zs
  intro zs z ih
  rw [hk_snoc, kp_snoc]
  by_cases h : z ∈ hs
  · rw [if_pos h, if_pos h]
    have : (ins (hk hs zs) z).length ≤ (hk hs zs).length + 1 := by unfold ins; split <;> simp
    simp; omega
  · rw [if_neg h, if_neg h]; simp; omega
theorem kp_le (hs zs : List Int) (k : Nat) : (kp hs (zs.take k)).length ≤ zs.length := by
  have h1 := hk_kp hs (zs.take k)
  have h2 : (zs.take k).length ≤ zs.length := by simp; omega
  omega

/-- What is known of one call: its cells, what its peer holds back, its blocks. -/
structure Dat where
  zs : List Int
  hs : List Int
  S : Nat
  P : Nat
  cb : Nat
  cc : Nat
  lb : Nat
  lc : Nat
  hc : Nat
  R : Nat
  ho : Option Addr

structure Fit (d : Dat) : Prop where
  nz : d.zs.length ≤ 1024
  nh : d.hs.length ≤ 1024
  wf : ∀ z ∈ d.zs, wf16 z

/-- A call ahead of its round. -/
structure Todo (CA : Nat) (W : World) (i : Nat) (d : Dat) : Prop where
  a0 : W.cell? ⟨CA, i * 11, none⟩ = some (.pointer (some ⟨d.P, 0, none⟩))
  a1 : W.cell? ⟨CA, i * 11 + 1, none⟩ = some (.slice (some ⟨d.cb, 0, none⟩) d.zs.length d.cc)
  a3 : W.cell? ⟨CA, i * 11 + 3, none⟩ = some (.int .u8 0)
  a4 : W.cell? ⟨CA, i * 11 + 4, none⟩ = some (.slice (some ⟨d.lb, 0, none⟩) d.zs.length d.lc)
  a5 : W.cell? ⟨CA, i * 11 + 5, none⟩ = some (reqOf d.R)
  a6 : W.cell? ⟨CA, i * 11 + 6, none⟩ = some (.map none)
  p0 : W.cell? ⟨d.P, 0, none⟩ = some (.iface 29 (.pointer (some ⟨d.S, 0, none⟩)))
  s0 : W.cell? ⟨d.S, 0, none⟩ = some (.slice d.ho d.hs.length d.hc)
  s1 : W.cell? ⟨d.S, 1, none⟩ = some (.int .i64 0)
  sz : W.frozen? ⟨d.S, 1, none⟩ = false
  cells : W.ownsRow 0 38 4 (.slice (some ⟨d.cb, 0, none⟩) d.zs.length d.cc) d.zs.length (cidCells d.zs)
  list : W.ownsRow 0 38 4 (.slice (some ⟨d.lb, 0, none⟩) d.zs.length d.lc) d.zs.length (cidCells d.zs)
  held : U16 W d.ho d.hs.length d.hs

/-- The blocks of a call that a round only reads. -/
def Dat.rd (d : Dat) : List Nat := [d.P, d.cb, d.lb] ++ blk d.ho

/-- The rows of the calls' array but for row i stay as they were. -/
def Rows1 (CA i : Nat) (W W' : World) : Prop := ∀ o, (o < i * 11 ∨ i * 11 + 11 ≤ o) → W'.cell? ⟨CA, o, none⟩ = W.cell? ⟨CA, o, none⟩

theorem U16.turn {w w' : World} {o : Option Addr} {n : Nat} {zs : List Int} {ex : List Nat} (h : U16 w o n zs) (ht : Turn ex w w') (hn : ∀ k ∈ blk o, k ∉ ex) : U16 w' o n zs :=
  ⟨h.1, h.2.imp id fun ⟨ad, h1, h2⟩ => ⟨ad, h1, fun j u hu => by
    have := h2 j u hu
    subst h1
    exact (ht.cell (lt_of_cell this) (by simp only [Addr.add]; split <;> exact hn _ (by simp [blk]))).trans this⟩⟩

theorem Todo.turn {CA : Nat} {W W' : World} {j : Nat} {d : Dat} {ex : List Nat} (h : Todo CA W j d) (ht : Turn ex W W') (hS : d.S ∉ ex) (hr : ∀ x ∈ d.rd, x ∉ ex) (hc : ∀ f, f < 11 → W'.cell? ⟨CA, j * 11 + f, none⟩ = W.cell? ⟨CA, j * 11 + f, none⟩) : Todo CA W' j d :=
  ⟨(hc 0 (by omega)).trans h.a0, (hc 1 (by omega)).trans h.a1, (hc 3 (by omega)).trans h.a3, (hc 4 (by omega)).trans h.a4, (hc 5 (by omega)).trans h.a5, (hc 6 (by omega)).trans h.a6,
   (ht.cell (lt_of_cell h.p0) (hr _ (by simp [Dat.rd]))).trans h.p0, (ht.cell (lt_of_cell h.s0) hS).trans h.s0, (ht.cell (lt_of_cell h.s1) hS).trans h.s1, (ht.frozen (lt_of_cell h.s1) hS).trans h.sz,
   own_turn h.cells ht (by intro k hk; exact hr k (by simp [blk] at hk; simp [Dat.rd, hk])), own_turn h.list ht (by intro k hk; exact hr k (by simp [blk] at hk; simp [Dat.rd, hk])),
   h.held.turn ht (fun k hk => hr k (by simp [Dat.rd, hk]))⟩

/-- A request that the closure made, and its list. -/
structure Ent where
  R : Nat
  g : Nat
  m : Nat
  c : Nat

def xsOf (es : List Ent) : List Value := es.flatMap fun e => [.int .u8 0, .slice (some ⟨e.g, 0, none⟩) e.m e.c]
def ysOf (es : List Ent) : List Value := es.map fun e => reqOf e.R

/-- A call behind its round, all named. -/
structure DoneX (D : List Nat) (CA B : Nat) (t : Int) (W : World) (i : Nat) (d : Dat) (es : List Ent) (ix : Nat) (v : Value) (g m c : Nat) (q : Value) (ls : List Int) : Prop where
  a1 : W.cell? ⟨CA, i * 11 + 1, none⟩ = some (.slice (some ⟨d.cb, 0, none⟩) d.zs.length d.cc)
  a3 : W.cell? ⟨CA, i * 11 + 3, none⟩ = some (.int .u8 0)
  a4 : W.cell? ⟨CA, i * 11 + 4, none⟩ = some (.slice (some ⟨g, 0, none⟩) m c)
  a5 : W.cell? ⟨CA, i * 11 + 5, none⟩ = some q
  a6 : W.cell? ⟨CA, i * 11 + 6, none⟩ = some v
  s1 : W.cell? ⟨d.S, 1, none⟩ = some (.int .i64 d.zs.length)
  cells : W.ownsRow 0 38 4 (.slice (some ⟨d.cb, 0, none⟩) d.zs.length d.cc) d.zs.length (cidCells d.zs)
  list : W.ownsRow 0 38 4 (.slice (some ⟨g, 0, none⟩) m c) m (cidCells ls)
  held : HeldMap (caus t) W v (hk d.hs d.zs)
  nv : ∀ r, v = .map (some r) → B ≤ r ∧ r ∉ D
  ng : g = d.lb ∨ (B ≤ g ∧ g ∉ D)
  out : (hk d.hs d.zs = [] ∧ v = .map none ∧ q = reqOf d.R ∧ ls = d.zs) ∨ (hk d.hs d.zs ≠ [] ∧ kp d.hs d.zs = [] ∧ q = .nilIface ∧ ls = d.zs) ∨
    (hk d.hs d.zs ≠ [] ∧ kp d.hs d.zs ≠ [] ∧ ls = kp d.hs d.zs ∧ ∃ Rq, q = reqOf Rq ∧ es[ix]? = some ⟨Rq, g, m, c⟩)

def Done (D : List Nat) (CA B : Nat) (t : Int) (W : World) (i : Nat) (d : Dat) (es : List Ent) (ix : Nat) : Prop := ∃ v g m c q ls, DoneX D CA B t W i d es ix v g m c q ls

theorem HeldMap.turn {f : Int → Int} {w w' : World} {v : Value} {ks : List Int} {ex : List Nat} (h : HeldMap f w v ks) (ht : Turn ex w w') (hn : ∀ r, v = .map (some r) → r ∉ ex) : HeldMap f w' v ks := by
  rcases h with h | ⟨r, arr, c, rfl, h1, h2⟩
  · exact .inl h
  · have hl : r < w.heap.size := (Array.getElem?_eq_some_iff.1 h1).1
    exact .inr ⟨r, arr, c, rfl, (ht.block r hl (hn r rfl)).trans h1, h2⟩
theorem HeldMap.lt {f : Int → Int} {w : World} {r : Nat} {ks : List Int} (h : HeldMap f w (.map (some r)) ks) : r < w.heap.size := by
  rcases h with ⟨h, _⟩ | ⟨r', arr, c, h, h1, _⟩
  · cases h
  · cases h; exact (Array.getElem?_eq_some_iff.1 h1).1

theorem Done.turn {D D' : List Nat} {CA B : Nat} {t : Int} {W W' : World} {j : Nat} {d : Dat} {es ext : List Ent} {ix : Nat} {ex : List Nat} (h : Done D CA B t W j d es ix) (ht : Turn ex W W')
    (hex : ∀ x ∈ ex, x ∈ D ∨ (x < B ∧ x ≠ d.S ∧ x ≠ d.cb ∧ x ≠ d.lb)) (hb : d.S < B ∧ d.cb < B ∧ d.lb < B) (hD : ∀ x ∈ D, B ≤ x) (hD' : ∀ x ∈ D', x ∈ D ∨ W.heap.size ≤ x)
    (hc : ∀ f, f < 11 → W'.cell? ⟨CA, j * 11 + f, none⟩ = W.cell? ⟨CA, j * 11 + f, none⟩) : Done D' CA B t W' j d (es ++ ext) ix := by
  obtain ⟨v, g, m, c, q, ls, h⟩ := h
  have nS : d.S ∉ ex := fun hx => by
    rcases hex _ hx with h1 | h1
    · have := hD _ h1; omega
    · exact h1.2.1 rfl
  have nc : d.cb ∉ ex := fun hx => by
    rcases hex _ hx with h1 | h1
    · have := hD _ h1; omega
    · exact h1.2.2.1 rfl
  have ng : g ∉ ex := fun hx => by
    rcases hex _ hx with h1 | h1
    · rcases h.ng with h2 | h2
      · have := hD _ h1; omega
      · exact h2.2 h1
    · rcases h.ng with h2 | h2
      · exact h1.2.2.2 h2
      · omega
  have nv : ∀ r, v = .map (some r) → r ∉ ex := fun r hr hx => by
    have h3 := h.nv r hr
    rcases hex _ hx with h1 | h1
    · exact h3.2 h1
    · omega
  have hgl : g < W.heap.size := (own_base h.list g (by simp [blk])).2
  refine ⟨v, g, m, c, q, ls, (hc 1 (by omega)).trans h.a1, (hc 3 (by omega)).trans h.a3, (hc 4 (by omega)).trans h.a4, (hc 5 (by omega)).trans h.a5, (hc 6 (by omega)).trans h.a6,
    (ht.cell (lt_of_cell h.s1) nS).trans h.s1, own_turn h.cells ht (by simpa [blk] using nc), own_turn h.list ht (by simpa [blk] using ng), h.held.turn ht nv, fun r hr => ⟨(h.nv r hr).1, fun hx => ?_⟩, ?_, ?_⟩
  · rcases hD' _ hx with h1 | h1
    · exact (h.nv r hr).2 h1
    · subst hr
      have := h.held.lt
      omega
  · rcases h.ng with h2 | h2
    · exact .inl h2
    · refine .inr ⟨h2.1, fun hx => ?_⟩
      rcases hD' _ hx with h1 | h1
      · exact h2.2 h1
      · omega
  · rcases h.out with h1 | h1 | ⟨h1, h2, h3, Rq, h4, h5⟩
    · exact .inl h1
    · exact .inr (.inl h1)
    · exact .inr (.inr ⟨h1, h2, h3, Rq, h4, by rw [List.getElem?_append_left (List.getElem?_eq_some_iff.1 h5).1]; exact h5⟩)

/-- Does this call go out with a list of its own? -/
def third (d : Dat) : Bool := !(hk d.hs d.zs).isEmpty && !(kp d.hs d.zs).isEmpty
def cnt (d : Nat → Dat) : Nat → Nat
  | 0 => 0
  | i + 1 => cnt d i + if third (d i) then 1 else 0
theorem cnt_le (d : Nat → Dat) : ∀ i, cnt d i ≤ i
  | 0 => Nat.le_refl 0
  | i + 1 => by have := cnt_le d i; simp only [cnt]; split <;> omega

/-- Where the blocks lie. -/
structure Zones (CA LL RR n B : Nat) (d : Nat → Dat) (b : Nat → Nat) : Prop where
  mono : ∀ j, b j ≤ b (j + 1)
  zS : ∀ j, j < n → b j ≤ (d j).S ∧ (d j).S < b (j + 1)
  zone : ∀ j, j < n → ∀ x ∈ (d j).rd, b j ≤ x ∧ x < b (j + 1) ∧ x ≠ (d j).S
  ca : CA < b 0
  one : 1 < b 0
  one' : CA ≠ 1
  ll : b n ≤ LL
  rr : b n ≤ RR
  llB : LL < B
  rrB : RR < B
  lr : LL ≠ RR

theorem Zones.le {CA LL RR n B : Nat} {d : Nat → Dat} {b : Nat → Nat} (z : Zones CA LL RR n B d b) : ∀ {i j : Nat}, i ≤ j → b i ≤ b j := by
  intro i j h
  induction h with
  | refl => exact Nat.le_refl _
  | step _ ih => exact Nat.le_trans ih (z.mono _)

theorem Zones.far {CA LL RR n B : Nat} {d : Nat → Dat} {b : Nat → Nat} (z : Zones CA LL RR n B d b) {i j : Nat} (hi : i < n) (hj : j < n) (hij : i ≠ j) : ∀ x, b j ≤ x → x < b (j + 1) → x ≠ (d i).S ∧ x ≠ CA ∧ x ≠ LL ∧ x ≠ RR ∧ x < B := by
  intro x h1 h2
  have hS := z.zS i hi
  have h0 := z.le (Nat.zero_le j)
  have hn : b (j + 1) ≤ b n := z.le hj
  have := z.ca; have := z.ll; have := z.rr; have := z.llB
  refine ⟨?_, by omega, by omega, by omega, by omega⟩
  rcases Nat.lt_or_ge i j with h | h
  · have := z.le (show i + 1 ≤ j from h); omega
  · have := z.le (show j + 1 ≤ i by omega); omega

/-- What the loop over the calls keeps. -/
structure Inv (CA LL RR n : Nat) (t : Int) (d : Nat → Dat) (W0 W : World) (i : Nat) (es : List Ent) (lo : Option Addr) (cl : Nat) (ro : Option Addr) (cr : Nat) : Prop where
  len : es.length = cnt d i
  bl : W.cell? ⟨LL, 0, none⟩ = some (.slice lo es.length cl)
  br : W.cell? ⟨RR, 0, none⟩ = some (.slice ro es.length cr)
  zl : W.frozen? ⟨LL, 0, none⟩ = false
  zr : W.frozen? ⟨RR, 0, none⟩ = false
  ol : W.ownsRow W0.heap.size 44 2 (.slice lo es.length cl) es.length (xsOf es)
  or : W.ownsRow W0.heap.size 52 1 (.slice ro es.length cr) es.length (ysOf es)
  dj : ∀ k ∈ blk lo, k ∉ blk ro
  done : ∀ j, j < i → Done (blk lo ++ blk ro) CA W0.heap.size t W j (d j) es (cnt d j)
  todo : ∀ j, i ≤ j → j < n → Todo CA W j (d j)
  cz : ∀ o, W.frozen? ⟨CA, o, none⟩ = false
  tab : Tab W
  sz : 1 < W.heap.size
  turn : Turn (CA :: LL :: RR :: (List.range n).map (fun j => (d j).S)) W0 W

theorem Inv.step {CA LL RR n : Nat} {t : Int} {d : Nat → Dat} {W0 W W' : World} {i : Nat} {es ext : List Ent} {lo lo' : Option Addr} {cl cl' : Nat} {ro ro' : Option Addr} {cr cr' : Nat} {b : Nat → Nat}
    (h : Inv CA LL RR n t d W0 W i es lo cl ro cr) (z : Zones CA LL RR n W0.heap.size d b) (hi : i < n) (ht : Turn (CA :: (d i).S :: LL :: RR :: (blk lo ++ blk ro)) W W') (hrows : Rows1 CA i W W')
    (hlen : (es ++ ext).length = cnt d (i + 1))
    (bl : W'.cell? ⟨LL, 0, none⟩ = some (.slice lo' (es ++ ext).length cl')) (br : W'.cell? ⟨RR, 0, none⟩ = some (.slice ro' (es ++ ext).length cr')) (zl : W'.frozen? ⟨LL, 0, none⟩ = false) (zr : W'.frozen? ⟨RR, 0, none⟩ = false)
    (ol : W'.ownsRow W0.heap.size 44 2 (.slice lo' (es ++ ext).length cl') (es ++ ext).length (xsOf (es ++ ext))) (or : W'.ownsRow W0.heap.size 52 1 (.slice ro' (es ++ ext).length cr') (es ++ ext).length (ysOf (es ++ ext))) (dj : ∀ k ∈ blk lo', k ∉ blk ro')
    (gl : ∀ k ∈ blk lo', k ∈ blk lo ∨ W.heap.size ≤ k) (gr : ∀ k ∈ blk ro', k ∈ blk ro ∨ W.heap.size ≤ k)
    (hd : Done (blk lo' ++ blk ro') CA W0.heap.size t W' i (d i) (es ++ ext) (cnt d i)) (cz : ∀ o, W'.frozen? ⟨CA, o, none⟩ = false) : Inv CA LL RR n t d W0 W' (i + 1) (es ++ ext) lo' cl' ro' cr' := by
  have hB : ∀ x ∈ blk lo ++ blk ro, W0.heap.size ≤ x := fun x hx => by
    rcases List.mem_append.1 hx with h1 | h1
    · exact (own_base h.ol x h1).1
    · exact (own_base h.or x h1).1
  have hcells : ∀ j, j ≠ i → ∀ f, f < 11 → W'.cell? ⟨CA, j * 11 + f, none⟩ = W.cell? ⟨CA, j * 11 + f, none⟩ := fun j hj f hf => hrows _ (by omega)
  have hfar : ∀ j, j < n → j ≠ i → ∀ x, b j ≤ x → x < b (j + 1) → x ∉ CA :: (d i).S :: LL :: RR :: (blk lo ++ blk ro) := fun j hj hji x h1 h2 hx => by
    have h3 := z.far hi hj (Ne.symm hji) x h1 h2
    simp only [List.mem_cons] at hx
    rcases hx with h4 | h4 | h4 | h4 | h4
    · exact h3.2.1 h4
    · exact h3.1 h4
    · exact h3.2.2.1 h4
    · exact h3.2.2.2.1 h4
    · have := hB _ h4; omega
  have n1 : (1 : Nat) ∉ CA :: (d i).S :: LL :: RR :: (blk lo ++ blk ro) := fun hx => by
    have := z.one; have := z.one'; have := z.zS i hi; have := z.le (Nat.zero_le i); have := z.le (Nat.zero_le n); have := z.ll; have := z.rr; have := z.llB
    simp only [List.mem_cons] at hx
    rcases hx with h4 | h4 | h4 | h4 | h4
    · omega
    · omega
    · omega
    · omega
    · have := hB _ h4; omega
  obtain ⟨s, t0, ts⟩ := h.tab.n
  refine ⟨hlen, bl, br, zl, zr, ol, or, dj, fun j hj => ?_, fun j hj hjn => ?_, cz, ⟨⟨s, (ht.cell h.sz n1).trans t0, ts⟩, (ht.cell h.sz n1).trans h.tab.p, (ht.cell h.sz n1).trans h.tab.l, (ht.cell h.sz n1).trans h.tab.c⟩, Nat.lt_of_lt_of_le h.sz ht.size, ?_⟩
  · by_cases hji : j = i
    · subst hji; exact hd
    · have hjn : j < n := Nat.lt_of_le_of_lt (Nat.le_of_lt_succ hj) hi
      have zj := z.zone j hjn
      have f := z.far hi hjn (Ne.symm hji)
      have zS := z.zS j hjn
      have zc := zj (d j).cb (by simp [Dat.rd])
      have zb := zj (d j).lb (by simp [Dat.rd])
      have fS := f _ zS.1 zS.2
      have fc := f _ zc.1 zc.2.1
      have fb := f _ zb.1 zb.2.1
      have hdj := h.done j (Nat.lt_of_le_of_ne (Nat.le_of_lt_succ hj) hji)
      refine Done.turn (D := blk lo ++ blk ro) (D' := blk lo' ++ blk ro') (ext := ext) hdj ht (fun x hx => ?_) ⟨fS.2.2.2.2, fc.2.2.2.2, fb.2.2.2.2⟩ hB (fun x hx => ?_) (hcells j hji)
      · simp only [List.mem_cons] at hx
        have q1 := z.ca; have q2 := z.zS i hi; have q3 := z.le (Nat.zero_le n); have q4 := z.le (show i + 1 ≤ n from hi); have q5 := z.ll; have q6 := z.llB; have q7 := z.rrB
        clear hd ol or h ht hrows
        rcases hx with h4 | h4 | h4 | h4 | h4
        · exact .inr ⟨by omega, by omega, by omega, by omega⟩
        · exact .inr ⟨by omega, by omega, by omega, by omega⟩
        · exact .inr ⟨by omega, by omega, by omega, by omega⟩
        · exact .inr ⟨by omega, by omega, by omega, by omega⟩
        · exact .inl h4
      · rcases List.mem_append.1 hx with h1 | h1
        · rcases gl x h1 with h2 | h2
          · exact .inl (by simp [h2])
          · exact .inr h2
        · rcases gr x h1 with h2 | h2
          · exact .inl (by simp [h2])
          · exact .inr h2
  · have hji : j ≠ i := fun e => by subst e; exact Nat.not_succ_le_self _ hj
    have zS := z.zS j hjn
    exact (h.todo j (Nat.le_of_succ_le hj) hjn).turn ht (hfar j hjn hji _ zS.1 zS.2) (fun x hx => hfar j hjn hji x ((z.zone j hjn x hx).1) ((z.zone j hjn x hx).2.1)) (hcells j hji)
  · refine h.turn.fresh ht (fun x hx => ?_)
    simp only [List.mem_cons] at hx ⊢
    rcases hx with h4 | h4 | h4 | h4 | h4
    · exact .inl (.inl h4)
    · exact .inl (.inr (.inr (.inr (List.mem_map.2 ⟨i, List.mem_range.2 hi, h4.symm⟩))))
    · exact .inl (.inr (.inl h4))
    · exact .inl (.inr (.inr (.inl h4)))
    · exact .inr (hB _ h4)

/-- A round that lets no request go out. -/
theorem Inv.quiet {CA LL RR n : Nat} {t : Int} {d : Nat → Dat} {W0 W W' : World} {i : Nat} {es : List Ent} {lo : Option Addr} {cl : Nat} {ro : Option Addr} {cr : Nat} {b : Nat → Nat}
    (h : Inv CA LL RR n t d W0 W i es lo cl ro cr) (z : Zones CA LL RR n W0.heap.size d b) (hi : i < n) (ht : Turn [CA, (d i).S] W W') (hrows : Rows1 CA i W W') (h3 : third (d i) = false)
    (hd : Done (blk lo ++ blk ro) CA W0.heap.size t W' i (d i) es (cnt d i)) (cz : ∀ o, W'.frozen? ⟨CA, o, none⟩ = false) : Inv CA LL RR n t d W0 W' (i + 1) es lo cl ro cr := by
  have hB : ∀ x ∈ blk lo ++ blk ro, W0.heap.size ≤ x := fun x hx => by
    rcases List.mem_append.1 hx with h1 | h1
    · exact (own_base h.ol x h1).1
    · exact (own_base h.or x h1).1
  have hzi := z.zS i hi
  have hz0 := z.le (Nat.zero_le n)
  have hzn := z.le (show i + 1 ≤ n from hi)
  have := z.ca; have := z.ll; have := z.rr; have := z.llB; have := z.rrB
  have nL : LL ∉ [CA, (d i).S] := by simp; omega
  have nR : RR ∉ [CA, (d i).S] := by simp; omega
  have nx : ∀ x ∈ blk lo ++ blk ro, x ∉ [CA, (d i).S] := fun x hx => by have := hB x hx; simp; omega
  have hes : es ++ [] = es := List.append_nil es
  have key := Inv.step (ext := []) (lo' := lo) (cl' := cl) (ro' := ro) (cr' := cr) h z hi (ht.mono (by simp)) hrows
  rw [hes] at key
  exact key (by rw [h.len]; simp [cnt, h3]) ((ht.cell (lt_of_cell h.bl) nL).trans h.bl) ((ht.cell (lt_of_cell h.br) nR).trans h.br) ((ht.frozen (lt_of_cell h.bl) nL).trans h.zl) ((ht.frozen (lt_of_cell h.br) nR).trans h.zr)
    (own_turn h.ol ht (fun k hk => nx k (by simp [hk]))) (own_turn h.or ht (fun k hk => nx k (by simp [hk]))) h.dj (fun k hk => .inl hk) (fun k hk => .inl hk) hd cz
end Go.Proofs.YbulkccjsDoor.H
