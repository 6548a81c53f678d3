/-
  THE PROOF OF 'Rows.LawS3888ALongSaid': the frame is the kit's shell for this function; the walk is ours.
-/
import Derived.Test.YbulkcbmoRows
import Derived.Test.YbulkcbmoAWalks
import Derived.WalkKit
import Derived.WalkSpells
import Derived.ProofKit
import Derived.OpenShut
import Derived.ShutString
import Derived.ChangeOld
import Derived.Below
namespace Go.Proofs.Ybulkcbmo.lawS3888ALong
open Go.ChangeShapes Go.WideShapes Go.ChangeAt Go.RowKit
open Go.ChangeMaps (open_string shut_string)
set_option linter.unusedVariables false

theorem info5 : (Yba.prog.info? 5).map (fun i => (i.zero, i.size, i.bytes)) = some (some (.int .u8 0), 1, 1) := by kernel_rfl

/-- The tail's cells, as they lie in w. -/
def Tail (w : World) (a : Option Addr) (news : List Value) : Prop := ∀ ad, a = some ad → ∀ j u, news[j]? = some u → w.cell? (ad.add j) = some u
theorem Tail.later {w w' : World} {a : Option Addr} {news : List Value} (h : Tail w a news) (hb : Below w.heap.size w w') : Tail w' a news := by
  intro ad had j u hj
  rw [hb.cell (AWalks.lt_of_cell (h ad had j u hj))]
  exact h ad had j u hj

theorem news_alloc (w : World) (l : List Value) (t : TypeId) : ∀ j u, l[j]? = some u → (w.alloc (.cells l.toArray t)).cell? (Addr.add ⟨w.heap.size, 0, none⟩ j) = some u := by
  intro j u h
  rw [Go.WideShapes.add_plain, Nat.zero_add]
  have e : (w.alloc (.cells l.toArray t)).heap[w.heap.size]? = some (.cells l.toArray t) := (MapKept.heap_alloc w _).1
  simp only [World.cell?, e]
  simpa using h

set_option maxRecDepth 100000 in
set_option maxHeartbeats 1000000 in
theorem walk_short (a0 a1 a2 : Int) (a3 : Option Addr) (len cap : Nat) (zs : List Int) (w : World) (h0 : 0 ≤ a0 ∧ a0 ≤ 255) (h1 : 0 ≤ a1 ∧ a1 ≤ 255) (h2 : 0 ≤ a2 ∧ a2 ≤ 255)
    (hl : len ≤ 4096) (hz : zs.length = len) (hnone : a3 = none → len = 0 ∧ cap = 0) (htail : Tail w a3 (zs.map (Value.int .u8))) :
    Calls Yba.prog 4 #[.int .u8 a0, .int .u8 a1, .int .u8 a2, .slice a3 len cap] w fun e w' => e = .returned (.bool true) ∧ Below w.heap.size w w' := by
  obtain ⟨i0, hi, hz0, hz1, hz2⟩ := info_parts info5
  have HN : Hid (a3 = none → len = 0 ∧ cap = 0) := hnone
  have HZ : Hid (zs.length = len) := hz
  have HZ2 : Hid (i0.bytes = 1) := hz2
  clear hnone hz hz2
  go_enter Yba.func4, Yba.ntmps4
  go_wp2_with (at_make; refine wpList_make_own _ rfl _ _ 22 rfl w.heap.size 5 i0 (.int .u8 0) 1 Yba.underlying22 hi hz0 hz1 .i64 .i64 _ (3 + len) rfl rfl (by omega) (by rw [HZ2.out]; omega) (by unfold maxLen; omega) (Nat.le_refl _) ?_)
  intro w1 hown1 hgrow1
  have hb1 : Below w.heap.size w w1 := (Below.refl _ _).grown hgrow1 (Nat.le_refl _) (by simp)
  go_wp2_with (at_builtin; refine wpList_append_fits _ rfl (.tmp 23) (.tmp 26) 22 rfl w.heap.size 5 i0 1 Yba.underlying22 hi hz1 w.heap.size 0 (3 + len) [] rfl (hown1.alloc _) ⟨w1.heap.size, 0, none⟩ 3 3 [.int .u8 255, .int .u8 a0, .int .u8 a1] rfl rfl ?c1 ?c2 ?c3 ?_)
  case c1 => exact news_alloc _ _ _
  case c2 => intro u hu; simp at hu; rcases hu with rfl | rfl | rfl <;> rfl
  case c3 => omega
  intro w2 hown2 hgrow2
  have hb2 : Below w.heap.size w w2 := (hb1.alloc hb1.size _).grown hgrow2 (by simp; exact Nat.le_succ_of_le hb1.size) (by simp)
  clear hown1 hgrow1 hb1 hgrow2 
  go_wp2_with (at_builtin; refine wpList_append_fits_any _ rfl (.tmp 28) (.tmp 29) 22 rfl w.heap.size 5 i0 1 Yba.underlying22 hi hz1 w.heap.size 3 (3 + len) _ rfl hown2 a3 len cap (zs.map (Value.int .u8)) rfl (by simpa using HZ.out) HN.out (htail.later hb2) (ints_oneCell _ _) (Nat.le_refl _) ?_)
  intro w3 hown3 hgrow3
  have hb3 : Below w.heap.size w w3 := hb2.grown hgrow3 hb2.size (by simp)
  have g0 : w3.cell? ⟨w.heap.size, 0, none⟩ = some (.int .u8 255) := by rw [hown3.cellAt 0 (by omega)]; rfl
  have g1 : w3.cell? ⟨w.heap.size, 1, none⟩ = some (.int .u8 a0) := by rw [hown3.cellAt 1 (by omega)]; rfl
  have g2 : w3.cell? ⟨w.heap.size, 2, none⟩ = some (.int .u8 a1) := by rw [hown3.cellAt 2 (by omega)]; rfl
  clear hown2 hgrow3 hb2 hown3
  go_wp2_with fail
  refine (AWalks.vl_long _ _ _ a0 a1 _ (by omega) (by omega) (Nat.le_refl _) h0 h1 g0 g1 g2).mono ?_
  rintro e w4 ⟨rfl, hb4'⟩
  have hb4 : Below w.heap.size w w4 := hb3.trans (hb4'.mono hb3.size)
  clear hb3 hb4' g0 g1 g2
  go_wp2_with (at_make; refine wpList_make_own _ rfl _ _ 22 rfl w.heap.size 5 i0 (.int .u8 0) 1 Yba.underlying22 hi hz0 hz1 .i64 .i64 _ (1 + len) rfl rfl (by omega) (by rw [HZ2.out]; omega) (by unfold maxLen; omega) hb4.size ?_)
  intro w5 hown5 hgrow5
  have hb5 : Below w.heap.size w w5 := hb4.grown hgrow5 hb4.size (by simp)
  have hs4 : w.heap.size ≤ w4.heap.size := hb4.size
  clear hb4 hgrow5
  obtain ⟨v, hv⟩ : ∃ v, a2 % 255 = v := ⟨_, rfl⟩
  have hv0 : 0 ≤ v ∧ v < 255 := by omega
  go_wp2_with (at_builtin; refine wpList_append_fits _ rfl (.tmp 54) (.tmp 56) 22 rfl w.heap.size 5 i0 1 Yba.underlying22 hi hz1 _ 0 (1 + len) [] rfl (hown5.alloc _) ⟨w5.heap.size, 0, none⟩ 1 1 [.int .u8 v] rfl rfl ?d1 ?d2 ?d3 ?_)
  case d1 => exact news_alloc _ _ _
  case d2 => intro u hu; simp at hu; subst hu; rfl
  case d3 => omega
  intro w6 hown6 hgrow6
  have hb6 : Below w.heap.size w w6 := (hb5.alloc hb5.size _).grown hgrow6 (by simp; exact Nat.le_succ_of_le hb5.size) (by intro k hk; cases hk; assumption)
  clear hown5 hb5 hgrow6
  go_wp2_with (at_builtin; refine wpList_append_fits_any _ rfl (.tmp 58) (.tmp 59) 22 rfl w.heap.size 5 i0 1 Yba.underlying22 hi hz1 _ 1 (1 + len) _ rfl hown6 a3 len cap (zs.map (Value.int .u8)) rfl (by simpa using HZ.out) HN.out (htail.later hb6) (ints_oneCell _ _) (Nat.le_refl _) ?_)
  intro w7 hown7 hgrow7
  have hb7 : Below w.heap.size w w7 := hb6.grown hgrow7 hb6.size (by intro k hk; cases hk; exact hs4)
  have g0 : w7.cell? ⟨w4.heap.size, 0, none⟩ = some (.int .u8 v) := by rw [hown7.cellAt 0 (by omega)]; rfl
  clear hown6 hgrow7 hb6 hown7
  go_wp2_with fail
  refine (AWalks.vl_short _ _ _ v _ (by omega) (by omega) hv0 g0).mono ?_
  rintro e w8 ⟨rfl, rfl⟩
  go_wp2
  go_ret
  exact ⟨rfl, hb7⟩

theorem own : ownKnob Yba.prog.godebug = none := by kernel_rfl
theorem laidOut : laidOutB Yba.prog = true := by kernel_rfl

/-- WHAT THE WALK IS TOLD OF A SLICE OF INTEGERS THAT CAME IN: it is nil; or it leads to a row of 'cap' cells, the numbers 'zs' (the first 'len' are its elements, the rest its spare room), each fitting its kind. -/
def IsRow (k : IntKind) (w : World) (a : Option Addr) (len cap : Nat) (zs : List Int) : Prop :=
  (a = none ∧ len = 0 ∧ cap = 0 ∧ zs = []) ∨
  ∃ x, a = some x ∧ len ≤ cap ∧ cap ≤ maxLen ∧ zs.length = cap ∧ (∀ i, i < zs.length → w.cell? (x.add i) = some (.int k (zs.getD i 0))) ∧ ∀ n ∈ zs, (Lit.int k n).wf = true

/-! ### STEP 1: THE WALK: the Go text returns true, AND WRITES NOTHING THAT WAS THERE: 'Below w.heap.size w w'' (Derived/Below.lean: '.refl', '.alloc', '.drew', '.setCell' at a new block, '.trans'). Open each 'IsRow' by 'rcases' AHEAD of 'go_enter'; part every test ahead of the walk. -/
theorem walk (a0 : Int) (a1 : Int) (a2 : Int) (a3 : Option Addr) (len3 cap3 : Nat) (z3 : List Int) (w : World) (w0 : (Lit.int .u8 a0).wf = true) (w1 : (Lit.int .u8 a1).wf = true) (w2 : (Lit.int .u8 a2).wf = true) (w3 : IsRow .u8 w a3 len3 cap3 z3) :
    Calls Yba.prog 4 #[.int .u8 a0, .int .u8 a1, .int .u8 a2, .slice a3 len3 cap3] w fun e w' => e = .returned (.bool true) ∧ Below w.heap.size w w' := by
  have h0 := bounds_u8 w0
  have h1 := bounds_u8 w1
  have h2 := bounds_u8 w2
  by_cases hbig : 4096 < len3
  · have hm : len3 ≤ maxLen := by
      rcases w3 with ⟨_, h, _⟩ | ⟨x, _, h1, h2, _⟩
      · omega
      · omega
    unfold maxLen at hm
    clear w3
    go_enter Yba.func4, Yba.ntmps4
    go_wp2
    go_ret
    exact ⟨rfl, Below.refl _ _⟩
  · rcases w3 with ⟨rfl, rfl, rfl, rfl⟩ | ⟨x, rfl, k1, k2, k3, k4, k5⟩
    · exact walk_short a0 a1 a2 none 0 0 [] w h0 h1 h2 (by omega) rfl (fun _ => ⟨rfl, rfl⟩) (by intro ad had; cases had)
    · refine walk_short a0 a1 a2 (some x) len3 cap3 (z3.take len3) w h0 h1 h2 (by omega) (by simp; omega) (by intro h; cases h) ?_
      intro ad had j u hj
      cases had
      have hj' : j < len3 := by
        rcases Nat.lt_or_ge j len3 with h | h
        · exact h
        · rw [List.getElem?_eq_none (by simp; omega)] at hj; cases hj
      rw [k4 j (by omega)]
      simp [hj', List.getElem?_eq_getElem (show j < z3.length by omega)] at hj
      subst hj
      simp [List.getElem?_eq_getElem (show j < z3.length by omega)]

/-! ### THE ROW's STEP: WRITTEN OUT: LEAVE IT -/
set_option maxRecDepth 100000 in
theorem lifted (os : Os) (started : os.Started) (H : Type) (enc : TypeId × Value → H) :
    ReturnsInHanded {} Yba.checked os 4 .any (Rows.lawS3888ALongSpec.pre6 enc Yba.prog Yba.f4 Rows.lawS3888ALongRow.domain false) (Rows.lawS3888ALongSpec.post enc Yba.prog Yba.f4 false true false false) := by
  refine returnsInHanded_of_change (C := Yba.checked) own started (by kernel_rfl) Yba.func4
    (ChangeSpec.witness6 (enc := enc) (C := Yba.checked) false ⟨#[], #[.int .u8 0, .int .u8 0, .int .u8 0, .slice none 0 0], []⟩ 8 (by kernel_rfl) (by kernel_rfl) (by kernel_rfl) (by kernel_rfl)) ?_
  intro W base args ds gs before hval0 hW hcnd _
  have hval : ∀ (j : Nat) t v, Yba.f4.params[j]? = some t → args[j]? = some v → Value.okWide Yba.prog W .any base t v := hval0
  have hW' := hW
  obtain ⟨p, q, hA0, hV, rfl, hfz, hnd⟩ := hW
  have hA : DataW.TrodAll enc Yba.prog W 0 (fun _ => true) true Yba.f4.params.toList args.toList ds p := hA0
  rw [Yba.params4] at hA hval
  obtain ⟨v0, vs0, d0, ds0, p0, q0, hargs, rfl, rfl, h0, r0⟩ := trodAll_cons hA
  obtain ⟨v1, vs1, d1, ds1, p1, q1, rfl, rfl, rfl, h1, r1⟩ := trodAll_cons r0
  obtain ⟨v2, vs2, d2, ds2, p2, q2, rfl, rfl, rfl, h2, r2⟩ := trodAll_cons r1
  obtain ⟨v3, vs3, d3, ds3, p3, q3, rfl, rfl, rfl, h3, r3⟩ := trodAll_cons r2
  obtain ⟨rfl, rfl, rfl⟩ := trodAll_nil r3
  obtain rfl : args = #[v0, v1, v2, v3] := by cases args; simp_all
  obtain ⟨rfl, rfl⟩ := trodVars_none hV
  obtain ⟨a0, rfl, rfl, rfl, w0⟩ := open_int Yba.underlying5 (hval 0 5 v0 rfl rfl) h0
  obtain ⟨a1, rfl, rfl, rfl, w1⟩ := open_int Yba.underlying5 (hval 1 5 v1 rfl rfl) h1
  obtain ⟨a2, rfl, rfl, rfl, w2⟩ := open_int Yba.underlying5 (hval 2 5 v2 rfl rfl) h2
  obtain ⟨a3, len3, cap3, rfl⟩ := okWide_slice Yba.underlying22 (hval 3 22 v3 rfl rfl)
  have k3 := h3
  have lt3 : ∀ x ∈ p3, x.block < W.heap.size := by obtain ⟨m, hm⟩ := k3; exact DataW.trod_lt m _ _ _ hm
  obtain ⟨z3, w3⟩ : ∃ zs, IsRow .u8 W a3 len3 cap3 zs := by
    obtain ⟨fuel, hf⟩ := h3
    rcases open_ints Yba.underlying22 Yba.underlying5 (by kernel_rfl) hf with ⟨hcs, _⟩ | ⟨x, l, c, zs, hcs, _, hl, hm, hz, _, hcell, hwz⟩
    · simp [Value.cells] at hcs
      obtain ⟨rfl, rfl, rfl⟩ := hcs
      exact ⟨[], .inl ⟨rfl, rfl, rfl, rfl⟩⟩
    · simp [Value.cells] at hcs
      obtain ⟨rfl, rfl, rfl⟩ := hcs
      exact ⟨zs, .inr ⟨_, rfl, hl, hm, by simpa using hz, hcell, hwz⟩⟩
  clear hA0 hval0
  refine (walk a0 a1 a2 a3 len3 cap3 z3 W w0 w1 w2 w3).mono fun e W' ⟨he, bel⟩ => ?_
  subst he
  exact ⟨_, rfl, _, _, _, [], _, [], hW', trodAll_mk1 (shut_bool Yba.underlying4 _), (trodAll_cons_mk (shut_int Yba.underlying5 w0) (trodAll_cons_mk (shut_int Yba.underlying5 w1) (trodAll_cons_mk (shut_int Yba.underlying5 w2) (trodAll_cons_mk (Below.trod laidOut (by kernel_rfl) (of_decide_eq_true (by kernel_rfl)) k3 bel lt3) trodAll_mk0)))), rfl, bel.frame _, fun h => by cases h⟩

theorem over : Rows.lawS3888ALongRow.holds Yba.pinned (OpenSpec.ofChange Rows.lawS3888ALongSpec) :=
  OpenClaim.holds_of_wide 4 Yba.f4 rfl rfl rfl rfl rfl rfl rfl ⟨rfl, rfl, rfl, rfl, rfl⟩ rfl rfl rfl rfl rfl (by kernel_rfl) Yba.func4 (by kernel_rfl)
    (of_decide_eq_true (by kernel_rfl)) (by unfold Func.isWrapper; first | (rw [if_pos (by decide +kernel)]; kernel_rfl) | (rw [if_neg (by decide +kernel)]; exact ⟨rfl, rfl⟩))
    (fun os started H enc _ => lifted os started H enc)

/-- ████ THE STATEMENT ████ -/
theorem proved : Rows.LawS3888ALongSaid := over
end Go.Proofs.Ybulkcbmo.lawS3888ALong
