/-
  THE PROOF OF 'Rows.LawS3888AExactSaid': the frame is the kit's shell for this function; the walk is ours.
-/
import Derived.Test.YbulkcbmoRows
import Derived.Test.YbulkcbmoAWalks
import Derived.WalkKit
import Derived.WalkSpells
import Derived.ProofKit
import Derived.OpenShut
import Derived.ShutString
import Derived.ChangeOld
import Derived.Below
import Derived.RegionTactic
import Derived.Laws.CopyOwn
import Derived.Deep.QuietTactic
import Derived.BigQuiet
namespace Go.Proofs.Ybulkcbmo.lawS3888AExact
open Go.ChangeShapes Go.WideShapes Go.ChangeAt Go.RowKit
open Go.ChangeMaps (open_string shut_string)
set_option linter.unusedVariables false

theorem info5 : (Yba.prog.info? 5).map (fun i => (i.zero, i.size, i.bytes)) = some (some (.int .u8 0), 1, 1) := by kernel_rfl
theorem size5 : (Yba.prog.info? 5).map (·.size) = some 1 := by kernel_rfl

/-- 'copy' over a whole row that the call itself made, from as many cells. -/
theorem copy_all {w1 : World} {base g n : Nat} (cap : Nat) {zs : List Value} (hown : w1.ownsRow base 5 1 (.slice (some ⟨g, 0, none⟩) n n) n zs) (a : Addr) (cs : List Value) (hl : cs.length = n)
    (hsrc : ∀ j v, cs[j]? = some v → w1.cell? (a.add j) = some v) (h1 : ∀ v ∈ cs, v.oneCell' = true) :
    ∃ w2, (Builtin.copy_ #[22, 22] 3 #[.slice (some ⟨g, 0, none⟩) n n, .slice (some a) n cap]).run Yba.prog w1 = .ok (.int .i64 n) w2 ∧
      w2.ownsRow base 5 1 (.slice (some ⟨g, 0, none⟩) n n) n cs ∧ Below g w1 w2 := by
  obtain ⟨hzl, h | ⟨g', cap', cur, he, hbg, hheap, hc1, hc2, hcs, htake⟩⟩ := hown
  · simp at h
  · simp at he
    obtain ⟨rfl, rfl⟩ := he
    have hr := run_copy_row (P := Yba.prog) w1 22 22 3 5 g 0 n n a n cap cur 5 cs Yba.underlying22 size5 hheap (by simp [hl]) hsrc (by omega) h1
    have e : (cur.toList.take 0 ++ cs ++ cur.toList.drop (0 + cs.length)).toArray = cs.toArray := by
      have : cur.toList.drop cs.length = [] := by apply List.drop_eq_nil_of_le; simp; omega
      simp [this]
    rw [e] at hr
    refine ⟨_, by rw [hr, hl]; rfl, ⟨by omega, .inr ⟨g, n, cs.toArray, rfl, hbg, setRow_heap w1 g cur cs.toArray 5 _ hheap, hc1, hc2, by simp; omega, ?_⟩⟩, below_setRow (Below.refl _ _) (Nat.le_refl _) _⟩
    simp [← hl]

set_option maxRecDepth 100000 in
/-- The law at an empty slice. -/
theorem walk_none (a : Option Addr) (cap : Nat) (w : World) :
    Calls Yba.prog 3 #[.slice a 0 cap] w fun e w' => e = .returned (.bool true) ∧ Below w.heap.size w w' := by
  obtain ⟨i0, hi, hz0, hz1, hz2⟩ := info_parts info5
  go_enter Yba.func3, Yba.ntmps3
  go_wp2_with (at_make; refine wpList_make_full _ rfl _ _ 22 rfl w.heap.size 5 i0 (.int .u8 0) 1 Yba.underlying22 hi hz0 hz1 .i64 .i64 _ _ 0 rfl rfl rfl rfl (by simp) (by unfold maxLen; omega) (Nat.le_refl _) ?_)
  intro w1 hown hgrow
  have hbel : Below w.heap.size w w1 := (Below.refl _ _).grown hgrow (Nat.le_refl _) (by simp)
  clear hown hgrow
  have hcp := run_copy_none (P := Yba.prog) w1 22 22 3 5 (some ⟨w.heap.size, 0, none⟩) a 0 0 0 cap Yba.underlying22 size5 rfl
  go_wp2_with (go_at_call 6; refine (AWalks.vl_none _ _ _).mono ?_; rintro e w' ⟨rfl, rfl⟩)
  go_loop [8] (fun i => i = .int .i64 0) (fun _ => 0)
  case atStart => rfl
  case round =>
    subst hrel
    go_wp2
    go_ret
    exact ⟨rfl, hbel⟩

/-- What the last loop reads: the copy's cells, the argument's cells; nothing old has turned. -/
def Pre (w wr : World) (b off len : Nat) (zs : List Int) : Prop :=
  (∀ i, i < len → wr.cell? ⟨w.heap.size, i, none⟩ = some (.int .u8 (zs.getD i 0))) ∧ (∀ i, i < len → wr.cell? ⟨b, off + i, none⟩ = some (.int .u8 (zs.getD i 0))) ∧ Below w.heap.size w wr
theorem Pre.drew {w wr : World} {b off len : Nat} {zs : List Int} (h : Pre w wr b off len zs) : Pre w wr.drew b off len zs := ⟨h.1, h.2.1, h.2.2.drew⟩

set_option maxRecDepth 100000 in
set_option maxHeartbeats 1000000 in
theorem walk_some (b off len cap : Nat) (zs : List Int) (w : World) (hl1 : 1 ≤ len) (hl2 : len ≤ 4096) (hlc : len ≤ cap) (hz : zs.length = cap)
    (hcell : ∀ i, i < zs.length → w.cell? ⟨b, off + i, none⟩ = some (.int .u8 (zs.getD i 0))) (hwf : ∀ n ∈ zs, (Lit.int .u8 n).wf = true) :
    Calls Yba.prog 3 #[.slice (some ⟨b, off, none⟩) len cap] w fun e w' => e = .returned (.bool true) ∧ Below w.heap.size w w' := by
  obtain ⟨i0, hi, hz0, hz1, hz2⟩ := info_parts info5
  have hbb : b < w.heap.size := AWalks.lt_of_cell (hcell 0 (by omega))
  have hrng : ∀ i, i < cap → 0 ≤ zs.getD i 0 ∧ zs.getD i 0 ≤ 255 := fun i hi => bounds_u8 (hwf _ (by
    rw [List.getD_eq_getElem?_getD, List.getElem?_eq_getElem (by omega)]
    exact List.getElem_mem _))
  go_enter Yba.func3, Yba.ntmps3
  go_wp2_with (at_make; refine wpList_make_full _ rfl _ _ 22 rfl w.heap.size 5 i0 (.int .u8 0) 1 Yba.underlying22 hi hz0 hz1 .i64 .i64 _ _ len rfl rfl rfl rfl (by rw [hz2]; omega) (by unfold maxLen; omega) (Nat.le_refl _) ?_)
  intro w1 hown hgrow
  have hbel : Below w.heap.size w w1 := (Below.refl _ _).grown hgrow (Nat.le_refl _) (by simp)
  have hlt1 : w.heap.size < w1.heap.size := by
    have := AWalks.lt_of_cell (a := ⟨w.heap.size, 0, none⟩) ((hown.cellAt 0 (by omega)).trans (by simp [toList_madeCells_one, List.getElem?_replicate]; exact ⟨by omega, rfl⟩))
    exact this
  obtain ⟨w2, hcp, hown2, hbel2⟩ := copy_all cap hown ⟨b, off, none⟩ ((zs.take len).map (Value.int .u8)) (by simp; omega) (by
    intro j v hj
    have hj' : j < len := by
      rcases Nat.lt_or_ge j len with h | h
      · exact h
      · rw [List.getElem?_eq_none (by simp; omega)] at hj; cases hj
    rw [Go.WideShapes.add_plain, hbel.cell hbb, hcell j (by omega)]
    simp [hj', List.getElem?_eq_getElem (show j < zs.length by omega)] at hj
    subst hj
    simp [List.getElem?_eq_getElem (show j < zs.length by omega)]) (ints_oneCell _ _)
  have hB2 : Below w.heap.size w w2 := hbel.trans hbel2
  have hlt2 : w.heap.size < w2.heap.size := Nat.lt_of_lt_of_le hlt1 hbel2.size
  have hG : ∀ i, i < len → w2.cell? ⟨w.heap.size, i, none⟩ = some (.int .u8 (zs.getD i 0)) := by
    intro i hi
    rw [hown2.cellAt i (by omega)]
    simp [hi, List.getElem?_eq_getElem (show i < zs.length by omega)]
  have HG : Hid (∀ i, i < len → w2.cell? ⟨w.heap.size, i, none⟩ = some (.int .u8 (zs.getD i 0))) := hG
  clear hG hown hown2 hgrow hbel hbel2 hlt1
  obtain ⟨x0, hx0⟩ : ∃ x0, x0 = zs.getD 0 0 := ⟨_, rfl⟩
  have HX0 : Hid (x0 = zs.getD 0 0) := hx0
  have r0 : 0 ≤ x0 ∧ x0 ≤ 255 := by rw [hx0]; exact hrng 0 (by omega)
  have g0 : w2.cell? ⟨w.heap.size, 0, none⟩ = some (.int .u8 x0) := by rw [hx0]; exact HG.out 0 (by omega)
  have b0 : w.cell? ⟨b, off, none⟩ = some (.int .u8 x0) := by rw [hx0]; exact hcell 0 (by omega)
  have HC : Hid (∀ i, i < len → w.cell? ⟨b, off + i, none⟩ = some (.int .u8 (zs.getD i 0))) := fun i hi => hcell i (by omega)
  have HR : Hid (∀ i, i < cap → 0 ≤ zs.getD i 0 ∧ zs.getD i 0 ≤ 255) := hrng
  have HPRE : Pre w w2 b off len zs := ⟨HG.out, fun i hi => by rw [hB2.cell hbb]; exact HC.out i hi, hB2⟩
  clear hx0 hcell hrng hwf hz hi hz0 hz1 hz2
  by_cases hx : x0 < 255
  · have hne : (x0 != 255) = true := by simp; omega
    have b0' : w2.cell? ⟨b, off, none⟩ = some (.int .u8 x0) := by rw [hB2.cell hbb]; exact b0
    go_wp2_with (go_at_call 6; refine (AWalks.vl_short _ _ _ x0 _ hl1 (by omega) ⟨r0.1, hx⟩ g0).mono ?_; rintro e w' ⟨rfl, rfl⟩)
    go_loopw [8] (fun i wr => ∃ k : Nat, k ≤ len ∧ i = .int .i64 k ∧ Pre w wr b off len zs) (fun i _ => len - (intOf i).toNat)
    case atStart => exact ⟨0, Nat.zero_le _, rfl, HPRE⟩
    case round =>
      obtain ⟨k, hk, rfl, hpre⟩ := hrel
      by_cases hlt : k < len
      · have q1 := hpre.1 k hlt
        have q2 := hpre.2.1 k hlt
        generalize zs.getD k 0 = x at q1 q2
        go_wp2
        go_region
        all_goals go_wp2
        all_goals go_roundw
        case rel => exact ⟨k + 1, by omega, by go_num, hpre.drew⟩
        case measure => simp [intOf]; omega
      · go_wp2
        go_ret
        exact ⟨rfl, hpre.2.2⟩
  · obtain rfl : x0 = 255 := by omega
    by_cases h3 : len < 3
    · have b0' : w2.cell? ⟨b, off, none⟩ = some (.int .u8 255) := by rw [hB2.cell hbb]; exact b0
      go_wp2_with (go_at_call 6; refine (AWalks.vl_cut _ _ _ _ hl1 h3 g0).mono ?_; rintro e w' ⟨rfl, rfl⟩)
      go_loopw [8] (fun i wr => ∃ k : Nat, k ≤ len ∧ i = .int .i64 k ∧ Pre w wr b off len zs) (fun i _ => len - (intOf i).toNat)
      case atStart => exact ⟨0, Nat.zero_le _, rfl, HPRE⟩
      case round =>
        obtain ⟨k, hk, rfl, hpre⟩ := hrel
        by_cases hlt : k < len
        · have q1 := hpre.1 k hlt
          have q2 := hpre.2.1 k hlt
          generalize zs.getD k 0 = x at q1 q2
          go_wp2
          go_region
          all_goals go_wp2
          all_goals go_roundw
          case rel => exact ⟨k + 1, by omega, by go_num, hpre.drew⟩
          case measure => simp [intOf]; omega
        · go_wp2
          go_ret
          exact ⟨rfl, hpre.2.2⟩
    · obtain ⟨x1, hx1⟩ : ∃ x1, x1 = zs.getD 1 0 := ⟨_, rfl⟩
      obtain ⟨x2, hx2⟩ : ∃ x2, x2 = zs.getD 2 0 := ⟨_, rfl⟩
      have r1 : 0 ≤ x1 ∧ x1 ≤ 255 := by rw [hx1]; exact HR.out 1 (by omega)
      have r2 : 0 ≤ x2 ∧ x2 ≤ 255 := by rw [hx2]; exact HR.out 2 (by omega)
      have g1 : w2.cell? ⟨w.heap.size, 1, none⟩ = some (.int .u8 x1) := by rw [hx1]; exact HG.out 1 (by omega)
      have g2 : w2.cell? ⟨w.heap.size, 2, none⟩ = some (.int .u8 x2) := by rw [hx2]; exact HG.out 2 (by omega)
      have b1 : w.cell? ⟨b, off + 1, none⟩ = some (.int .u8 x1) := by rw [hx1]; exact HC.out 1 (by omega)
      have b2 : w.cell? ⟨b, off + 2, none⟩ = some (.int .u8 x2) := by rw [hx2]; exact HC.out 2 (by omega)
      clear hx1 hx2
      go_wp2_with fail
      refine (AWalks.vl_long _ _ _ x1 x2 _ (by omega) (by omega) (Nat.le_refl _) r1 r2 g0 g1 g2).mono ?_
      rintro e w3 ⟨rfl, hb3⟩
      have b0' : w3.cell? ⟨b, off, none⟩ = some (.int .u8 255) := by rw [hb3.cell (Nat.lt_trans hbb hlt2), hB2.cell hbb]; exact b0
      have b1' : w3.cell? ⟨b, off + 1, none⟩ = some (.int .u8 x1) := by rw [hb3.cell (Nat.lt_trans hbb hlt2), hB2.cell hbb]; exact b1
      have b2' : w3.cell? ⟨b, off + 2, none⟩ = some (.int .u8 x2) := by rw [hb3.cell (Nat.lt_trans hbb hlt2), hB2.cell hbb]; exact b2
      have HPRE3 : Pre w w3 b off len zs := ⟨fun i hi => by rw [hb3.cell hlt2]; exact HPRE.1 i hi, fun i hi => by rw [hb3.cell (Nat.lt_trans hbb hlt2)]; exact HPRE.2.1 i hi, HPRE.2.2.trans (hb3.mono (Nat.le_of_lt hlt2))⟩
      go_wp2
      go_region
      all_goals go_wp2
      go_loopw [8] (fun i wr => ∃ k : Nat, k ≤ len ∧ i = .int .i64 k ∧ Pre w wr b off len zs) (fun i _ => len - (intOf i).toNat)
      case atStart => exact ⟨0, Nat.zero_le _, rfl, HPRE3.drew⟩
      case round =>
        obtain ⟨k, hk, rfl, hpre⟩ := hrel
        by_cases hlt : k < len
        · have q1 := hpre.1 k hlt
          have q2 := hpre.2.1 k hlt
          generalize zs.getD k 0 = x at q1 q2
          go_wp2
          go_region
          all_goals go_wp2
          all_goals go_roundw
          case rel => exact ⟨k + 1, by omega, by go_num, hpre.drew⟩
          case measure => simp [intOf]; omega
        · go_wp2
          go_ret
          exact ⟨rfl, hpre.2.2⟩

theorem own : ownKnob Yba.prog.godebug = none := by kernel_rfl
theorem laidOut : laidOutB Yba.prog = true := by kernel_rfl

/-- WHAT THE WALK IS TOLD OF A SLICE OF INTEGERS THAT CAME IN: it is nil; or it leads to a row of 'cap' cells, the numbers 'zs' (the first 'len' are its elements, the rest its spare room), each fitting its kind. -/
def IsRow (k : IntKind) (w : World) (a : Option Addr) (len cap : Nat) (zs : List Int) : Prop :=
  (a = none ∧ len = 0 ∧ cap = 0 ∧ zs = []) ∨
  ∃ x, a = some x ∧ len ≤ cap ∧ cap ≤ maxLen ∧ zs.length = cap ∧ (∀ i, i < zs.length → w.cell? (x.add i) = some (.int k (zs.getD i 0))) ∧ ∀ n ∈ zs, (Lit.int k n).wf = true

/-! ### STEP 1: THE WALK: the Go text returns true, AND WRITES NOTHING THAT WAS THERE: 'Below w.heap.size w w'' (Derived/Below.lean: '.refl', '.alloc', '.drew', '.setCell' at a new block, '.trans'). Open each 'IsRow' by 'rcases' AHEAD of 'go_enter'; part every test ahead of the walk. -/
theorem walk (a0 : Option Addr) (len0 cap0 : Nat) (z0 : List Int) (w : World) (w0 : IsRow .u8 w a0 len0 cap0 z0) :
    Calls Yba.prog 3 #[.slice a0 len0 cap0] w fun e w' => e = .returned (.bool true) ∧ Below w.heap.size w w' := by
  by_cases hlen : len0 = 0
  · subst hlen
    exact walk_none a0 cap0 w
  · by_cases hbig : 4096 < len0
    · have hm : len0 ≤ maxLen := by
        rcases w0 with ⟨_, h, _⟩ | ⟨x, _, h1, h2, _⟩
        · omega
        · omega
      unfold maxLen at hm
      clear w0
      go_enter Yba.func3, Yba.ntmps3
      go_wp2
      go_ret
      exact ⟨rfl, Below.refl _ _⟩
    · rcases w0 with ⟨_, h, _⟩ | ⟨x, rfl, h1, h2, h3, h4, h5⟩
      · omega
      · obtain ⟨b, off, rfl, hc⟩ := ints_at h4 (by omega)
        exact walk_some b off len0 cap0 z0 w (by omega) (by omega) h1 h3 hc h5

/-! ### THE ROW's STEP: WRITTEN OUT: LEAVE IT -/
set_option maxRecDepth 100000 in
theorem lifted (os : Os) (started : os.Started) (H : Type) (enc : TypeId × Value → H) :
    ReturnsInHanded {} Yba.checked os 3 .any (Rows.lawS3888AExactSpec.pre6 enc Yba.prog Yba.f3 Rows.lawS3888AExactRow.domain false) (Rows.lawS3888AExactSpec.post enc Yba.prog Yba.f3 false true false false) := by
  refine returnsInHanded_of_change (C := Yba.checked) own started (by kernel_rfl) Yba.func3
    (ChangeSpec.witness6 (enc := enc) (C := Yba.checked) false ⟨#[], #[.slice none 0 0], []⟩ 8 (by kernel_rfl) (by kernel_rfl) (by kernel_rfl) (by kernel_rfl)) ?_
  intro W base args ds gs before hval0 hW hcnd _
  have hval : ∀ (j : Nat) t v, Yba.f3.params[j]? = some t → args[j]? = some v → Value.okWide Yba.prog W .any base t v := hval0
  have hW' := hW
  obtain ⟨p, q, hA0, hV, rfl, hfz, hnd⟩ := hW
  have hA : DataW.TrodAll enc Yba.prog W 0 (fun _ => true) true Yba.f3.params.toList args.toList ds p := hA0
  rw [Yba.params3] at hA hval
  obtain ⟨v0, vs0, d0, ds0, p0, q0, hargs, rfl, rfl, h0, r0⟩ := trodAll_cons hA
  obtain ⟨rfl, rfl, rfl⟩ := trodAll_nil r0
  obtain rfl : args = #[v0] := by cases args; simp_all
  obtain ⟨rfl, rfl⟩ := trodVars_none hV
  obtain ⟨a0, len0, cap0, rfl⟩ := okWide_slice Yba.underlying22 (hval 0 22 v0 rfl rfl)
  have k0 := h0
  have lt0 : ∀ x ∈ p0, x.block < W.heap.size := by obtain ⟨m, hm⟩ := k0; exact DataW.trod_lt m _ _ _ hm
  obtain ⟨z0, w0⟩ : ∃ zs, IsRow .u8 W a0 len0 cap0 zs := by
    obtain ⟨fuel, hf⟩ := h0
    rcases open_ints Yba.underlying22 Yba.underlying5 (by kernel_rfl) hf with ⟨hcs, _⟩ | ⟨x, l, c, zs, hcs, _, hl, hm, hz, _, hcell, hwz⟩
    · simp [Value.cells] at hcs
      obtain ⟨rfl, rfl, rfl⟩ := hcs
      exact ⟨[], .inl ⟨rfl, rfl, rfl, rfl⟩⟩
    · simp [Value.cells] at hcs
      obtain ⟨rfl, rfl, rfl⟩ := hcs
      exact ⟨zs, .inr ⟨_, rfl, hl, hm, by simpa using hz, hcell, hwz⟩⟩
  clear hA0 hval0
  refine (walk a0 len0 cap0 z0 W w0).mono fun e W' ⟨he, bel⟩ => ?_
  subst he
  exact ⟨_, rfl, _, _, _, [], _, [], hW', trodAll_mk1 (shut_bool Yba.underlying4 _), (trodAll_cons_mk (Below.trod laidOut (by kernel_rfl) (of_decide_eq_true (by kernel_rfl)) k0 bel lt0) trodAll_mk0), rfl, bel.frame _, fun h => by cases h⟩

theorem over : Rows.lawS3888AExactRow.holds Yba.pinned (OpenSpec.ofChange Rows.lawS3888AExactSpec) :=
  OpenClaim.holds_of_wide 3 Yba.f3 rfl rfl rfl rfl rfl rfl rfl ⟨rfl, rfl, rfl, rfl, rfl⟩ rfl rfl rfl rfl rfl (by kernel_rfl) Yba.func3 (by kernel_rfl)
    (of_decide_eq_true (by kernel_rfl)) (by unfold Func.isWrapper; first | (rw [if_pos (by decide +kernel)]; kernel_rfl) | (rw [if_neg (by decide +kernel)]; exact ⟨rfl, rfl⟩))
    (fun os started H enc _ => lifted os started H enc)

/-- ████ THE STATEMENT ████ -/
theorem proved : Rows.LawS3888AExactSaid := over
end Go.Proofs.Ybulkcbmo.lawS3888AExact
