/-
  THE PROOF OF 'Rows.LawS3892BTwiceSaid': the frame is the kit's shell for this function, turned to 'Below'; the walk is ours.
-/
import Derived.Test.YbulkcbosRows
import Derived.Test.YbulkcbosBWalks
import Derived.WalkKit
import Derived.ProofKit
import Derived.OpenShut
import Derived.ShutString
import Derived.Below
import Derived.Lib.EndianBits
namespace Go.Proofs.Ybulkcbos.lawS3892BTwice
open Go.ChangeShapes Go.WideShapes Go.ChangeAt Go.RowKit
open Go.ChangeMaps (open_string shut_string)
set_option linter.unusedVariables false

theorem word_low (hi lo : Int) (h0 : 0 ≤ hi ∧ hi ≤ 4294967295) (h1 : 0 ≤ lo ∧ lo ≤ 4294967295) : bits .or .u64 (hi * 4294967296) lo % 4294967296 = lo := by
  rw [bits_join .u64 64 (by decide) wraps_u64 32 (hi * 4294967296) lo (by omega) (by omega) (by omega) (by omega) (by omega) (by omega)]
  omega

theorem slice_same (ts : Int) : (ts % 4294967296 * 4294967296 != IntKind.u64.wrap (IntKind.u64.wrap ts * 4294967296)) = false := by
  rw [bne_eq_false_iff_eq, IntKind.wrap_u64, IntKind.wrap_u64]
  omega

theorem again_zero (ts : Int) : ts % 4294967296 * 4294967296 % 4294967296 = 0 := by omega

set_option maxRecDepth 100000 in
set_option maxHeartbeats 1000000 in
theorem walk_zero (hi ts dr sl se : Int) (h0 : 0 ≤ hi ∧ hi ≤ 4294967295) (h5 : 0 ≤ se ∧ se ≤ 255) (w : World) :
    Calls Yba.prog 4 #[.int .u32 hi, .int .u32 0, .int .i64 ts, .int .u64 dr, .int .i64 sl, .int .u8 se] w fun e w' => e = .returned (.bool true) ∧ Below w.heap.size w w' := by
  have HLOW : Hid (bits .or .u64 (hi * 4294967296) 0 % 4294967296 = 0) := word_low hi 0 h0 (by omega)
  have hsame := slice_same ts
  go_enter Yba.func4, Yba.ntmps4
  go_wp2_with fail
  refine (BWalks.store_any _ (.int .u64 0) _ _ (by simp) (by simp)).mono ?_
  rintro e w1 ⟨rfl, rfl⟩
  generalize bits .or .u64 (hi * 4294967296) 0 = x at *
  go_wp2_with fail
  refine (BWalks.outcome_any _ _ h5).mono ?_
  rintro e w2 ⟨o, rfl, rfl⟩
  go_wp2_with fail
  refine (BWalks.take_zero _ _ ts sl x o _ _ HLOW.out ?_ ?_ ?_).mono ?_
  · go_simp
  · go_simp
  · go_simp
  rintro e w3 ⟨rfl, rfl⟩
  go_wp2_with fail
  refine (BWalks.take_zero _ _ ts sl (ts % 4294967296 * 4294967296) o _ _ (again_zero ts) ?_ ?_ ?_).mono ?_
  · go_simp
  · go_simp
  · go_simp
  rintro e w3 ⟨rfl, rfl⟩
  go_wp2_with fail
  refine (BWalks.load_any _ (ts % 4294967296 * 4294967296) _ ?_).mono ?_
  · go_simp
  rintro e w3 ⟨rfl, rfl⟩
  go_wp2
  go_ret
  exact ⟨rfl, (((Below.refl _ _).alloc (Nat.le_refl _) _).alloc (by simp) _).alloc (by simp; omega) _⟩

set_option maxRecDepth 100000 in
set_option maxHeartbeats 1000000 in
theorem walk_some (hi lo ts dr sl se : Int) (h0 : 0 ≤ hi ∧ hi ≤ 4294967295) (h1 : 0 ≤ lo ∧ lo ≤ 4294967295) (hl : 0 < lo) (h5 : 0 ≤ se ∧ se ≤ 255) (w : World) :
    Calls Yba.prog 4 #[.int .u32 hi, .int .u32 lo, .int .i64 ts, .int .u64 dr, .int .i64 sl, .int .u8 se] w fun e w' => e = .returned (.bool true) ∧ Below w.heap.size w w' := by
  have HLOW : Hid (bits .or .u64 (hi * 4294967296) lo % 4294967296 = lo) := word_low hi lo h0 h1
  have hsame := slice_same ts
  have hl0 : (lo == 0) = false := beq_eq_false_iff_ne.2 (by omega)
  go_enter Yba.func4, Yba.ntmps4
  go_wp2_with fail
  refine (BWalks.store_any _ (.int .u64 0) _ _ (by simp) (by simp)).mono ?_
  rintro e w1 ⟨rfl, rfl⟩
  generalize bits .or .u64 (hi * 4294967296) lo = x at *
  go_wp2_with fail
  refine (BWalks.outcome_any _ _ h5).mono ?_
  rintro e w2 ⟨o, rfl, rfl⟩
  go_wp2_with fail
  refine (BWalks.take_count w.heap.size (w.heap.size + 1) (w.heap.size + 1 + 1) ts sl x dr lo 0 o _ HLOW.out hl ?_ ?_ ?_ (by omega) (by omega) (by omega) ?_ ?_ ?_ ?_ (by omega)).mono ?_
  · go_simp
  · go_simp
  · go_simp
  · go_simp
  · go_simp
  · go_simp
  · go_simp
  rintro e w3 ⟨rfl, rfl⟩
  go_wp2_with fail
  refine (BWalks.take_zero _ _ ts sl (ts % 4294967296 * 4294967296) o _ _ (again_zero ts) ?_ ?_ ?_).mono ?_
  · go_simp
  · go_simp
  · go_simp
  rintro e w3 ⟨rfl, rfl⟩
  go_wp2_with fail
  refine (BWalks.load_any _ (ts % 4294967296 * 4294967296) _ ?_).mono ?_
  · go_simp
  rintro e w4 ⟨rfl, rfl⟩
  go_wp2
  go_ret
  exact ⟨rfl, (((Below.refl _ _).alloc (Nat.le_refl _) _).alloc (by simp) _).alloc (by simp; omega) _⟩
theorem own : ownKnob Yba.prog.godebug = none := by kernel_rfl

theorem walk (a0 : Int) (a1 : Int) (a2 : Int) (a3 : Int) (a4 : Int) (a5 : Int) (w0 : (Lit.int .u32 a0).wf = true) (w1 : (Lit.int .u32 a1).wf = true) (w2 : (Lit.int .i64 a2).wf = true) (w3 : (Lit.int .u64 a3).wf = true) (w4 : (Lit.int .i64 a4).wf = true) (w5 : (Lit.int .u8 a5).wf = true) (w : World) :
    Calls Yba.prog 4 #[.int .u32 a0, .int .u32 a1, .int .i64 a2, .int .u64 a3, .int .i64 a4, .int .u8 a5] w fun e w' => e = .returned (.bool true) ∧ Below w.heap.size w w' := by
  have h0 := bounds_u32 w0
  have h1 := bounds_u32 w1
  have h5 := bounds_u8 w5
  by_cases hl : a1 = 0
  · subst hl
    exact walk_zero a0 a2 a3 a4 a5 h0 h5 w
  · exact walk_some a0 a1 a2 a3 a4 a5 h0 h1 (by omega) h5 w

/-! ### THE ROW's STEP: WRITTEN OUT: LEAVE IT -/
set_option maxRecDepth 100000 in
theorem lifted (os : Os) (started : os.Started) (H : Type) (enc : TypeId × Value → H) :
    ReturnsInHanded {} Yba.checked os 4 .any (Rows.lawS3892BTwiceSpec.pre6 enc Yba.prog Yba.f4 Rows.lawS3892BTwiceRow.domain false) (Rows.lawS3892BTwiceSpec.post enc Yba.prog Yba.f4 false true false false) := by
  refine returnsInHanded_of_change (C := Yba.checked) own started (by kernel_rfl) Yba.func4
    (ChangeSpec.witness6 (enc := enc) (C := Yba.checked) false ⟨#[], #[.int .u32 0, .int .u32 0, .int .i64 0, .int .u64 0, .int .i64 0, .int .u8 0], []⟩ 8 (by kernel_rfl) (by kernel_rfl) (by kernel_rfl) (by kernel_rfl)) ?_
  intro W base args ds gs before hval0 hW hcnd _
  have hval : ∀ (j : Nat) t v, Yba.f4.params[j]? = some t → args[j]? = some v → Value.okWide Yba.prog W .any base t v := hval0
  have hW' := hW
  obtain ⟨p, q, hA0, hV, rfl, hfz, hnd⟩ := hW
  have hA : DataW.TrodAll enc Yba.prog W 0 (fun _ => true) true Yba.f4.params.toList args.toList ds p := hA0
  rw [Yba.params4] at hA hval
  obtain ⟨v0, vs0, d0, ds0, p0, q0, hargs, rfl, rfl, h0, r0⟩ := trodAll_cons hA
  obtain ⟨v1, vs1, d1, ds1, p1, q1, rfl, rfl, rfl, h1, r1⟩ := trodAll_cons r0
  obtain ⟨v2, vs2, d2, ds2, p2, q2, rfl, rfl, rfl, h2, r2⟩ := trodAll_cons r1
  obtain ⟨v3, vs3, d3, ds3, p3, q3, rfl, rfl, rfl, h3, r3⟩ := trodAll_cons r2
  obtain ⟨v4, vs4, d4, ds4, p4, q4, rfl, rfl, rfl, h4, r4⟩ := trodAll_cons r3
  obtain ⟨v5, vs5, d5, ds5, p5, q5, rfl, rfl, rfl, h5, r5⟩ := trodAll_cons r4
  obtain ⟨rfl, rfl, rfl⟩ := trodAll_nil r5
  obtain rfl : args = #[v0, v1, v2, v3, v4, v5] := by cases args; simp_all
  obtain ⟨rfl, rfl⟩ := trodVars_none hV
  obtain ⟨a0, rfl, rfl, rfl, w0⟩ := open_int Yba.underlying22 (hval 0 22 v0 rfl rfl) h0
  obtain ⟨a1, rfl, rfl, rfl, w1⟩ := open_int Yba.underlying22 (hval 1 22 v1 rfl rfl) h1
  obtain ⟨a2, rfl, rfl, rfl, w2⟩ := open_int Yba.underlying2 (hval 2 2 v2 rfl rfl) h2
  obtain ⟨a3, rfl, rfl, rfl, w3⟩ := open_int Yba.underlying23 (hval 3 23 v3 rfl rfl) h3
  obtain ⟨a4, rfl, rfl, rfl, w4⟩ := open_int Yba.underlying2 (hval 4 2 v4 rfl rfl) h4
  obtain ⟨a5, rfl, rfl, rfl, w5⟩ := open_int Yba.underlying5 (hval 5 5 v5 rfl rfl) h5
  clear hA0 hval0
  simp only [List.append_nil] at hW'
  refine (walk a0 a1 a2 a3 a4 a5 w0 w1 w2 w3 w4 w5 W).mono fun e W' ⟨he, hg⟩ => ?_
  subst he
  exact ⟨_, rfl, _, _, _, [], _, [], hW', trodAll_mk1 (shut_bool Yba.underlying4 _), (trodAll_cons_mk (shut_int Yba.underlying22 w0) (trodAll_cons_mk (shut_int Yba.underlying22 w1) (trodAll_cons_mk (shut_int Yba.underlying2 w2) (trodAll_cons_mk (shut_int Yba.underlying23 w3) (trodAll_cons_mk (shut_int Yba.underlying2 w4) (trodAll_cons_mk (shut_int Yba.underlying5 w5) trodAll_mk0)))))), rfl, hg.frame _, fun h => by cases h⟩

theorem over : Rows.lawS3892BTwiceRow.holds Yba.pinned (OpenSpec.ofChange Rows.lawS3892BTwiceSpec) :=
  OpenClaim.holds_of_wide 4 Yba.f4 rfl rfl rfl rfl rfl rfl rfl ⟨rfl, rfl, rfl, rfl, rfl⟩ rfl rfl rfl rfl rfl (by kernel_rfl) Yba.func4 (by kernel_rfl)
    (of_decide_eq_true (by kernel_rfl)) (by unfold Func.isWrapper; first | (rw [if_pos (by decide +kernel)]; kernel_rfl) | (rw [if_neg (by decide +kernel)]; exact ⟨rfl, rfl⟩))
    (fun os started H enc _ => lifted os started H enc)

/-- ████ THE STATEMENT ████ -/
theorem proved : Rows.LawS3892BTwiceSaid :=
  over
end Go.Proofs.Ybulkcbos.lawS3892BTwice
