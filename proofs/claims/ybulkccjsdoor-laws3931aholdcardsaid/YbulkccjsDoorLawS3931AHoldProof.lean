/-
  THE PROOF OF 'Rows.LawS3931AHoldSaid', AND OF ITS TIED CARD 'Rows.LawS3931AHoldCardSaid'.
-/
import Derived.Test.YbulkccjsDoorHFrame
import Derived.Test.YbulkccjsDoorHLaw
import Derived.Test.YbulkccjsDoorCards
import Derived.Test.YbulkccjsDoorTie
import Derived.SevenTiedAt
namespace Go.Proofs.YbulkccjsDoor.lawS3931AHold
open Go.ChangeShapes Go.WideShapes Go.ChangeAt Go.WideMaps Go.WideElems Go.RowKit
set_option linter.unusedVariables false

set_option maxRecDepth 100000 in
theorem lifted (os : Os) (started : os.Started) (H : Type) (enc : TypeId × Value → H) :
    ReturnsInHanded {} Ybad.checked os 3 .any (fun w args => (Rows.lawS3931AHoldSpec.pre enc Ybad.prog Ybad.f3 [] false w args ∧ laidMetH Ybad.prog Rows.lawS3931AHoldRow.laid w) ∧ sizedMet enc Ybad.prog Ybad.f3 (OpenSpec.ofChange Rows.lawS3931AHoldSpec) false w args)
      (Rows.lawS3931AHoldSpec.post enc Ybad.prog Ybad.f3 false true false false) := by
  refine returnsInHanded_of_change_and (C := Ybad.checked) (X := fun w _ => laidMetH Ybad.prog Rows.lawS3931AHoldRow.laid w) (fun _ _ _ hh h => h.of_heap hh) YbulkccjsDoor.H.own started (by kernel_rfl) Ybad.func3
    (ChangeSpec.witness_shaped (enc := enc) (C := Ybad.checked) (os := os) (X := fun w _ => laidMetH Ybad.prog Rows.lawS3931AHoldRow.laid w) false (World.doorLaid Ybad.prog 2000 os) #[.slice none 0 0, .int .u8 0] 8 rfl (World.shaped_of_RefB (by kernel_rfl) (by kernel_rfl)) (by kernel_rfl) (by kernel_rfl) (by kernel_rfl) (YbulkccjsDoor.H.door_met os _)) ?_
  intro W base args ds gs before hval0 hW _ _ hL _
  have hval : ∀ (j : Nat) t v, Ybad.f3.params[j]? = some t → args[j]? = some v → Value.okWide Ybad.prog W .any base t v := hval0
  have hW' := hW
  obtain ⟨p, q, hA0, hV0, rfl, hfz, hnd⟩ := hW
  have hA : DataW.TrodAll enc Ybad.prog W 0 (fun _ => true) true Ybad.f3.params.toList args.toList ds p := hA0
  have hV : DataW.TrodVars enc Ybad.prog W (fun _ => true) ["example.com/cellcrier/cellcrier/cbsp.discriminators"] gs q := hV0
  rw [Ybad.params3] at hA hval
  obtain ⟨v0, vs0, d0, ds0, p0, q0, hargs, rfl, rfl, h0, r0⟩ := trodAll_cons hA
  obtain ⟨v1, vs1, d1, ds1, p1, q1, rfl, rfl, rfl, h1, r1⟩ := trodAll_cons r0
  obtain ⟨rfl, rfl, rfl⟩ := trodAll_nil r1
  obtain rfl : args = #[v0, v1] := by cases args; simp_all
  obtain ⟨a0, len0, cap0, rfl⟩ := okWide_slice Ybad.underlying22 (hval 0 22 v0 rfl rfl)
  obtain ⟨t, rfl, rfl, rfl, wt⟩ := open_int Ybad.underlying5 (hval 1 5 v1 rfl rfl) h1
  have k0 := h0
  have lt0 : ∀ x ∈ p0, x.block < W.heap.size := by obtain ⟨m, hm⟩ := k0; exact DataW.trod_lt m _ _ _ hm
  obtain ⟨ad, ar, ho, hAr⟩ := YbulkccjsDoor.H.args_of h0
  obtain ⟨hT, hb1⟩ := YbulkccjsDoor.H.of_laid hL
  obtain ⟨g, rfl⟩ : ∃ g, gs = [g] := by
    obtain ⟨g, t, cs, fuel, d, p', rfl, _⟩ := trodVars_one hV
    exact ⟨d, rfl⟩
  clear hA0 hval0 hV0
  refine (YbulkccjsDoor.H.law_is a0 ad len0 cap0 t ar W ho hT hb1 hAr).mono fun e W' ⟨he, bel⟩ => ?_
  subst he
  exact ⟨_, rfl, _, _, _, [], _, _, hW', trodAll_mk1 (shut_bool Ybad.underlying4 _), (trodAll_cons_mk (Below.trod YbulkccjsDoor.H.laidOut (by kernel_rfl) (of_decide_eq_true (by kernel_rfl)) k0 bel lt0) (trodAll_cons_mk (shut_int Ybad.underlying5 wt) trodAll_mk0)), Below.trodVars YbulkccjsDoor.H.laidOut bel (by kernel_rfl) hV, bel.frame _, fun h => by cases h⟩

theorem over : Rows.LawS3931AHoldSaid :=
  OpenClaim.holds_of_wide 3 Ybad.f3 rfl rfl rfl rfl rfl rfl rfl ⟨rfl, rfl, rfl, rfl, rfl⟩ rfl rfl rfl rfl rfl (by kernel_rfl) Ybad.func3 (by kernel_rfl)
    (of_decide_eq_true (by kernel_rfl)) (by unfold Func.isWrapper; first | (rw [if_pos (by decide +kernel)]; kernel_rfl) | (rw [if_neg (by decide +kernel)]; exact ⟨rfl, rfl⟩))
    (fun os started H enc _ => lifted os started H enc)

/-- ████ THE TIED CARD ████ -/
theorem proved : Rows.LawS3931AHoldCardSaid :=
  Claim7.holds_tied_plain_at .later [] [.data] true (true, "60e4787caf82829cf907b4a04c06467428db0f68caa3104cf78f6ce551854df0") true
    over (fun _ h => by cases h) (by kernel_rfl) (fun _ h => by cases h) lawS3931AHold_row_tie rfl ⟨rfl, rfl⟩ (by kernel_rfl) rfl
    (fun f fn hf hfn => by
      obtain rfl : f = 3 := Option.some.inj ((show Ybad.prog.funcNamed "example.com/cellcrier/cellcrier/internal/messages.LawS3931AHold" = some 3 by kernel_rfl).symm.trans hf) |>.symm
      obtain rfl : fn = Ybad.f3 := (Option.some.inj (Ybad.func3.symm.trans hfn)).symm
      exact ⟨by kernel_rfl, fun j t ht => by
        rw [Ybad.params3] at ht
        rcases j with _ | _ | j
        · obtain rfl : t = 22 := by simpa using ht.symm
          exact (show Ybad.prog.wantsStandIn 22 = false by kernel_rfl)
        · obtain rfl : t = 5 := by simpa using ht.symm
          exact (show Ybad.prog.wantsStandIn 5 = false by kernel_rfl)
        · simp at ht⟩)
    (by kernel_rfl)
end Go.Proofs.YbulkccjsDoor.lawS3931AHold
