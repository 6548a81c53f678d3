/-
  THE PROOF OF 'Rows.LawS3886CBoundarySaid': the frame is the kit's shell for this function, turned to 'Below'; the walk is ours.
-/
import Derived.Test.YbulkcblmRows
import Derived.Test.YbulkcblmKeyWalks
import Derived.WalkKit
import Derived.ProofKit
import Derived.OpenShut
import Derived.ShutString
import Derived.ChangeOld
import Derived.Below
import Derived.Laws.BytesArg
namespace Go.Proofs.Ybulkcblm.lawS3886CBoundary
open Go.ChangeShapes Go.WideShapes Go.ChangeAt Go.RowKit
open Go.ChangeMaps (open_string shut_string)
set_option linter.unusedVariables false

theorem own : ownKnob Yba.prog.godebug = none := by kernel_rfl
theorem info5 : (Yba.prog.info? 5).map (fun i => (i.zero, i.size, i.bytes)) = some (some (.int .u8 0), 1, 1) := by kernel_rfl

set_option maxHeartbeats 400000 in
theorem walk (a0 : Int) (a1 : ByteArray) (w0 : (Lit.int .u8 a0).wf = true) (w1 : a1.size ≤ maxLen) (w : World) :
    Calls Yba.prog 4 #[.int .u8 a0, .string a1] w fun e w' => e = .returned (.bool true) ∧ Below w.heap.size w w' := by
  obtain ⟨i0, hi, hz0, hz1, hz2⟩ := info_parts info5
  have hb := bounds_u8 w0
  unfold maxLen at w1
  obtain ⟨n, hn⟩ : ∃ n : Nat, 245 + a0 % 12 = (n : Int) := ⟨(245 + a0 % 12).toNat, by omega⟩
  have hn1 : 245 ≤ n := by omega
  have hn2 : n ≤ 256 := by omega
  go_enter Yba.func4, Yba.ntmps4
  go_wp2_with (at_make; refine wpList_make_full _ rfl _ _ 27 rfl w.heap.size 5 i0 (.int .u8 0) 1 Yba.underlying27 hi hz0 hz1 .i64 .i64 _ _ n rfl rfl ?c1 ?c2 ?c3 ?c4 ?c5 ?_)
  case c1 => omega
  case c2 => omega
  case c3 => rw [hz2]; omega
  case c4 => unfold maxLen; omega
  case c5 => exact Nat.le_refl _
  intro w1 hown hgrow
  have hown' : w1.ownsRow w.heap.size 5 1 (.slice (some ⟨w.heap.size, 0, none⟩) n n) n ((List.replicate n (0:Int)).map (Value.int .u8)) := by
    simpa [Value.cells, toList_madeCells_one] using hown
  have hbel : Below w.heap.size w w1 := (Below.refl _ _).grown hgrow (Nat.le_refl _) (by simp)
  clear hown hgrow hi hz0 hz1 hz2
  go_wp2
  go_loopw [7] (fun i wr => ∃ (k : Nat) (xs : List Int), k ≤ n ∧ i = .int .i64 k ∧ xs.length = n ∧ wr.ownsRow w.heap.size 5 1 (.slice (some ⟨w.heap.size, 0, none⟩) n n) n (xs.map (Value.int .u8)) ∧ Below w.heap.size w wr)
    (fun i _ => n - (intOf i).toNat)
  case atStart => exact ⟨0, _, Nat.zero_le _, rfl, List.length_replicate, hown', hbel⟩
  case round =>
    obtain ⟨k, xs, hk, rfl, hxs, hown, hbr⟩ := hrel
    clear hown' hbel
    by_cases hlt : k < n
    · have hc := hown.cellAt k (by omega)
      have hx : (xs.map (Value.int .u8))[k]? = some (.int .u8 (xs[k]'(by omega))) := by simp [List.getElem?_eq_getElem (show k < xs.length by omega)]
      rw [hx] at hc
      have hf := hown.frozenAt k
      have hst : ∀ u : Int, (wr.setCell ⟨w.heap.size, k, none⟩ (.int .u8 u)).ownsRow w.heap.size 5 1 (.slice (some ⟨w.heap.size, 0, none⟩) n n) n ((xs.set k u).map (Value.int .u8)) := by
        intro u
        have := hown.stored k (.int .u8 u)
        simpa using this.1
      have HST := hst
      clear hst hx hown
      by_cases hz : a1.size = 0
      · have hz' : ¬ (0 : Int) < (a1.size : Int) := by omega
        clear hz
        go_wp2
        go_roundw
        case rel => exact ⟨k + 1, _, by omega, by go_num, by simp [hxs], HST _, hbr.setCell (Nat.le_refl _) _⟩
        case measure => simp [intOf]; omega
      · have hm0 : 0 ≤ (k : Int) % (a1.size : Int) := Int.emod_nonneg _ (by omega)
        have hm1 : (k : Int) % (a1.size : Int) < (a1.size : Int) := Int.emod_lt_of_pos _ (by omega)
        go_wp2
        go_roundw
        case rel => exact ⟨k + 1, _, by omega, by go_num, by simp [hxs], HST _, hbr.setCell (Nat.le_refl _) _⟩
        case measure => simp [intOf]; omega
    · have hcv := run_convert_bytes_arg (P := Yba.prog) wr 27 5 Yba.underlying27 Yba.underlying5 w.heap.size 0 n n xs hxs (by
        intro i hi
        have hc := hown.cellAt i (by omega)
        have hx : (xs.map (Value.int .u8))[i]? = some (.int .u8 (xs.getD i 0)) := by simp [List.getElem?_eq_getElem (show i < xs.length by omega)]
        rw [hx] at hc
        rw [Nat.zero_add]
        exact hc) 9 Yba.underlying9
      have hsz : (strOfNums xs).size = n := by rw [strOfNums_size, hxs]
      have HSZ : Hid ((strOfNums xs).size = n) := hsz
      have HBR : Hid (Below w.heap.size w wr) := hbr
      clear hsz hown hbr hxs
      generalize strOfNums xs = str at *
      by_cases hgood : n ≤ 250
      · go_wp2_with fail
        refine (KeyWalks.key_good _ _ (by rw [HSZ.out]; omega) (by rw [HSZ.out]; omega)).mono ?_
        rintro e w' ⟨rfl, rfl⟩
        go_wp2_with fail
        refine (KeyWalks.check_good _ _ (by rw [HSZ.out]; omega) (by rw [HSZ.out]; omega)).mono ?_
        rintro e w' ⟨rfl, rfl⟩
        go_wp2
        go_ret
        exact ⟨rfl, HBR.out⟩
      · go_wp2_with fail
        refine (KeyWalks.key_long _ _ (by rw [HSZ.out]; omega) (by rw [HSZ.out]; unfold maxLen; omega)).mono ?_
        rintro e w' ⟨rfl, rfl⟩
        go_wp2_with fail
        refine (KeyWalks.check_long _ _ _ (by rw [HSZ.out]; omega) (by rw [HSZ.out]; unfold maxLen; omega) (by simp) (by simp)).mono ?_
        rintro e w' ⟨rfl, rfl⟩
        go_wp2
        go_ret
        exact ⟨rfl, HBR.out.alloc HBR.out.size _⟩
/-! ### THE ROW's STEP: WRITTEN OUT: LEAVE IT -/
set_option maxRecDepth 100000 in
theorem lifted (os : Os) (started : os.Started) (H : Type) (enc : TypeId × Value → H) :
    ReturnsInHanded {} Yba.checked os 4 .any (Rows.lawS3886CBoundarySpec.pre6 enc Yba.prog Yba.f4 Rows.lawS3886CBoundaryRow.domain false) (Rows.lawS3886CBoundarySpec.post enc Yba.prog Yba.f4 false true false false) := by
  refine returnsInHanded_of_change (C := Yba.checked) own started (by kernel_rfl) Yba.func4
    (ChangeSpec.witness6 (enc := enc) (C := Yba.checked) false ⟨#[], #[.int .u8 0, .string ByteArray.empty], []⟩ 8 (by kernel_rfl) (by kernel_rfl) (by kernel_rfl) (by kernel_rfl)) ?_
  intro W base args ds gs before hval0 hW hcnd _
  have hval : ∀ (j : Nat) t v, Yba.f4.params[j]? = some t → args[j]? = some v → Value.okWide Yba.prog W .any base t v := hval0
  have hW' := hW
  obtain ⟨p, q, hA0, hV, rfl, hfz, hnd⟩ := hW
  have hA : DataW.TrodAll enc Yba.prog W 0 (fun _ => true) true Yba.f4.params.toList args.toList ds p := hA0
  rw [Yba.params4] at hA hval
  obtain ⟨v0, vs0, d0, ds0, p0, q0, hargs, rfl, rfl, h0, r0⟩ := trodAll_cons hA
  obtain ⟨v1, vs1, d1, ds1, p1, q1, rfl, rfl, rfl, h1, r1⟩ := trodAll_cons r0
  obtain ⟨rfl, rfl, rfl⟩ := trodAll_nil r1
  obtain rfl : args = #[v0, v1] := by cases args; simp_all
  obtain ⟨rfl, rfl⟩ := trodVars_none hV
  obtain ⟨a0, rfl, rfl, rfl, w0⟩ := open_int Yba.underlying5 (hval 0 5 v0 rfl rfl) h0
  obtain ⟨a1, rfl, rfl, rfl, w1⟩ := open_string Yba.underlying9 (hval 1 9 v1 rfl rfl) h1
  clear hA0 hval0
  simp only [List.append_nil] at hW'
  refine (walk a0 a1 w0 w1 W).mono fun e W' ⟨he, hg⟩ => ?_
  subst he
  exact ⟨_, rfl, _, _, _, [], _, [], hW', trodAll_mk1 (shut_bool Yba.underlying4 _), (trodAll_cons_mk (shut_int Yba.underlying5 w0) (trodAll_cons_mk (shut_string Yba.underlying9 w1) trodAll_mk0)), rfl, hg.frame _, fun h => by cases h⟩

theorem over : Rows.lawS3886CBoundaryRow.holds Yba.pinned (OpenSpec.ofChange Rows.lawS3886CBoundarySpec) :=
  OpenClaim.holds_of_wide 4 Yba.f4 rfl rfl rfl rfl rfl rfl rfl ⟨rfl, rfl, rfl, rfl, rfl⟩ rfl rfl rfl rfl rfl (by kernel_rfl) Yba.func4 (by kernel_rfl)
    (of_decide_eq_true (by kernel_rfl)) (by unfold Func.isWrapper; first | (rw [if_pos (by decide +kernel)]; kernel_rfl) | (rw [if_neg (by decide +kernel)]; exact ⟨rfl, rfl⟩))
    (fun os started H enc _ => lifted os started H enc)

/-- ████ THE STATEMENT ████ -/
theorem proved : Rows.LawS3886CBoundarySaid :=
  over
end Go.Proofs.Ybulkcblm.lawS3886CBoundary
