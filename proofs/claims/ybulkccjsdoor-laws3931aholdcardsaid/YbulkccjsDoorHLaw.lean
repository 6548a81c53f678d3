import Derived.Test.YbulkccjsDoorHLast
import Derived.Handy
namespace Go.Proofs.YbulkccjsDoor.H
open Go.RowKit
set_option linter.unusedSimpArgs false
set_option linter.unusedVariables false

theorem info68 : (Ybad.prog.info? 68).map (fun i => (i.zero, i.size, i.bytes)) = some (some (.agg #[.pointer none, .slice none 0 0, .slice none 0 0, .int .u8 0, .slice none 0 0, .nilIface, .map none, .nilIface, .int .u64 0, .int .i64 0, .pointer none]), 11, 152) := by kernel_rfl
theorem info29 : (Ybad.prog.info? 29).map (fun i => (i.zero, i.size, i.bytes)) = some (some (.pointer none), 1, 8) := by kernel_rfl

/-- What the region of the call's store reads. -/
def S24 (OA i R : Nat) (w : World) : Prop := w.cell? ⟨OA, i, none⟩ = some (.iface 39 (.pointer (some ⟨R, 0, none⟩)))

set_option maxRecDepth 100000 in
set_option maxHeartbeats 40000000 in
theorem law_is (o : Option Addr) (ad : Addr) (n c : Nat) (t : Int) (ar : Nat → Arg) (w : World) (ho : 0 < n → o = some ad) (hT : Tab w) (hb1 : 1 < w.heap.size) (hA : ∀ i, i < n → ArgAt w ad i (ar i)) :
    Calls Ybad.prog 3 #[.slice o n c, .int .u8 t] w fun e w' => e = .returned (.bool true) ∧ Below w.heap.size w w' := by
  by_cases hn : n ≤ 256
  case neg =>
    have hg : (256 : Int) < (n : Int) := by omega
    go_enter Ybad.func3, Ybad.ntmps3
    go_wp2
    go_ret
    exact ⟨rfl, Below.refl _ _⟩
  have hg : ¬ (256 : Int) < (n : Int) := by omega
  go_enter Ybad.func3, Ybad.ntmps3
  go_wp2_with fail
  go_loop [35] (fun x => ∃ k : Nat, k ≤ n ∧ x = .int .i64 k ∧ ∀ j, j < k → (ar j).zs.length ≤ 1024 ∧ (ar j).hs.length ≤ 1024) (fun x => n - (intOf x).toNat)
  case atStart => exact ⟨0, by omega, rfl, fun j hj => by omega⟩
  case round =>
    obtain ⟨k, hkk, rfl, hlens⟩ := hrel
    by_cases hlt : k < n
    · obtain rfl := ho (by omega)
      have y1 : (k : Int) < (n : Int) := by omega
      have x1 := (hA k hlt).x1
      have x2 := (hA k hlt).x2
      by_cases h1 : (ar k).zs.length ≤ 1024
      case neg =>
        have g1 : (1024 : Int) < ((ar k).zs.length : Int) := by omega
        go_wp2
        go_ret
        exact ⟨rfl, Below.refl _ _⟩
      have g1 : ¬ (1024 : Int) < ((ar k).zs.length : Int) := by omega
      by_cases h2 : (ar k).hs.length ≤ 1024
      case neg =>
        have g2 : (1024 : Int) < ((ar k).hs.length : Int) := by omega
        go_wp2
        go_ret
        exact ⟨rfl, Below.refl _ _⟩
      have g2 : ¬ (1024 : Int) < ((ar k).hs.length : Int) := by omega
      go_wp2
      go_round
      case rel =>
        refine ⟨k + 1, by omega, by go_num, fun j hj => ?_⟩
        by_cases hj' : j = k
        · subst hj'; exact ⟨h1, h2⟩
        · exact hlens j (by omega)
      case measure => simp [intOf]; omega
    · obtain rfl : k = n := by omega
      obtain ⟨i0, hi0, hz0, hz1, hz2⟩ := info_parts info68
      obtain ⟨i1, hi1, hy0, hy1, hy2⟩ := info_parts info29
      obtain ⟨i2, hi2, hx0, hx1, hx2⟩ := info_parts info52
      go_wp2_with (at_make; refine wpList_make_full _ rfl _ _ 26 rfl w.heap.size 68 i0 _ 11 Ybad.underlying26 hi0 hz0 hz1 .i64 .i64 _ _ k rfl rfl rfl rfl (by rw [hz2]; omega) (by unfold maxLen; omega) (Nat.le_refl _) ?_)
      intro w1 hc1 hg1
      have t1 : Turn [] w w1 := (Turn.refl _ _).grown hg1 (by simp)
      go_wp2_with (at_make; refine wpList_make_full _ rfl _ _ 27 rfl w.heap.size 29 i1 _ 1 Ybad.underlying27 hi1 hy0 hy1 .i64 .i64 _ _ k rfl rfl rfl rfl (by rw [hy2]; omega) (by unfold maxLen; omega) t1.size ?_)
      intro w2 hc2 hg2
      have t2 : Turn [] w1 w2 := (Turn.refl _ _).grown hg2 (by simp)
      go_wp2_with (at_make; refine wpList_make_full _ rfl _ _ 28 rfl w.heap.size 52 i2 _ 1 Ybad.underlying28 hi2 hx0 hx1 .i64 .i64 _ _ k rfl rfl rfl rfl (by rw [hx2]; omega) (by unfold maxLen; omega) (t1.trans t2).size ?_)
      intro w3 hc3 hg3
      have t3 : Turn [] w2 w3 := (Turn.refl _ _).grown hg3 (by simp)
      have hset : SetUp w.heap.size w1.heap.size w2.heap.size k ar w w3 0 (fun _ => ⟨[], [], 0, 0, 0, 0, 0, 0, 0, 0, none⟩) (fun _ => w3.heap.size) := by
        have bC := ((Blk.of_own hc1).turn t2 (by simp)).turn t3 (by simp)
        have bS := (Blk.of_own hc2).turn t3 (by simp)
        have bO := Blk.of_own hc3
        have l1 := (Blk.of_own hc1).lt
        have l2 := (Blk.of_own hc2).lt
        have l3 := bO.lt
        have q1 := t1.size
        have q2 := t2.size
        have q3 := t3.size
        refine SetUp.mk (fun j hj => absurd hj (Nat.not_lt_zero _)) (fun j hj => absurd hj (Nat.not_lt_zero _)) (fun j hj => absurd hj (Nat.not_lt_zero _)) (fun j hj => absurd hj (Nat.not_lt_zero _)) bC (by simpa using bS) (by simpa using bO) (fun j hj => absurd hj (Nat.not_lt_zero _)) (fun j hj => absurd hj (Nat.not_lt_zero _)) (fun _ => Nat.le_refl _) (fun _ _ => rfl) ⟨Nat.le_refl _, by omega⟩ ⟨q1, by omega⟩ ⟨by omega, l3⟩ ⟨by omega, by omega, by omega⟩ (((t1.trans t2).trans t3).toBelow (by simp) (Nat.le_refl _))
      go_wp2_with fail
      obtain ⟨CA, hCA⟩ : ∃ CA, CA = w.heap.size := ⟨_, rfl⟩
      obtain ⟨SA, hSA⟩ : ∃ SA, SA = w1.heap.size := ⟨_, rfl⟩
      obtain ⟨OA, hOA⟩ : ∃ OA, OA = w2.heap.size := ⟨_, rfl⟩
      rw [← hCA, ← hSA, ← hOA] at hset ⊢
      clear hCA hSA hOA t1 t2 t3 hc1 hc2 hc3 hg1 hg2 hg3 hi0 hz0 hz1 hz2 hi1 hy0 hy1 hy2 hi2 hx0 hx1 hx2
      obtain ⟨i3, hi3, hv0, hv1, hv2⟩ := info_parts info38
      go_loopw [66] (fun x W => ∃ i : Nat, i ≤ k ∧ x = .int .i64 i ∧ ∃ d b, SetUp CA SA OA k ar w W i d b) (fun x _ => k - (intOf x).toNat)
      case atStart => exact ⟨0, by omega, rfl, _, _, hset⟩
      case round =>
        obtain ⟨i, hik, rfl, d, b, hs⟩ := hrel
        obtain ⟨W, hW⟩ : ∃ W, W = wr := ⟨_, rfl⟩
        subst hW
        by_cases hlt : i < k
        · obtain rfl := ho (by omega)
          have y1 : (i : Int) < (k : Int) := by omega
          have hAW := (hA i hlt).below hs.below
          have hla := hlens i hlt
          have x2 := hAW.x2
          obtain ⟨o1, ho1⟩ : ∃ o1, o1 = (ar i).o1 := ⟨_, rfl⟩
          have hu1 := (hA i hlt).u1
          have hx1 := (hA i hlt).x1
          rw [← ho1] at hu1 hx1
          clear ho1
          have hx1W := (hs.below.cell (lt_of_cell hx1)).trans hx1
          have hcl := clone_own (ar i).o2 (ar i).hs.length (ar i).c2 (ar i).hs W hAW.u2 hla.2
          have hbA : (ad.add (i * 2)).block < w.heap.size := lt_of_cell (hA i hlt).x1
          have hnS : (ad.add (i * 2)).block ≠ SA := by have := hs.saz; omega
          have hnO : (ad.add (i * 2)).block ≠ OA := by have := hs.oaz; omega
          have hSl := hs.bS.lt
          have hOl := hs.bO.lt
          have hCl := hs.bC.lt
          have hne := hs.ne
          clear hset
          go_wp2_with (first | (go_at_call 6; with_reducible refine hcl.mono ?_; rintro e w5 ⟨o', c', rfl, hu5, hbel, hz5⟩; obtain ⟨u5, cu5⟩ := (hs.bS.turn (Turn.below hbel : Turn [] W w5) (by simp)).cell i hlt; have fz5 := (hs.bS.turn (Turn.below hbel : Turn [] W w5) (by simp)).free i; have hS5 := (hs.bS.turn (Turn.below hbel : Turn [] W w5) (by simp)).lt; have tS : Turn [SA] w5 ((w5.setCell ⟨SA, i, none⟩ (.pointer (some ⟨w5.heap.size, 0, none⟩))).alloc (.cells #[.slice o' (ar i).hs.length c', .int .i64 0] 33)) := ((Turn.refl _ _).setCell (by simp) _).alloc _; have x15 := (tS.cell (p := ad.add (i * 2)) (Nat.lt_of_lt_of_le (lt_of_cell hx1W) hbel.size) (by simpa using hnS)).trans ((hbel.cell (lt_of_cell hx1W)).trans hx1W)) | (at_make; refine wpList_make_full _ rfl _ _ 34 rfl 0 38 i3 _ 4 Ybad.underlying34 hi3 hv0 hv1 .i64 .i64 _ _ (ar i).zs.length rfl rfl rfl rfl (by rw [hv2]; omega) (by unfold maxLen; omega) (Nat.zero_le _) ?_))
          intro w6 hc6 hg6
          have hM : Mid CA SA OA k i W ((w5.setCell ⟨SA, i, none⟩ (.pointer (some ⟨w5.heap.size, 0, none⟩))).alloc (.cells #[.slice o' (ar i).hs.length c', .int .i64 0] 33)) w5.heap.size o' c' (ar i).hs := by
            have t5 : Turn [] W w5 := Turn.below hbel
            have l5 := t5.size
            have tW : Turn [SA, OA] W ((w5.setCell ⟨SA, i, none⟩ (.pointer (some ⟨w5.heap.size, 0, none⟩))).alloc (.cells #[.slice o' (ar i).hs.length c', .int .i64 0] 33)) := (t5.mono (by simp)).trans (tS.mono (by simp))
            refine ⟨by go_simp, by go_simp, by go_simp, hu5.turn tS (fun x hx => by have := hz5 x hx; simp; omega), l5, fun x hx => ⟨(hz5 x hx).1, by have := (hz5 x hx).2; simp; omega, by have := (hz5 x hx).2; omega⟩, by go_simp, fun o ho => ?_, fun o _ => ?_, fun o => ?_, ?_, ?_, ?_, tW, hCl, hSl, hOl⟩
            · rw [World.cell?_alloc_past _ _ _ (by simp [World.setCell]; exact hS5), World.cell?_setCell_other _ _ _ _ (by simp <;> omega)]
              exact t5.cell (p := ⟨SA, o, none⟩) hSl (by simp)
            · exact (tS.cell (p := ⟨OA, o, none⟩) (Nat.lt_of_lt_of_le hOl l5) (by simpa using fun e => hne.2.2 e.symm)).trans (t5.cell (p := ⟨OA, o, none⟩) hOl (by simp))
            · exact (tS.cell (p := ⟨CA, o, none⟩) (Nat.lt_of_lt_of_le hCl l5) (by simpa using hne.1)).trans (t5.cell (p := ⟨CA, o, none⟩) hCl (by simp))
            · exact hs.bC.turn tW (by simp; omega)
            · exact ((hs.bS.turn t5 (by simp)).set _ _).turn ((Turn.refl [] _).alloc _) (by simp)
            · exact (hs.bO.turn t5 (by simp)).turn tS (by simpa using fun e => hne.2.2 e.symm)
          have t6 : Turn [] _ w6 := (Turn.refl [] _).grown hg6 (by simp)
          have hM6 := hM.step t6 (by simp)
          have hB6 := Blk.of_own hc6
          obtain ⟨S, hSd⟩ : ∃ S, S = w5.heap.size := ⟨_, rfl⟩
          obtain ⟨cb, hcbd⟩ : ∃ cb, cb = w5.heap.size + 1 := ⟨_, rfl⟩
          have hcb1 : W.heap.size ≤ cb := by have := hbel.size; omega
          have hcb2 : cb ≠ S := by omega
          have hcb3 : cb ∉ blk o' := fun h => by have := (hz5 cb h).2; omega
          rw [← hcbd] at hB6 ⊢
          rw [← hSd] at hM6 ⊢
          have hbX : ∀ {X : World}, Turn [SA, OA] W X → Below w.heap.size w X := fun ht => hs.below.trans (ht.toBelow (by have := hs.saz; have := hs.oaz; simp; omega) hs.below.size)
          have x16 := ((hbX hM6.turn).cell (lt_of_cell hx1)).trans hx1
          clear hM hc6 hg6 tS x15 hu5 hz5 fz5 cu5 hbel hcl hSd hcbd hS5 t6 x2 hx1W hAW
          go_wp2_with fail
          go_loopw [94] (fun x X => ∃ j : Nat, j ≤ (ar i).zs.length ∧ x = .int .i64 j ∧ Mid CA SA OA k i W X S o' c' (ar i).hs ∧ Blk X cb 38 ((ar i).zs.length * 4) ∧ Filled X cb ((ar i).zs.take j)) (fun x _ => (ar i).zs.length - (intOf x).toNat)
          case atStart => exact ⟨0, by omega, rfl, hM6, hB6, by intro o u hu; simp [cidCells] at hu⟩
          case round =>
            obtain ⟨j, hj, rfl, hM, hB, hF⟩ := hrel
            obtain ⟨X, hX⟩ : ∃ X, X = wr := ⟨_, rfl⟩
            subst hX
            clear hM6 hB6 x16
            by_cases hjl : j < (ar i).zs.length
            · have y2 : (j : Int) < ((ar i).zs.length : Int) := by omega
              obtain ⟨a1, zz, rfl, hz1, hzc⟩ := hu1.at j hjl
              have hzX := ((hbX hM.turn).cell (lt_of_cell hzc)).trans hzc
              obtain ⟨v0, e0⟩ := hB.cell (j * 4) (by omega)
              obtain ⟨v1, e1⟩ := hB.cell (j * 4 + 1) (by omega)
              obtain ⟨v2, e2⟩ := hB.cell (j * 4 + 2) (by omega)
              obtain ⟨v3, e3⟩ := hB.cell (j * 4 + 3) (by omega)
              have f0 := hB.free (j * 4)
              have f1 := hB.free (j * 4 + 1)
              have f2 := hB.free (j * 4 + 2)
              have f3 := hB.free (j * 4 + 3)
              have hlj : ((ar i).zs.take j).length = j := by simp; omega
              have hF' := hF.snoc hB (by rw [hlj]; omega) zz
              rw [hlj, ← take_snoc hz1] at hF'
              have tc : Turn [cb] X ((((X.setCell ⟨cb, j * 4, none⟩ (.string ⟨#[]⟩)).setCell ⟨cb, j * 4 + 1, none⟩ (.string ⟨#[]⟩)).setCell ⟨cb, j * 4 + 2, none⟩ (.int .u16 0)).setCell ⟨cb, j * 4 + 3, none⟩ (.int .u16 zz)) := ((((Turn.refl _ _).setCell (by simp) _).setCell (by simp) _).setCell (by simp) _).setCell (by simp) _
              go_wp2
              go_roundw
              case rel => exact ⟨j + 1, by omega, by go_num, hM.step tc (by intro x hx; simp at hx; subst hx; exact ⟨hcb1, hcb2, hcb3⟩), (((hB.set _ _).set _ _).set _ _).set _ _, hF'⟩
              case measure => simp [intOf]; omega
            · obtain rfl : j = (ar i).zs.length := by omega
              rw [List.take_length] at hF
              have hOwn := hF.own hB hla.1
              obtain ⟨v0, e0⟩ := hM.bO.cell i hlt
              have f0 := hM.bO.free i
              have hOx : OA < X.heap.size := hM.bO.lt
              have hM1 := (hM.orig hne (reqOf X.heap.size)).step ((Turn.refl [] _).alloc (.cells #[.int .u16 0, .int .u16 0, .pointer none, .int .u8 0, .slice none 0 0, .pointer none, .pointer none] 50)) (by simp)
              have tO : Turn [OA] X ((X.setCell ⟨OA, i, none⟩ (reqOf X.heap.size)).alloc (.cells #[.int .u16 0, .int .u16 0, .pointer none, .int .u8 0, .slice none 0 0, .pointer none, .pointer none] 50)) := ((Turn.refl _ _).setCell (by simp) _).alloc _
              have hO1 : ((X.setCell ⟨OA, i, none⟩ (reqOf X.heap.size)).alloc (.cells #[.int .u16 0, .int .u16 0, .pointer none, .int .u8 0, .slice none 0 0, .pointer none, .pointer none] 50)).cell? ⟨OA, i, none⟩ = some (reqOf X.heap.size) := by go_simp
              have hOwn1 := own_turn hOwn tO (by have := hs.oaz; have := hs.bO.lt; simp [blk]; omega)
              unfold reqOf at hM1 hO1 hOwn1
              clear tO
              go_wp2_with fail
              generalize (X.setCell ⟨OA, i, none⟩ (.iface 39 (.pointer (some ⟨X.heap.size, 0, none⟩)))).alloc (.cells #[.int .u16 0, .int .u16 0, .pointer none, .int .u8 0, .slice none 0 0, .pointer none, .pointer none] 50) = X1 at *
              obtain ⟨R, hR⟩ : ∃ R, R = X.heap.size := ⟨_, rfl⟩
              rw [← hR] at hO1 ⊢
              clear hR hOwn hM hB hF e0 f0 hOx
              have hS : S24 OA i R X1.drew := hO1
              have hXd : X1.drew.heap.size = X1.heap.size := rfl
              have hXa : (X1.alloc (.cells #[.iface 29 (.pointer (some ⟨S, 0, none⟩)), .slice none 0 0, .int .u8 0, .int .i64 0] 58)).drew.heap.size = X1.heap.size + 1 := by simp
              have hCX : CA < X1.heap.size := hM1.bC.lt
              refine region_picks (S24 OA i R) 16 (by kernel_rfl) ?_
              refine Picks.take [16] (i := 0) (v := ?va0) rfl (by kernel_rfl) (by kernel_rfl) (by kernel_rfl) (by kernel_rfl) (fun _ _ _ h => h) (Or.inl ⟨by rfl, ?ya0⟩) hS ?ra0
              case ya0 => (intro w' hSw; unfold S24 at hSw; go_simp <;> with_reducible rfl)
              case ra0 =>
               simp only [List.getElem_toArray, List.getElem_cons_succ, List.getElem_cons_zero, Act.put, List.setIfInBounds_toArray, List.set_cons_zero, List.set_cons_succ]
               refine Picks.take [16] (i := 1) (v := ?va1) rfl (by kernel_rfl) (by kernel_rfl) (by kernel_rfl) (by kernel_rfl) (fun _ _ _ h => h) (Or.inl ⟨by rfl, ?ya1⟩) hS ?ra1
               case ya1 => (intro w' hSw; unfold S24 at hSw; go_simp <;> with_reducible rfl)
               case ra1 =>
                simp only [List.getElem_toArray, List.getElem_cons_succ, List.getElem_cons_zero, Act.put, List.setIfInBounds_toArray, List.set_cons_zero, List.set_cons_succ]
                refine Picks.take [16] (i := 2) (v := ?va2) rfl (by kernel_rfl) (by kernel_rfl) (by kernel_rfl) (by kernel_rfl) (fun _ _ _ h => h) (Or.inl ⟨by rfl, ?ya2⟩) hS ?ra2
                case ya2 => (intro w' hSw; unfold S24 at hSw; go_simp <;> with_reducible rfl)
                case ra2 =>
                 simp only [List.getElem_toArray, List.getElem_cons_succ, List.getElem_cons_zero, Act.put, List.setIfInBounds_toArray, List.set_cons_zero, List.set_cons_succ]
                 refine Picks.take [16] (i := 3) (v := ?va3) rfl (by kernel_rfl) (by kernel_rfl) (by kernel_rfl) (by kernel_rfl) (fun _ _ _ h => h) (Or.inl ⟨by rfl, ?ya3⟩) hS ?ra3
                 case ya3 => (intro w' hSw; unfold S24 at hSw; go_simp <;> with_reducible rfl)
                 case ra3 =>
                  simp only [List.getElem_toArray, List.getElem_cons_succ, List.getElem_cons_zero, Act.put, List.setIfInBounds_toArray, List.set_cons_zero, List.set_cons_succ]
                  refine Picks.take [16] (i := 4) (v := ?va4) rfl (by kernel_rfl) (by kernel_rfl) (by kernel_rfl) (by kernel_rfl) (fun _ _ _ h => h) (Or.inl ⟨by rfl, ?ya4⟩) hS ?ra4
                  case ya4 => (intro w' hSw; unfold S24 at hSw; go_simp <;> with_reducible rfl)
                  case ra4 =>
                   simp only [List.getElem_toArray, List.getElem_cons_succ, List.getElem_cons_zero, Act.put, List.setIfInBounds_toArray, List.set_cons_zero, List.set_cons_succ]
                   refine Picks.take [16] (i := 6) (v := ?va6) rfl (by kernel_rfl) (by kernel_rfl) (by kernel_rfl) (by kernel_rfl) (fun _ _ _ h => h) (Or.inl ⟨by rfl, ?ya6⟩) hS ?ra6
                   case ya6 => (intro w' hSw; unfold S24 at hSw; go_simp <;> with_reducible rfl)
                   case ra6 =>
                    simp only [List.getElem_toArray, List.getElem_cons_succ, List.getElem_cons_zero, Act.put, List.setIfInBounds_toArray, List.set_cons_zero, List.set_cons_succ]
                    refine Picks.take [16] (i := 7) (v := ?va7) rfl (by kernel_rfl) (by kernel_rfl) (by kernel_rfl) (by kernel_rfl) (fun _ _ _ h => h) (Or.inl ⟨by rfl, ?ya7⟩) hS ?ra7
                    case ya7 => (intro w' hSw; unfold S24 at hSw; go_simp <;> with_reducible rfl)
                    case ra7 =>
                     simp only [List.getElem_toArray, List.getElem_cons_succ, List.getElem_cons_zero, Act.put, List.setIfInBounds_toArray, List.set_cons_zero, List.set_cons_succ]
                     refine Picks.take [16] (i := 10) (v := ?va10) rfl (by kernel_rfl) (by kernel_rfl) (by kernel_rfl) (by kernel_rfl) (fun _ _ _ h => h) (Or.inl ⟨by rfl, ?ya10⟩) hS ?ra10
                     case ya10 => (intro w' hSw; unfold S24 at hSw; go_simp <;> with_reducible rfl)
                     case ra10 =>
                      simp only [List.getElem_toArray, List.getElem_cons_succ, List.getElem_cons_zero, Act.put, List.setIfInBounds_toArray, List.set_cons_zero, List.set_cons_succ]
                      refine Picks.take [16] (i := 11) (v := ?va11) rfl (by kernel_rfl) (by kernel_rfl) (by kernel_rfl) (by kernel_rfl) (fun _ _ _ h => h) (Or.inl ⟨by rfl, ?ya11⟩) hS ?ra11
                      case ya11 => (intro w' hSw; unfold S24 at hSw; go_simp <;> with_reducible rfl)
                      case ra11 =>
                       simp only [List.getElem_toArray, List.getElem_cons_succ, List.getElem_cons_zero, Act.put, List.setIfInBounds_toArray, List.set_cons_zero, List.set_cons_succ]
                       refine Picks.take [16] (i := 12) (v := ?va12) rfl (by kernel_rfl) (by kernel_rfl) (by kernel_rfl) (by kernel_rfl) (fun _ _ _ h => h) (Or.inl ⟨by rfl, ?ya12⟩) hS ?ra12
                       case ya12 => (intro w' hSw; unfold S24 at hSw; go_simp <;> with_reducible rfl)
                       case ra12 =>
                        simp only [List.getElem_toArray, List.getElem_cons_succ, List.getElem_cons_zero, Act.put, List.setIfInBounds_toArray, List.set_cons_zero, List.set_cons_succ]
                        refine Picks.take [16] (i := 13) (v := ?va13) rfl (by kernel_rfl) (by kernel_rfl) (by kernel_rfl) (by kernel_rfl) (fun _ _ _ h => h) (Or.inl ⟨by rfl, ?ya13⟩) hS ?ra13
                        case ya13 => (intro w' hSw; unfold S24 at hSw; go_simp <;> with_reducible rfl)
                        case ra13 =>
                         simp only [List.getElem_toArray, List.getElem_cons_succ, List.getElem_cons_zero, Act.put, List.setIfInBounds_toArray, List.set_cons_zero, List.set_cons_succ]
                         refine Picks.two (i := 5) (j := 8) (by kernel_rfl) rfl rfl (by rfl) (by rfl) (fun K hK => ?p1) (fun K hK => ?p2)
                         case p1 =>
                           go_simp
                           have ta : Turn [] X1 (X1.alloc (.cells #[.iface 29 (.pointer (some ⟨S, 0, none⟩)), .slice none 0 0, .int .u8 0, .int .i64 0] 58)).drew := ((Turn.refl [] X1).alloc _).drew
                           have hS6 : S24 OA i R (X1.alloc (.cells #[.iface 29 (.pointer (some ⟨S, 0, none⟩)), .slice none 0 0, .int .u8 0, .int .i64 0] 58)).drew := (ta.cell (lt_of_cell hO1) (by simp)).trans hO1
                           have pa : (X1.alloc (.cells #[.iface 29 (.pointer (some ⟨S, 0, none⟩)), .slice none 0 0, .int .u8 0, .int .i64 0] 58)).drew.cell? ⟨X1.heap.size, 0, none⟩ = some (.iface 29 (.pointer (some ⟨S, 0, none⟩))) := by go_simp
                           have hcall := clone_cid cb (ar i).zs.length (ar i).zs.length 0 (ar i).zs _ (own_turn hOwn1 ta (by simp)) hla.1
                           refine hK _ _ (fun _ => hS6) ?_
                           clear hK K
                           refine Picks.one (i := 8) (by kernel_rfl) rfl (by rfl) (fun K hK => ?_)
                           go_simp
                           go_wp2_with (go_at_call 7; with_reducible refine hcall.mono ?_; rintro e w7 ⟨lb, lc, rfl, own2, hbel⟩)
                           have t7 : Turn [] X1 w7 := ta.trans (Turn.below hbel)
                           have hMY := hM1.step t7 (by simp)
                           have hS7 : S24 OA i R w7 := (t7.cell (lt_of_cell hO1) (by simp)).trans hO1
                           have hlb := own_base own2 lb (by simp [blk])
                           have hlb1 : X1.heap.size ≤ lb := Nat.le_trans ta.size hlb.1
                           have hX1 := hM1.turn.size
                           have hSX : S < X1.heap.size := lt_of_cell hM1.s0
                           have p7 := (hbel.cell (lt_of_cell pa)).trans pa
                           refine hK _ _ (fun _ => hS7) ?_
                           clear hK K
                           obtain ⟨v0, g0⟩ := hMY.bC.cell (i * 11) (by omega)
                           have z0 := hMY.bC.free (i * 11)
                           obtain ⟨v1, g1⟩ := hMY.bC.cell (i * 11 + 1) (by omega)
                           have z1 := hMY.bC.free (i * 11 + 1)
                           obtain ⟨v2, g2⟩ := hMY.bC.cell (i * 11 + 2) (by omega)
                           have z2 := hMY.bC.free (i * 11 + 2)
                           obtain ⟨v3, g3⟩ := hMY.bC.cell (i * 11 + 3) (by omega)
                           have z3 := hMY.bC.free (i * 11 + 3)
                           obtain ⟨v4, g4⟩ := hMY.bC.cell (i * 11 + 4) (by omega)
                           have z4 := hMY.bC.free (i * 11 + 4)
                           obtain ⟨v5, g5⟩ := hMY.bC.cell (i * 11 + 5) (by omega)
                           have z5 := hMY.bC.free (i * 11 + 5)
                           obtain ⟨v6, g6⟩ := hMY.bC.cell (i * 11 + 6) (by omega)
                           have z6 := hMY.bC.free (i * 11 + 6)
                           obtain ⟨v7, g7⟩ := hMY.bC.cell (i * 11 + 7) (by omega)
                           have z7 := hMY.bC.free (i * 11 + 7)
                           obtain ⟨v8, g8⟩ := hMY.bC.cell (i * 11 + 8) (by omega)
                           have z8 := hMY.bC.free (i * 11 + 8)
                           obtain ⟨v9, g9⟩ := hMY.bC.cell (i * 11 + 9) (by omega)
                           have z9 := hMY.bC.free (i * 11 + 9)
                           obtain ⟨v10, g10⟩ := hMY.bC.cell (i * 11 + 10) (by omega)
                           have z10 := hMY.bC.free (i * 11 + 10)
                           refine Picks.one (i := 9) (by kernel_rfl) rfl (by rfl) (fun K hK => ?_)
                           go_simp
                           refine hK _ _ (fun _ => hS7) ?_
                           clear hK K
                           refine Picks.one (i := 14) (by kernel_rfl) rfl (by rfl) (fun K hK => ?_)
                           go_simp
                           refine hK _ _ (fun _ => hS7) ?_
                           clear hK K
                           refine Picks.one (i := 15) (by kernel_rfl) rfl (by rfl) (fun K hK => ?_)
                           go_simp
                           refine hK _ _ (fun _ => hS7) ?_
                           clear hK K
                           refine Picks.one (i := 16) (by kernel_rfl) rfl (by rfl) (fun K hK => ?_)
                           go_simp
                           refine hK _ _ (fun h => absurd rfl h) ?_
                           clear hK K
                           refine Picks.done (by kernel_rfl) ?_ _
                           refine NoPanic.normal ?_
                           go_wp2
                           have hfin := set_fin (P := X1.heap.size) (lb := lb) (lc := lc) (R := R) (cb := cb) hs hlt hMY p7 ⟨hX1, by omega⟩ ⟨hcb1, hcb2⟩ ⟨by omega, by omega⟩ (own_turn hOwn1 t7 (by simp)) (own_mono own2 (Nat.zero_le _)) hS7
                           go_roundw
                           case rel => exact ⟨i + 1, by omega, by go_num, _, _, hfin⟩
                           case measure => simp [intOf]; omega
                         case p2 =>
                           go_simp
                           have hcall := clone_cid cb (ar i).zs.length (ar i).zs.length 0 (ar i).zs X1.drew (own_turn hOwn1 (Turn.refl [] X1).drew (by simp)) hla.1
                           go_wp2_with (go_at_call 7; with_reducible refine hcall.mono ?_; rintro e w6 ⟨lb, lc, rfl, own2, hbel⟩)
                           have t6 : Turn [] X1 w6 := (Turn.refl [] X1).drew.trans (Turn.below hbel)
                           have hS6 : S24 OA i R w6 := (t6.cell (lt_of_cell hO1) (by simp)).trans hO1
                           refine hK _ _ (fun _ => hS6) ?_
                           clear hK K
                           refine Picks.take [16] (i := 9) (v := ?va9) rfl (by kernel_rfl) (by kernel_rfl) (by kernel_rfl) (by kernel_rfl) (fun _ _ _ h => h) (Or.inl ⟨by rfl, ?ya9⟩) hS6 ?ra9
                           case ya9 => (intro w' hSw; unfold S24 at hSw; go_simp <;> with_reducible rfl)
                           case ra9 =>
                             simp only [List.getElem_toArray, List.getElem_cons_succ, List.getElem_cons_zero, Act.put, List.setIfInBounds_toArray, List.set_cons_zero, List.set_cons_succ]
                             refine Picks.one (i := 5) (by kernel_rfl) rfl (by rfl) (fun K hK => ?_)
                             go_simp
                             have ta : Turn [] w6 (w6.alloc (.cells #[.iface 29 (.pointer (some ⟨S, 0, none⟩)), .slice none 0 0, .int .u8 0, .int .i64 0] 58)) := (Turn.refl [] w6).alloc _
                             have t7 := t6.trans ta
                             have hS7 : S24 OA i R (w6.alloc (.cells #[.iface 29 (.pointer (some ⟨S, 0, none⟩)), .slice none 0 0, .int .u8 0, .int .i64 0] 58)) := (t7.cell (lt_of_cell hO1) (by simp)).trans hO1
                             have p7 : (w6.alloc (.cells #[.iface 29 (.pointer (some ⟨S, 0, none⟩)), .slice none 0 0, .int .u8 0, .int .i64 0] 58)).cell? ⟨w6.heap.size, 0, none⟩ = some (.iface 29 (.pointer (some ⟨S, 0, none⟩))) := by go_simp
                             have hMY := hM1.step t7 (by simp)
                             have hlb := own_base own2 lb (by simp [blk])
                             have hlb1 : X1.heap.size ≤ lb := hlb.1
                             have hX1 := hM1.turn.size
                             have hSX : S < X1.heap.size := lt_of_cell hM1.s0
                             have h6s := t6.size
                             refine hK _ _ (fun _ => hS7) ?_
                             clear hK K
                             obtain ⟨v0, g0⟩ := hMY.bC.cell (i * 11) (by omega)
                             have z0 := hMY.bC.free (i * 11)
                             obtain ⟨v1, g1⟩ := hMY.bC.cell (i * 11 + 1) (by omega)
                             have z1 := hMY.bC.free (i * 11 + 1)
                             obtain ⟨v2, g2⟩ := hMY.bC.cell (i * 11 + 2) (by omega)
                             have z2 := hMY.bC.free (i * 11 + 2)
                             obtain ⟨v3, g3⟩ := hMY.bC.cell (i * 11 + 3) (by omega)
                             have z3 := hMY.bC.free (i * 11 + 3)
                             obtain ⟨v4, g4⟩ := hMY.bC.cell (i * 11 + 4) (by omega)
                             have z4 := hMY.bC.free (i * 11 + 4)
                             obtain ⟨v5, g5⟩ := hMY.bC.cell (i * 11 + 5) (by omega)
                             have z5 := hMY.bC.free (i * 11 + 5)
                             obtain ⟨v6, g6⟩ := hMY.bC.cell (i * 11 + 6) (by omega)
                             have z6 := hMY.bC.free (i * 11 + 6)
                             obtain ⟨v7, g7⟩ := hMY.bC.cell (i * 11 + 7) (by omega)
                             have z7 := hMY.bC.free (i * 11 + 7)
                             obtain ⟨v8, g8⟩ := hMY.bC.cell (i * 11 + 8) (by omega)
                             have z8 := hMY.bC.free (i * 11 + 8)
                             obtain ⟨v9, g9⟩ := hMY.bC.cell (i * 11 + 9) (by omega)
                             have z9 := hMY.bC.free (i * 11 + 9)
                             obtain ⟨v10, g10⟩ := hMY.bC.cell (i * 11 + 10) (by omega)
                             have z10 := hMY.bC.free (i * 11 + 10)
                             refine Picks.one (i := 14) (by kernel_rfl) rfl (by rfl) (fun K hK => ?_)
                             go_simp
                             refine hK _ _ (fun _ => hS7) ?_
                             clear hK K
                             refine Picks.one (i := 15) (by kernel_rfl) rfl (by rfl) (fun K hK => ?_)
                             go_simp
                             refine hK _ _ (fun _ => hS7) ?_
                             clear hK K
                             refine Picks.one (i := 16) (by kernel_rfl) rfl (by rfl) (fun K hK => ?_)
                             go_simp
                             refine hK _ _ (fun h => absurd rfl h) ?_
                             clear hK K
                             refine Picks.done (by kernel_rfl) ?_ _
                             refine NoPanic.normal ?_
                             go_wp2
                             have hfin := set_fin (P := w6.heap.size) (lb := lb) (lc := lc) (R := R) (cb := cb) hs hlt hMY p7 ⟨by omega, by omega⟩ ⟨hcb1, hcb2⟩ ⟨by omega, by omega⟩ (own_turn hOwn1 t7 (by simp)) (own_turn (own_mono own2 (Nat.zero_le _)) ta (by simp)) hS7
                             skip
                             go_roundw
                             case rel => exact ⟨i + 1, by omega, by go_num, _, _, hfin⟩
                             case measure => simp [intOf]; omega
        · obtain rfl : i = k := by omega
          have hCl := hs.bC.lt
          have hSl := hs.bS.lt
          have hOl := hs.bO.lt
          have hbk := hs.top i (Nat.le_refl _)
          have hmon : ∀ {p q : Nat}, p ≤ q → b p ≤ b q := by
            intro p q hpq
            induction hpq with
            | refl => exact Nat.le_refl _
            | step _ ih => exact Nat.le_trans ih (hs.mono _)
          have hb0 := hmon (Nat.zero_le i)
          have hcaz := hs.ca
          have hsaz := hs.saz
          have hoaz := hs.oaz
          have hne := hs.ne
          have t2 : Turn [] W ((W.alloc (.cells #[.slice none 0 0] 69)).alloc (.cells #[.slice none 0 0] 28)) := ((Turn.refl _ _).alloc _).alloc _
          have hz : Zones CA W.heap.size (W.heap.size + 1) i ((W.alloc (.cells #[.slice none 0 0] 69)).alloc (.cells #[.slice none 0 0] 28)).heap.size d b :=
            ⟨hs.mono, hs.zS, hs.zone, hcaz.2, by omega, by omega, by omega, by omega, (by simp <;> omega), (by simp <;> omega), by omega⟩
          have hfit : ∀ j, j < i → Fit (d j) := fun j hj => ⟨by rw [(hs.dz j hj).1]; exact (hlens j hj).1, by rw [(hs.dz j hj).2]; exact (hlens j hj).2, by rw [(hs.dz j hj).1]; exact (hA j hj).wz⟩
          have hinv : Inv CA W.heap.size (W.heap.size + 1) i t d ((W.alloc (.cells #[.slice none 0 0] 69)).alloc (.cells #[.slice none 0 0] 28)) ((W.alloc (.cells #[.slice none 0 0] 69)).alloc (.cells #[.slice none 0 0] 28)) 0 [] none 0 none 0 := by
            refine ⟨rfl, by go_simp, by go_simp, by go_simp, by go_simp, ⟨rfl, .inl ⟨rfl, rfl⟩⟩, ⟨rfl, .inl ⟨rfl, rfl⟩⟩, by simp [blk], fun j hj => absurd hj (Nat.not_lt_zero _), fun j _ hj => ?_, fun o => (hs.bC.turn t2 (by simp)).free o, hT.below hb1 (hs.below.trans (t2.toBelow (by simp) hs.below.size)), ?_, Turn.refl _ _⟩
            · exact (hs.todo j hj).turn t2 (by simp) (by simp) (fun f _ => t2.cell (p := ⟨CA, j * 11 + f, none⟩) hCl (by simp))
            · have := hs.below.size; have := t2.size; omega
          have hcall := hold_is CA i t W.heap.size (W.heap.size + 1) d b hn _ hz hfit hinv
          have hmf : ∀ (fn : Fn) (first cap : Array Value) (w : World), (Instr.makeFunc fn first cap).run Ybad.prog w = .ok (.func fn first cap) w := fun _ _ _ _ => rfl
          clear hset
          go_wp2_with (go_at_call 9; with_reducible refine hcall.mono ?_; rintro e V ⟨rfl, es, lo, cl, ro, cr, hI⟩)
          have hVB : Below w.heap.size w V := hs.below.trans ((t2.toBelow (by simp) hs.below.size).trans (hI.turn.toBelow (by
            intro x hx
            have hwW := hs.below.size
            simp only [List.mem_cons] at hx
            rcases hx with rfl | rfl | rfl | hx
            · exact hcaz.1
            · exact hwW
            · omega
            · obtain ⟨j, hj, rfl⟩ := List.mem_map.1 hx
              have hji := List.mem_range.1 hj
              have h1 := (hs.zS j hji).1
              have h2 := hmon (Nat.zero_le j)
              omega) (Nat.le_trans hs.below.size t2.size)))
          have hfar : ∀ x, x < b 0 → x ≠ CA → x ∉ CA :: W.heap.size :: (W.heap.size + 1) :: (List.range i).map (fun j => (d j).S) := fun x hx hxc h => by
            simp only [List.mem_cons] at h
            rcases h with h | h | h | h
            · exact hxc h
            · omega
            · omega
            · obtain ⟨j, hj, rfl⟩ := List.mem_map.1 h
              have hji := List.mem_range.1 hj
              have h1 := (hs.zS j hji).1
              have h2 := hmon (Nat.zero_le j)
              omega
          have hsaV : ∀ j, j < i → V.cell? ⟨SA, j, none⟩ = some (.pointer (some ⟨(d j).S, 0, none⟩)) := fun j hj => (hI.turn.cell (p := ⟨SA, j, none⟩) (Nat.lt_of_lt_of_le hSl t2.size) (hfar SA hsaz.2 (Ne.symm hne.1))).trans ((t2.cell (p := ⟨SA, j, none⟩) hSl (by simp)).trans (hs.sa j hj))
          have hoaV : ∀ j, j < i → V.cell? ⟨OA, j, none⟩ = some (reqOf (d j).R) := fun j hj => (hI.turn.cell (p := ⟨OA, j, none⟩) (Nat.lt_of_lt_of_le hOl t2.size) (hfar OA hoaz.2 (Ne.symm hne.2.1))).trans ((t2.cell (p := ⟨OA, j, none⟩) hOl (by simp)).trans (hs.oa j hj))
          have hdz := hs.dz
          obtain ⟨LL, hLL⟩ : ∃ LL, LL = W.heap.size := ⟨_, rfl⟩
          obtain ⟨RR, hRR⟩ : ∃ RR, RR = W.heap.size + 1 := ⟨_, rfl⟩
          rw [← hRR] at hI ⊢
          rw [← hLL] at hI ⊢
          clear hLL hRR hs hz hcall hinv hfar t2 hmon hbk hb0 hik hlt hCl hSl hOl
          go_wp2_with fail
          refine last_loop o ad i c t ar w V _ CA SA OA LL RR d es lo cl ro cr ho hn hA hfit hI hVB hsaV hoaV hdz _ ?_
          intro e4 e18 e19 e20 e21 e22 e23 e24 e25 e26 e27 e28 e29 e136 e137 e138 e139 e140 e141 e142 e143 e144 e145 e146 e147 e148 e149 e150 e151 e152 e153 e154 e155 e156 e157 e158 e159 e160 e161 e162 e163 e164 e165 e166 e167 e168 e169 e170 e171 e172 e173 e174 e175 e176 e177 e178 e179 e180 e181 e182 e183 e184 e185 e186 e187 e188 e189 e190 e191 e192 e193 e194 e195 e196 e197 e198 e199 e200 e201 e202 e203 e204 e205 e206 e207 e208 e209 e210 e211 e212 e213 e214 e215 e216 e217 e218 e219 e220 e221 e222 e223 e224 e225 e226 e227 e228 e229 e230 e231 e232 e233 e234 e235 e236 e237 e238 e239 e240 e241 e242 e243 e244 e245 e246 e247 e248 e249 e250 e251 e252 e253 e254 e255 e256 e257 e258 e259 e260 e261 e262 e263 e264 e265 e266 e267 e268 e269 e270 e271 e272 e273 e274 e275 e276 e277 e278 e279 e280 e281 e282 e283 e284 e285 e286 e287 e288 e289 e290 e291 e292 e293 e294 e295 e296 e297 e298 e299 e300 e301 e302 e303 e304 e305 e306 e307 e308 e309 e310 e311 e312 e313 e314 e315 e316 e317 e318 e319 e320 e321 X hX
          have hbr := (hX.cell (lt_of_cell hI.br) (by simp)).trans hI.br
          rw [hI.len] at hbr
          go_wp2
          go_ret
          exact ⟨by simp, hVB.trans (hX.toBelow (by simp) hVB.size)⟩
end Go.Proofs.YbulkccjsDoor.H
