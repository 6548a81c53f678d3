import Derived.Test.YbulkcbmoDEnd
import Derived.WalkKit
import Derived.Lib.Builder
import Derived.BigQuiet
import Derived.Deep.QuietTactic
import Derived.WalkSpells
import Derived.WalkLawsBesides
import Derived.Deep.RegionHeld3
import Derived.Deep.RegionWith
import Derived.Deep.DrawnRows
import Derived.Deep.AppendLies
import Derived.Deep.CutRange
import Derived.Deep.DeepCutAuto
import Derived.Deep.CutBlock
namespace Go.Proofs.Ybulkcbmo.D
open Go.RowKit
set_option linter.unusedSimpArgs false
set_option linter.unusedVariables false
set_option linter.unnecessarySimpa false
attribute [local go_sem ↓] Go.wp_at_zero Go.wp_at_succ
theorem has46 : (Yba.prog.info? 46).isSome = true := by kernel_rfl
theorem neq_same (W : World) (a : Addr) : (binOp .neq 42 (.pointer (some a)) (.pointer (some a))).run Yba.prog W = .ok (.bool false) W := by
  obtain ⟨i0, h0⟩ := Option.isSome_iff_exists.1 has46
  exact Go.Lib.run_neq_ptr_same W a Yba.underlying42 h0
theorem stats_same (W : World) : (binOp .neq 66 (.agg #[.int .u64 0, .int .u64 0, .int .u64 0, .int .u64 0, .int .u64 0, .int .u64 0, .int .u64 0, .int .u64 0]) (.agg #[.int .u64 0, .int .u64 0, .int .u64 0, .int .u64 0, .int .u64 0, .int .u64 0, .int .u64 0, .int .u64 0])).run Yba.prog W = .ok (.bool false) W := by kernel_rfl
theorem wrap_two (k a b : Int) : IntKind.i64.wrap (IntKind.i64.wrap (k + a) - b) = IntKind.i64.wrap (k + (a - b)) := by
  rw [IntKind.wrap_i64, IntKind.wrap_i64, IntKind.wrap_i64]; omega
theorem kept_same (x : Int) : (wrap64 x != wrap64 (wrap64 x)) = false := by
  rw [bne_eq_false_iff_eq]; unfold wrap64; omega
theorem kept_less (x : Int) : (wrap64 (x - 96) != wrap64 (wrap64 x - 96)) = false := by
  rw [bne_eq_false_iff_eq]; unfold wrap64; omega
theorem kept_both (x : Int) : (wrap64 x != wrap64 (wrap64 (x + 96) - 96)) = false := by
  rw [bne_eq_false_iff_eq]; unfold wrap64; omega
theorem kk_is {kept s3 kk : Int} {wd : Bool} (h : IntKind.i64.wrap (kept + ((if wd = true then 96 else 0) - if s3 = 0 then 0 else 96)) = kk) : kk = wrap64 (kept + ((if wd = true then 96 else 0) - if s3 = 0 then 0 else 96)) := by
  rw [← h]; unfold wrap64; exact IntKind.wrap_i64 _
theorem kk_uf (kept : Int) : kept + ((if false = true then 96 else 0) - if (0 : Int) = 0 then 0 else 96) = kept := by simp
theorem kk_ut (kept : Int) : kept + ((if true = true then 96 else 0) - if (0 : Int) = 0 then 0 else 96) = kept + 96 := by simp
theorem kk_hf (kept s3 : Int) (h : s3 ≠ 0) : kept + ((if false = true then 96 else 0) - if s3 = 0 then 0 else 96) = kept - 96 := by
  rw [if_neg (by simp), if_neg h]; omega
theorem kk_ht (kept s3 : Int) (h : s3 ≠ 0) : kept + ((if true = true then 96 else 0) - if s3 = 0 then 0 else 96) = kept := by
  rw [if_pos rfl, if_neg h]; omega

set_option maxRecDepth 100000 in
set_option maxHeartbeats 8000000 in
theorem law_walk (n st id other kept pu : Int) (wd : Bool) (pre : Int) (w : World) (hn : 0 ≤ n ∧ n ≤ 255) (hs : 0 ≤ st ∧ st ≤ 255) (hp : 0 ≤ pu ∧ pu ≤ 255) (hi : 0 ≤ id ∧ id ≤ 65535) (ho : 0 ≤ other ∧ other ≤ 65535) :
    Calls Yba.prog 5 #[.int .u8 n, .int .u8 st, .int .u16 id, .int .u16 other, .bool wd, .int .u64 pre, .int .i64 kept, .int .u8 pu] w fun e w' => e = .returned (.bool true) ∧ Below w.heap.size w w' := by
  have hmk := @run_makeMap Yba.prog
  obtain ⟨s3, hs3⟩ : ∃ s3, st % 3 = s3 := ⟨_, rfl⟩
  have hs3b : 0 ≤ s3 ∧ s3 ≤ 2 := by omega
  go_enter Yba.func5, Yba.ntmps5
  go_upto_if 46 with fail
  go_cut [3] from 46 to 48 (fun o wx => ∃ oth : Int, o = .int .u16 oth ∧ oth ≠ id ∧ w = wx)
  case first =>
    cases he : (other == id) with
    | true =>
      go_wp2
      go_meet
      case rel => exact ⟨_, rfl, xor_ne id hi, rfl⟩
    | false =>
      go_wp2
      go_meet
      case rel => exact ⟨_, rfl, by simpa using he, rfl⟩
  case rest =>
    obtain ⟨oth, rfl, hoi, rfl⟩ := hcut
    go_upto_block 0 with fail
    have HS3 : Hid (st % 3 = s3) := hs3
    clear hs3
    go_cut [17, 20, 22] from 59 to 98 (fun k h i wx => ∃ po pn pc hs m2 m3 es2 es3 bp, h = .slice po pn pc ∧ AfterA w wx s3 id po pn pc hs m2 m3 es2 es3 bp)
    case first =>
      obtain rfl | rfl | rfl : s3 = 0 ∨ s3 = 1 ∨ s3 = 2 := by omega
      · go_wp2
        go_meet
        case rel => exact ⟨none, 0, 0, [], none, none, [], [], false, rfl, after_U w id⟩
      · have ab := ab_start w false (.slice none 0 0)
        obtain ⟨i0, hi0, hz0, hz1, hz2⟩ := info_parts info42
        generalize ((w.alloc (.cells #[.map none, .map none, .map none, .map none, .int .u32 0, .bool false] 34)).alloc (.cells #[.pointer none, .int .u64 0, .int .i64 0, .pointer none, .bool false, .slice none 0 0] 41)) = W at *
        go_upto_if 62 with fail
        go_cut [17] from 62 to 62 (fun k wx => ∃ K : Nat, k = .int .i64 K ∧ 1 ≤ K ∧ K ≤ 11 ∧ W = wx)
        case first =>
          by_cases hk0 : n % 12 = 0
          · have hk1 : (n % 12 == 0) = true := by simpa using hk0
            have HK : Hid (n % 12 = 0) := hk0
            clear hk0
            go_wp2
            go_meet
            case rel => exact ⟨1, rfl, by omega, by omega, rfl⟩
          · have hk1 : (n % 12 == 0) = false := by simpa using hk0
            go_wp2
            go_meet
            case rel => exact ⟨(n % 12).toNat, by rw [Int.toNat_of_nonneg (by omega)], by omega, by omega, rfl⟩
        case rest =>
          obtain ⟨K, rfl, hK1, hK2, rfl⟩ := hcut
          go_wp2_with fail
          go_loopw [20, 22] (fun v i wr => ∃ (k : Nat) (uo : Option Addr) (uc : Nat) (bs : List Nat), k ≤ K ∧ i = .int .i64 k ∧ v = .slice uo k uc ∧ bs.length = k ∧ wr.ownsRow W.heap.size 42 1 (.slice uo k uc) k (ptrs bs) ∧ Below W.heap.size W wr) (fun _ i _ => K - (intOf i).toNat)
          case atStart => exact ⟨0, none, 0, [], by omega, rfl, rfl, rfl, World.ownsRow_nil _ _ _ _, Below.refl _ _⟩
          case round =>
            obtain ⟨k, uo, uc, bs, hk, rfl, rfl, hbs, hown, hbel⟩ := hrel
            by_cases hlt : k < K
            · have HBS : Hid (bs.length = k) := hbs
              clear hbs
              go_wp2_with (at_builtin; refine wpList_append_lies _ rfl (.tmp 68) (.tmp 76) 35 rfl W.heap.size 42 i0 (.pointer none) 1 8 Yba.underlying35 hi0 hz0 hz1 hz2 rfl (by decide) (.slice uo k uc) k (ptrs bs) rfl (((hown.alloc _).alloc _).alloc _) ⟨wr.heap.size + 1 + 1, 0, none⟩ 1 1 [.pointer (some ⟨wr.heap.size + 1, 0, none⟩)] rfl rfl ?c1 ?c2 (by omega) (by unfold maxLen; omega) (by omega) ?c3 (wr.heap.size + 1 + 1 + 1) ?c4 ?_)
              case c1 =>
                intro j u hj
                match j, hj with
                | 0, hj => simp at hj; subst hj; rw [Addr.add_lit]; go_simp
                | j + 1, hj => simp at hj
              case c2 => intro u hu; simp at hu; subst hu; rfl
              case c3 => have := hbel.size; simp; omega
              case c4 => simp
              intro g cap w1 hown1 hgrow _ _
              have hbel1 : Below W.heap.size W w1 := (((hbel.alloc hbel.size _).alloc (by have := hbel.size; simp; omega) _).alloc (by have := hbel.size; simp; omega) _).grown hgrow (by have := hbel.size; simp; omega) (fun r hr => (own_base hown r (blk_own hr)).1)
              clear hown hgrow hbel
              go_wp2
              go_roundw
              case rel => exact ⟨k + 1, some ⟨g, 0, none⟩, cap, bs ++ [wr.heap.size + 1], by omega, by go_num, rfl, by simp [HBS.out], by rw [ptrs_snoc]; exact hown1, hbel1⟩
              case measure => simp [intOf]; omega
            · obtain rfl : k = K := by omega
              have p0 := (hbel.cell (p := ⟨w.heap.size + 1, 0, none⟩) ab.sz).trans ab.two.a0
              have p1 := (hbel.cell (p := ⟨w.heap.size + 1, 1, none⟩) ab.sz).trans ab.two.a1
              have p2 := (hbel.cell (p := ⟨w.heap.size + 1, 2, none⟩) ab.sz).trans ab.two.a2
              have p3 := (hbel.cell (p := ⟨w.heap.size + 1, 3, none⟩) ab.sz).trans ab.two.a3
              have p4 := (hbel.cell (p := ⟨w.heap.size + 1, 4, none⟩) ab.sz).trans ab.two.a4
              have p5 := (hbel.cell (p := ⟨w.heap.size + 1, 5, none⟩) ab.sz).trans ab.two.a5
              have zP : ∀ j, wr.frozen? ⟨w.heap.size + 1, j, none⟩ = false := fun j => (hbel.frozen (p := ⟨w.heap.size + 1, j, none⟩) ab.sz).trans (ab.zp j)
              go_wp2
              clear p0 p1 p2 p3 p4 p5 zP
              have ab2 := ab.fill hbel (.slice uo k uc)
              have hbk := own_base hown
              have tt : Turn [w.heap.size + 1] wr ((((((wr.setCell ⟨w.heap.size + 1, 0, none⟩ (.pointer none)).setCell ⟨w.heap.size + 1, 1, none⟩ (.int .u64 0)).setCell ⟨w.heap.size + 1, 2, none⟩ (.int .i64 0)).setCell ⟨w.heap.size + 1, 3, none⟩ (.pointer none)).setCell ⟨w.heap.size + 1, 4, none⟩ (.bool false)).setCell ⟨w.heap.size + 1, 5, none⟩ (.slice uo k uc)) := ((((((Turn.refl [w.heap.size + 1] wr).setCell (by simp) _).setCell (by simp) _).setCell (by simp) _).setCell (by simp) _).setCell (by simp) _).setCell (by simp) _
              have hh := held_turn (held_own hown (by omega) (by omega)) tt (fun q hq => by have := (hbk q hq).1; have := ab.sz; simp; omega)
              have hbk2 : ∀ q ∈ blk uo, w.heap.size + 1 < q ∧ q < ((((((wr.setCell ⟨w.heap.size + 1, 0, none⟩ (.pointer none)).setCell ⟨w.heap.size + 1, 1, none⟩ (.int .u64 0)).setCell ⟨w.heap.size + 1, 2, none⟩ (.int .i64 0)).setCell ⟨w.heap.size + 1, 3, none⟩ (.pointer none)).setCell ⟨w.heap.size + 1, 4, none⟩ (.bool false)).setCell ⟨w.heap.size + 1, 5, none⟩ (.slice uo k uc)).heap.size := fun q hq => ⟨by have := (hbk q hq).1; have := ab.sz; omega, Nat.lt_of_lt_of_le (hbk q hq).2 tt.size⟩
              clear hown hbel hbk tt ab
              generalize ((((((wr.setCell ⟨w.heap.size + 1, 0, none⟩ (.pointer none)).setCell ⟨w.heap.size + 1, 1, none⟩ (.int .u64 0)).setCell ⟨w.heap.size + 1, 2, none⟩ (.int .i64 0)).setCell ⟨w.heap.size + 1, 3, none⟩ (.pointer none)).setCell ⟨w.heap.size + 1, 4, none⟩ (.bool false)).setCell ⟨w.heap.size + 1, 5, none⟩ (.slice uo k uc)) = W2 at *
              have hsz := ab2.sz
              have hl0 : w.heap.size < W2.heap.size := by omega
              have d3 := (((Below.refl _ W2).alloc (Nat.le_refl _) (.map #[{ key := .int .u16 id, val := .agg #[.pointer none, .int .u64 0, .int .i64 0, .pointer none, .bool false, .slice uo k uc], born := 0 }] 1)).cell (p := ⟨w.heap.size, 2, none⟩) hl0).trans ab2.d2
              have z3 := (((Below.refl _ W2).alloc (Nat.le_refl _) (.map #[{ key := .int .u16 id, val := .agg #[.pointer none, .int .u64 0, .int .i64 0, .pointer none, .bool false, .slice uo k uc], born := 0 }] 1)).frozen (p := ⟨w.heap.size, 2, none⟩) hl0).trans ab2.z2
              have hin := fun X => ins_newD X id (sv false (.slice uo k uc))
              dsimp only [sv] at hin
              go_region_held3 (fun w' => w'.cell? ⟨w.heap.size + 1, 0, none⟩ = some (.pointer none) ∧ w'.cell? ⟨w.heap.size + 1, 1, none⟩ = some (.int .u64 0) ∧ w'.cell? ⟨w.heap.size + 1, 2, none⟩ = some (.int .i64 0) ∧ w'.cell? ⟨w.heap.size + 1, 3, none⟩ = some (.pointer none) ∧ w'.cell? ⟨w.heap.size + 1, 4, none⟩ = some (.bool false) ∧ w'.cell? ⟨w.heap.size + 1, 5, none⟩ = some (.slice uo k uc)) (first | exact Two.six (ab2.two.turn (ex := []) ((Turn.refl [] W2).drew) (by simp) (by simp)) | exact Two.six (ab2.two.turn (ex := []) (((Turn.refl [] W2).alloc _).drew) (by simp) (by simp)) | exact Two.six (ab2.two.turn (ex := [w.heap.size]) (((Turn.refl _ W2).setCell (by simp) _).alloc _).drew (by simp) (by simp)))
                (fail)
              go_wp2
              go_meet
              case rel => exact ⟨uo, k, uc, bs, some W2.heap.size, none, _, [], false, rfl, after_H ab2 (by omega) (by omega) hh hbk2⟩
      · go_wp2
        have ab := ab_start w true (.slice none 0 0)
        generalize ((w.alloc (.cells #[.map none, .map none, .map none, .map none, .int .u32 0, .bool false] 34)).alloc (.cells #[.pointer none, .int .u64 0, .int .i64 0, .pointer none, .bool true, .slice none 0 0] 41)) = W at *
        have hsz := ab.sz
        have hl0 : w.heap.size < W.heap.size := by omega
        have d3 := (((Below.refl _ W).alloc (Nat.le_refl _) (.map #[{ key := .int .u16 id, val := .agg #[.pointer none, .int .u64 0, .int .i64 0, .pointer none, .bool true, .slice none 0 0], born := 0 }] 1)).cell (p := ⟨w.heap.size, 3, none⟩) hl0).trans ab.d3
        have z3 := (((Below.refl _ W).alloc (Nat.le_refl _) (.map #[{ key := .int .u16 id, val := .agg #[.pointer none, .int .u64 0, .int .i64 0, .pointer none, .bool true, .slice none 0 0], born := 0 }] 1)).frozen (p := ⟨w.heap.size, 3, none⟩) hl0).trans ab.z3
        have hin := fun X => ins_newD X id (sv true (.slice none 0 0))
        dsimp only [sv] at hin
        go_region_held3 (fun w' => w'.cell? ⟨w.heap.size + 1, 0, none⟩ = some (.pointer none) ∧ w'.cell? ⟨w.heap.size + 1, 1, none⟩ = some (.int .u64 0) ∧ w'.cell? ⟨w.heap.size + 1, 2, none⟩ = some (.int .i64 0) ∧ w'.cell? ⟨w.heap.size + 1, 3, none⟩ = some (.pointer none) ∧ w'.cell? ⟨w.heap.size + 1, 4, none⟩ = some (.bool true) ∧ w'.cell? ⟨w.heap.size + 1, 5, none⟩ = some (.slice none 0 0)) (first | exact Two.six (ab.two.turn (ex := []) ((Turn.refl [] W).drew) (by simp) (by simp)) | exact Two.six (ab.two.turn (ex := []) (((Turn.refl [] W).alloc _).drew) (by simp) (by simp)) | exact Two.six (ab.two.turn (ex := [w.heap.size]) (((Turn.refl _ W).setCell (by simp) _).alloc _).drew (by simp) (by simp)))
          (fail)
        go_wp2
        go_meet
        case rel => exact ⟨none, 0, 0, [], none, some W.heap.size, [], _, true, rfl, after_W ab⟩
    case rest =>
      obtain ⟨po, pn, pc, hs, m2, m3, es2, es3, bp, rfl, hA⟩ := hcut
      have hkind := hA.1
      have hpn := hA.2.2.2.2.2.1
      have hB := base_of hA
      clear hA
      have HK : Hid (Kind s3 id m3 es2 es3 bp po pn pc) := hkind
      clear hkind
      go_upto_region 22 with fail
      replace hB := hB.step (ex := []) ((Turn.refl [] wc).alloc (.cells #[.pointer (some ⟨w.heap.size, 0, none⟩), .int .u16 oth, .int .u16 0, .int .u32 0, .int .u32 0, .int .u32 0, .slice none 0 0, .int .u64 0, .int .i64 0, .pointer none, .bool false, .bool false] 46)) (by simp)
      generalize wc.alloc (.cells #[.pointer (some ⟨w.heap.size, 0, none⟩), .int .u16 oth, .int .u16 0, .int .u32 0, .int .u32 0, .int .u32 0, .slice none 0 0, .int .u64 0, .int .i64 0, .pointer none, .bool false, .bool false] 46) = W1 at *
      generalize wc.heap.size = OS at *
      have c2 := hB.dom.c2
      have z2 := hB.dom.z2
      have hel := fun W => run_eql_map_nil (P := Yba.prog) W 30 27 41 m2 Yba.underlying30
      go_upto_if 108 with fail
      go_cut [108] from 109 to 113 (fun b wx => ∃ r2 N, Base w wx N po pn pc hs (some r2) m3 es2 es3 bp)
      case first =>
        cases m2 with
        | none =>
          have hlt : w.heap.size < W1.heap.size := by have := hB.ds; have := hB.sz; omega
          go_wp2
          go_meet
          case rel => exact ⟨_, _, hB.hang⟩
        | some r2 =>
          go_wp2
          go_meet
          case rel => exact ⟨_, _, hB⟩
      case rest =>
        clear hB c2 z2 hel
        obtain ⟨r2, N, hB⟩ := hcut
        have hsz0 := hB.sz
        have hB3 := hB.step (ex := []) ((Turn.refl [] wc).alloc (.cells #[.pointer (some ⟨OS, 0, none⟩)] 42)) (by simp)
        have hoa : (wc.alloc (.cells #[.pointer (some ⟨OS, 0, none⟩)] 42)).cell? ⟨wc.heap.size, 0, none⟩ = some (.pointer (some ⟨OS, 0, none⟩)) := by simp
        obtain ⟨w4, hput, hm4, ht4⟩ := put_run (P := Yba.prog) (w := wc.alloc (.cells #[.pointer (some ⟨OS, 0, none⟩)] 42)) Yba.underlying30 Yba.underlying27 hB3.dom.i2 oth (sv false (.slice (some ⟨wc.heap.size, 0, none⟩) 1 1))
        have hB4 := hB3.put2 ht4 hm4
        have hoa4 : w4.cell? ⟨wc.heap.size, 0, none⟩ = some (.pointer (some ⟨OS, 0, none⟩)) := (ht4.cell (by simp) (by simpa using ne_map hB3.dom.i2 hoa)).trans hoa
        have hOA : wc.heap.size < w4.heap.size := lt_of_cell hoa4
        replace hB4 := hB4.raise (N' := w4.heap.size) hB4.sz (Nat.le_refl _)
        have c2 := hB.dom.c2
        have hlt : w.heap.size < wc.heap.size := by have := hB.ds; omega
        dsimp only [sv] at hput
        clear hB hB3 hoa hm4 ht4 hsz0
        obtain ⟨U, hU⟩ : ∃ U : Nat, pu % 5 = (U : Int) := ⟨(pu % 5).toNat, by omega⟩
        have hU4 : U ≤ 4 := by omega
        obtain ⟨i0, hi0, hz0, hz1, hz2⟩ := info_parts info42
        go_wp2_with fail
        clear hput c2 hlt
        have HU : Hid (pu % 5 = (U : Int)) := hU
        clear hU
        have hB5 := hB4.step (ex := []) ((Turn.refl [] w4).alloc (.cells #[.slice none 0 0, .slice none 0 0, .slice none 0 0, .slice none 0 0, .slice none 0 0, .slice none 0 0, .slice none 0 0, .slice none 0 0, .slice none 0 0, .int .i64 0, .int .i64 0, .int .i64 0, .slice none 0 0, .int .i64 0] 56)) (by simp)
        have hS5 : Sc (w4.alloc (.cells #[.slice none 0 0, .slice none 0 0, .slice none 0 0, .slice none 0 0, .slice none 0 0, .slice none 0 0, .slice none 0 0, .slice none 0 0, .slice none 0 0, .int .i64 0, .int .i64 0, .int .i64 0, .slice none 0 0, .int .i64 0] 56)) w4.heap.size (w4.heap.size + 1) none 0 0 [] := ⟨by simp, by simp, by simp, by simp, World.ownsRow_nil _ _ _ _⟩
        have hoa5 : (w4.alloc (.cells #[.slice none 0 0, .slice none 0 0, .slice none 0 0, .slice none 0 0, .slice none 0 0, .slice none 0 0, .slice none 0 0, .slice none 0 0, .slice none 0 0, .int .i64 0, .int .i64 0, .int .i64 0, .slice none 0 0, .int .i64 0] 56)).cell? ⟨wc.heap.size, 0, none⟩ = some (.pointer (some ⟨OS, 0, none⟩)) := (((Below.refl _ w4).alloc (Nat.le_refl _) _).cell (p := ⟨wc.heap.size, 0, none⟩) hOA).trans hoa4
        have hCsz : w4.heap.size < (w4.alloc (.cells #[.slice none 0 0, .slice none 0 0, .slice none 0 0, .slice none 0 0, .slice none 0 0, .slice none 0 0, .slice none 0 0, .slice none 0 0, .slice none 0 0, .int .i64 0, .int .i64 0, .int .i64 0, .slice none 0 0, .int .i64 0] 56)).heap.size := by simp
        clear hB4 hoa4
        generalize w4.alloc (.cells #[.slice none 0 0, .slice none 0 0, .slice none 0 0, .slice none 0 0, .slice none 0 0, .slice none 0 0, .slice none 0 0, .slice none 0 0, .slice none 0 0, .int .i64 0, .int .i64 0, .int .i64 0, .slice none 0 0, .int .i64 0] 56) = W5 at *
        generalize w4.heap.size = C at *
        generalize wc.heap.size = OA at *
        go_loopw [26] (fun i wr => ∃ (k : Nat) (uo : Option Addr) (uc : Nat) (us : List Nat), k ≤ U ∧ i = .int .i64 k ∧ us.length = k ∧ Base w wr C po pn pc hs (some r2) m3 (put es2 oth (sv false (.slice (some ⟨OA, 0, none⟩) 1 1))) es3 bp ∧ Sc wr C (C + 1) uo k uc us ∧ wr.cell? ⟨OA, 0, none⟩ = some (.pointer (some ⟨OS, 0, none⟩))) (fun i _ => U - (intOf i).toNat)
        case atStart => exact ⟨0, none, 0, [], by omega, rfl, rfl, hB5, hS5, hoa5⟩
        case round =>
          obtain ⟨k, uo, uc, us, hk, rfl, hus, hBr, hSr, hor⟩ := hrel
          clear hB5 hS5 hoa5
          by_cases hlt : k < U
          · have HUS : Hid (us.length = k) := hus
            clear hus
            have c5 := hSr.c5
            have hlC : C < wr.heap.size := lt_of_cell hSr.u3
            go_wp2_with (at_builtin; refine wpList_append_lies _ rfl (.tmp 137) (.tmp 140) 35 rfl (C + 1) 42 i0 (.pointer none) 1 8 Yba.underlying35 hi0 hz0 hz1 hz2 rfl (by decide) (.slice uo k uc) k (ptrs us) rfl ((hSr.own.alloc _).alloc _) ⟨wr.heap.size + 1, 0, none⟩ 1 1 [.pointer (some ⟨wr.heap.size, 0, none⟩)] rfl rfl ?c1 ?c2 (by omega) (by unfold maxLen; omega) (by omega) ?c3 (wr.heap.size + 1 + 1) ?c4 ?_)
            case c1 =>
              intro j u hj
              match j, hj with
              | 0, hj => simp at hj; subst hj; rw [Addr.add_lit]; go_simp
              | j + 1, hj => simp at hj
            case c2 => intro u hu; simp at hu; subst hu; rfl
            case c3 => simp; omega
            case c4 => simp
            intro g cap w1 hown1 hgrow _ _
            obtain ⟨q5, z5, hS1, ht1⟩ := hSr.push _ _ hgrow (by omega) hown1
            have hB1 := hBr.step ht1 (fun q hq => by
              rcases List.mem_cons.1 hq with h1 | h1
              · omega
              · have := (own_base hSr.own q h1).1
                omega)
            have ho1 := (ht1.cell (lt_of_cell hor) (fun hm => by
              rcases List.mem_cons.1 hm with h1 | h1
              · simp at h1; omega
              · have := (own_base hSr.own _ h1).1
                simp at this; omega)).trans hor
            clear hown1 hgrow hBr hSr hor c5 ht1
            go_wp2
            go_roundw
            case rel => exact ⟨k + 1, some ⟨g, 0, none⟩, cap, us ++ [wr.heap.size], by omega, by go_num, by simp [HUS.out], hB1, hS1, ho1⟩
            case measure => simp [intOf]; omega
          · obtain rfl : k = U := by omega
            have HUS : Hid (us.length = k) := hus
            clear hus hlt hk hCsz
            go_wp2_with (at_make; refine wpList_make_full _ rfl _ _ 35 rfl wr.heap.size 42 i0 (.pointer none) 1 Yba.underlying35 hi0 hz0 hz1 .i64 .i64 _ _ k rfl rfl rfl rfl (by rw [hz2]; omega) (by unfold maxLen; omega) (Nat.le_refl _) ?_)
            intro w6 hown6 hgrow6
            have t6 : Turn [] wr w6 := (Turn.refl [] wr).grown hgrow6 (by simp)
            have hB6 := hBr.step t6 (by simp)
            have hS6 := hSr.step t6 (by simp) (by simp)
            have ho6 := (t6.cell (lt_of_cell hor) (by simp)).trans hor
            have hPA : C + 1 ≤ wr.heap.size ∧ (∀ q ∈ blk uo, q < wr.heap.size) ∧ OA < wr.heap.size := ⟨lt_of_cell hSr.u3, fun q hq => (own_base hSr.own q hq).2, lt_of_cell hor⟩
            have hlen6 := hown6.1
            clear hBr hSr hor t6 hgrow6
            generalize (madeCells #[Value.pointer none] k).toList = ys0 at hown6 hlen6
            generalize wr.heap.size = PA at *
            go_wp2
            go_loopw [28] (fun i wr => ∃ (j : Nat) (ys : List Value), j ≤ k ∧ i = .int .i64 j ∧ ys.length = k ∧ (∀ t, t < j → ys[t]? = (ptrs us)[t]?) ∧ wr.ownsRow PA 42 1 (.slice (some ⟨PA, 0, none⟩) k k) k ys ∧ Base w wr C po pn pc hs (some r2) m3 (put es2 oth (sv false (.slice (some ⟨OA, 0, none⟩) 1 1))) es3 bp ∧ Sc wr C (C + 1) uo k uc us ∧ wr.cell? ⟨OA, 0, none⟩ = some (.pointer (some ⟨OS, 0, none⟩))) (fun i _ => k - (intOf i).toNat)
            case atStart => exact ⟨0, ys0, by omega, rfl, by simpa using hlen6, by omega, hown6, hB6, hS6, ho6⟩
            case round =>
              obtain ⟨j, ys, hj, rfl, hys, heq, hown, hBr, hSr, hor⟩ := hrel
              clear hown6 hlen6 hB6 hS6 ho6
              by_cases hlt : j < k
              · obtain ⟨g, hg⟩ := own_some hSr.own (by omega)
                have hjl : j < us.length := by have := HUS.out; omega
                have x1 : wr.cell? ⟨g, j, none⟩ = some (.pointer (some ⟨us[j], 0, none⟩)) := by
                  have := hSr.own
                  rw [hg] at this
                  rw [this.cellAt j (by omega), ptrs_at us j hjl]
                have x2 : wr.cell? ⟨PA, j, none⟩ = some (ys[j]'(by omega)) := by rw [hown.cellAt j (by omega), List.getElem?_eq_getElem]
                have x3 := hown.frozenAt j
                have c5 := hSr.c5
                rw [hg] at c5
                have tP : ∀ u, Turn [PA] wr (wr.setCell ⟨PA, j, none⟩ u) := fun u => (Turn.refl [PA] wr).setCell (by simp) _
                have hB7 := hBr.step (tP (.pointer (some ⟨us[j], 0, none⟩))) (by simp; omega)
                have hS7 := hSr.step (tP (.pointer (some ⟨us[j], 0, none⟩))) (by simp; omega) (fun q hq => by have := hPA.2.1 q hq; simp; omega)
                have ho7 := ((tP (.pointer (some ⟨us[j], 0, none⟩))).cell (p := ⟨OA, 0, none⟩) (lt_of_cell hor) (by simp; omega)).trans hor
                have hown7 := (hown.stored j (.pointer (some ⟨us[j], 0, none⟩))).1
                have heq7 : ∀ t, t < j + 1 → (ys.set j (.pointer (some ⟨us[j], 0, none⟩)))[t]? = (ptrs us)[t]? := fun t ht => by
                  by_cases htj : t = j
                  · rw [htj, ptrs_at us j hjl, List.getElem?_set_self (by omega)]
                  · rw [List.getElem?_set_ne (Ne.symm htj)]; exact heq t (by omega)
                generalize us[j] = b at *
                clear hBr hSr hor hown heq tP hg
                go_wp2
                go_roundw
                case rel => exact ⟨j + 1, _, by omega, by go_num, by simp [hys], heq7, hown7, hB7, hS7, ho7⟩
                case measure => simp [intOf]; omega
              · obtain rfl : j = k := by omega
                have hysu : ys = ptrs us := List.ext_getElem? (fun t => by
                  rcases Nat.lt_or_ge t j with h1 | h1
                  · exact heq t h1
                  · rw [List.getElem?_eq_none (by omega), List.getElem?_eq_none (by rw [ptrs_length, HUS.out]; exact h1)])
                rw [hysu] at hown
                clear hysu heq hys hlt hj
                have hinS := fun X => insS_new X (.pointer (some ⟨w.heap.size, 0, none⟩))
                go_wp2_with fail
                refine (drop_law (oth := oth) (s3 := s3) (kept := kept) (pre := pre) (wd := wd) hBr hSr hor hown hOA hPA.1 hPA.2.1 hU4 HK.out hpn hoi).mono ?_
                rintro e w7 ⟨rfl, g, cap, q, uo', uc', es2', es3', hE, hl2, hl3, hlo⟩
                clear hBr hSr hor hown hinS HK
                generalize wr.heap.size + 1 = S at *
                generalize S + 1 = M at *
                generalize hkk : IntKind.i64.wrap (kept + ((if wd = true then 96 else 0) - if s3 = 0 then 0 else 96)) = kk at hE
                have HKK : Hid (IntKind.i64.wrap (kept + ((if wd = true then 96 else 0) - if s3 = 0 then 0 else 96)) = kk) := hkk
                clear hkk
                have q12 := hE.m12
                have q19 := hE.s19
                have q5 := hE.c5
                go_wp2_with fail
                clear q12 q19 q5
                go_loopw [32] (fun i W => ∃ k : Nat, k ≤ j ∧ i = .int .i64 k ∧ EndW w W S C M PA OA OS id kk (IntKind.u64.wrap (pre + pn)) (C + 1) uo' uc' us hs (some r2) q es2' es3' bp po pn pc j g cap) (fun i _ => j - (intOf i).toNat)
                case atStart => exact ⟨0, by omega, rfl, hE⟩
                case round =>
                  replace hE := hrel
                  obtain ⟨k, hk, rfl, hE⟩ := hE
                  clear hrel
                  by_cases hlt : k < j
                  · obtain ⟨hb, b, rfl, x1, x2⟩ := hE.un HUS.out k hlt
                    have q19 := hE.s19
                    have q5 := hE.c5
                    have y1 : (k : Int) < (j : Int) := by omega
                    have y2 : (k : Int) < (j : Int) + (pn : Int) := by omega
                    have hne := neq_same
                    go_wp2_with fail
                    go_quiet (fail)
                    have hE' := hE.turn (turn_drewN _ nq)
                    go_wp2
                    go_roundw
                    case rel => exact ⟨k + 1, by omega, by go_num, hE'⟩
                    case measure => simp [intOf]; omega
                  · obtain rfl : j = k := by omega
                    clear hlt hk
                    go_wp2_with fail
                    go_loopw [33] (fun i W => ∃ t : Nat, t ≤ pn ∧ i = .int .i64 t ∧ EndW w W S C M PA OA OS id kk (IntKind.u64.wrap (pre + pn)) (C + 1) uo' uc' us hs (some r2) q es2' es3' bp po pn pc j g cap) (fun i _ => pn - (intOf i).toNat)
                    case atStart => exact ⟨0, by omega, rfl, hE⟩
                    case round =>
                      clear hE
                      obtain ⟨t, ht, rfl, hE⟩ := hrel
                      by_cases hlt : t < pn
                      · obtain ⟨hb, ad, b, rfl, rfl, x1, x2⟩ := hE.hl HUS.out t hlt
                        have q19 := hE.s19
                        have q5 := hE.c5
                        have y1 : (t : Int) < (pn : Int) := by omega
                        have y2 : IntKind.i64.wrap ((j : Int) + (t : Int)) = ((j + t : Nat) : Int) := by rw [IntKind.wrap_i64]; omega
                        have y3 : (((j + t : Nat) : Int)) < (j : Int) + (pn : Int) := by omega
                        have hne := neq_same
                        go_wp2_with fail
                        go_quiet (fail)
                        have hE' := hE.turn (turn_drewN _ nq)
                        go_wp2
                        go_roundw
                        case rel => exact ⟨t + 1, by omega, by go_num, hE'⟩
                        case measure => simp [intOf]; omega
                      · obtain rfl : pn = t := by omega
                        clear hlt ht
                        have q19 := hE.s19
                        have q3 := hE.c3
                        have g0 : wr.cell? ⟨g, 0, none⟩ = some (.int .u16 id) := hE.gs 0 (by omega)
                        have g1 : wr.cell? ⟨g, 1, none⟩ = some (.pointer none) := hE.gs 1 (by omega)
                        have g2 : wr.cell? ⟨g, 2, none⟩ = some (.int .u64 0) := hE.gs 2 (by omega)
                        have g3 : wr.cell? ⟨g, 3, none⟩ = some (.int .i64 0) := hE.gs 3 (by omega)
                        have g4 : wr.cell? ⟨g, 4, none⟩ = some (.pointer none) := hE.gs 4 (by omega)
                        have g5 : wr.cell? ⟨g, 5, none⟩ = some (.bool bp) := hE.gs 5 (by omega)
                        have g6 : wr.cell? ⟨g, 6, none⟩ = some (.slice po pn pc) := hE.gs 6 (by omega)
                        have qv := hE.pv
                        have hvl : w.heap.size + 1 < wr.heap.size := lt_of_cell hE.pv
                        go_wp2_with fail
                        have hE6 := hE.turn ((Turn.refl [] wr).alloc (.cells #[.int .u16 id, .pointer none, .int .u64 0, .int .i64 0, .pointer none, .bool bp, .slice po pn pc] 74))
                        have hX : (wr.alloc (.cells #[.int .u16 id, .pointer none, .int .u64 0, .int .i64 0, .pointer none, .bool bp, .slice po pn pc] 74)).cell? ⟨wr.heap.size, 6, none⟩ = some (.slice po pn pc) := by go_simp
                        clear q19 q3 g0 g1 g2 g3 g4 g5 g6 qv hvl hE
                        generalize wr.alloc (.cells #[.int .u16 id, .pointer none, .int .u64 0, .int .i64 0, .pointer none, .bool bp, .slice po pn pc] 74) = W6 at *
                        generalize wr.heap.size = X at *
                        go_loopw [35] (fun i W => ∃ t : Nat, t ≤ pn ∧ i = .int .i64 t ∧ W.cell? ⟨X, 6, none⟩ = some (.slice po pn pc) ∧ EndW w W S C M PA OA OS id kk (IntKind.u64.wrap (pre + pn)) (C + 1) uo' uc' us hs (some r2) q es2' es3' bp po pn pc j g cap) (fun i _ => pn - (intOf i).toNat)
                        case atStart => exact ⟨0, by omega, rfl, hX, hE6⟩
                        case round =>
                          clear hE6 hX
                          obtain ⟨t, ht, rfl, hX, hE⟩ := hrel
                          by_cases hlt : t < pn
                          · obtain ⟨hb, ad, b, rfl, rfl, x1, x2⟩ := hE.hl HUS.out t hlt
                            have y1 : (t : Int) < (pn : Int) := by omega
                            have hne := neq_same
                            go_wp2_with fail
                            go_quiet (fail)
                            have hE' := hE.turn (turn_drewN _ nq)
                            go_wp2
                            go_roundw
                            case rel => exact ⟨t + 1, by omega, by go_num, hX, hE'⟩
                            case measure => simp [intOf]; omega
                          · obtain rfl : pn = t := by omega
                            clear hlt ht hX
                            go_wp2_with fail
                            go_loopw [36] (fun i W => ∃ t : Int, 0 ≤ t ∧ t ≤ 4 ∧ i = .int .i64 t ∧ EndW w W S C M PA OA OS id kk (IntKind.u64.wrap (pre + pn)) (C + 1) uo' uc' us hs (some r2) q es2' es3' bp po pn pc j g cap) (fun i _ => (4 - intOf i).toNat)
                            case atStart => exact ⟨0, by omega, by omega, rfl, hE⟩
                            case round =>
                              clear hE
                              obtain ⟨t, ht0, ht4, rfl, hE⟩ := hrel
                              by_cases hlt : t < 4
                              · have c0 := hE.dom.c0
                                have c1 := hE.dom.c1
                                have c2 := hE.dom.c2
                                have c3 := hE.dom.c3
                                have k0 := look_run (P := Yba.prog) (w := wr) Yba.underlying30 Yba.underlying27 (v := .map none) (es := []) (.inl ⟨rfl, rfl⟩) (zero41 wr) id
                                have k2 := look_run (P := Yba.prog) (w := wr) Yba.underlying30 Yba.underlying27 hE.dom.i2 (zero41 wr) id
                                have k3 := look_run (P := Yba.prog) (w := wr) Yba.underlying30 Yba.underlying27 hE.dom.i3 (zero41 wr) id
                                rw [show look [] id = none from rfl] at k0
                                rw [hl2] at k2
                                rw [hl3] at k3
                                simp only [Option.getD_none, Option.isSome_none, sv] at k0 k2
                                have hE7 := fun o => hE.turn ((Turn.refl [] wr).alloc o)
                                have HE : Hid (∀ o, EndW w (wr.alloc o) S C M PA OA OS id kk (IntKind.u64.wrap (pre + pn)) (C + 1) uo' uc' us hs (some r2) q es2' es3' bp po pn pc j g cap) := hE7
                                have HL3 : Hid (look es3' id = if wd = true then some (sv true (.slice none 0 0)) else none) := hl3
                                clear hE hE7 hl3 hl2 hlo
                                cases wd <;> simp only [if_true, if_false, Bool.false_eq_true, Option.getD_none, Option.isSome_none, Option.getD_some, Option.isSome_some, sv] at k3
                                all_goals
                                  obtain rfl | rfl | rfl | rfl : t = 0 ∨ t = 1 ∨ t = 2 ∨ t = 3 := by omega
                                all_goals
                                  go_wp2
                                  go_roundw
                                  case rel => first | exact ⟨1, by omega, by omega, rfl, HE.out _⟩ | exact ⟨2, by omega, by omega, rfl, HE.out _⟩ | exact ⟨3, by omega, by omega, rfl, HE.out _⟩ | exact ⟨4, by omega, by omega, rfl, HE.out _⟩
                                  case measure => simp [intOf]
                              · obtain rfl : t = 4 := by omega
                                clear hlt ht0 ht4
                                have c2 := hE.dom.c2
                                have k2 := look_run (P := Yba.prog) (w := wr) Yba.underlying30 Yba.underlying27 hE.dom.i2 (zero41 wr) oth
                                rw [hlo] at k2
                                simp only [Option.getD_some, Option.isSome_some, sv] at k2
                                have qo := hE.oa
                                have hOl : OA < wr.heap.size := lt_of_cell hE.oa
                                have hne := neq_same
                                have hSl : S < wr.heap.size := lt_of_cell hE.s7
                                have q7 := hE.s7
                                have t1 := hE.st 11 (by omega) (by omega)
                                have t2 := hE.st 12 (by omega) (by omega)
                                have t3 := hE.st 13 (by omega) (by omega)
                                have t4 := hE.st 14 (by omega) (by omega)
                                have t5 := hE.st 15 (by omega) (by omega)
                                have t6 := hE.st 16 (by omega) (by omega)
                                have t7 := hE.st 17 (by omega) (by omega)
                                have t8 := hE.st 18 (by omega) (by omega)
                                have hE8 := fun o => hE.turn ((Turn.refl [] wr).alloc o)
                                have HE : Hid (∀ o, EndW w (wr.alloc o) S C M PA OA OS id kk (IntKind.u64.wrap (pre + pn)) (C + 1) uo' uc' us hs (some r2) q es2' es3' bp po pn pc j g cap) := hE8
                                clear hE hE8 hl2 hl3 hlo
                                rw [kk_is HKK.out] at q7
                                have hst := stats_same
                                obtain rfl | hz : s3 = 0 ∨ s3 ≠ 0 := by omega
                                · cases wd
                                  · rw [kk_uf] at q7
                                    have hT := kept_same kept
                                    go_wp2_with fail
                                    all_goals
                                      go_ret
                                      exact ⟨rfl, (HE.out _).bel⟩
                                  · rw [kk_ut] at q7
                                    have hT := kept_same (kept + 96)
                                    go_wp2_with fail
                                    all_goals
                                      go_ret
                                      exact ⟨rfl, (HE.out _).bel⟩
                                · have hz' : (s3 != 0) = true := by simpa using hz
                                  cases wd
                                  · rw [kk_hf kept s3 hz] at q7
                                    have hT := kept_less kept
                                    go_wp2_with fail
                                    all_goals
                                      go_ret
                                      exact ⟨rfl, (HE.out _).bel⟩
                                  · rw [kk_ht kept s3 hz] at q7
                                    have hT := kept_both kept
                                    go_wp2_with fail
                                    all_goals
                                      go_ret
                                      exact ⟨rfl, (HE.out _).bel⟩

end Go.Proofs.Ybulkcbmo.D
