/-
  THE LAW's LAST LOOP, AS A DECLARATION OF ITS OWN: its body is taken out of the translation by a function.
-/
import Derived.Test.YbulkccjsDoorHEnd
import Derived.Handy
namespace Go.Proofs.YbulkccjsDoor.H
open Go.RowKit
set_option linter.unusedSimpArgs false
set_option linter.unusedVariables false

theorem turn_drewN {ex : List Nat} {a b : World} (h : Turn ex a b) (m : Nat) : Turn ex a (b.drewN m) := ⟨h.os, h.tape, h.output, h.size, h.block⟩
theorem own_some' {W : World} {base e size n c : Nat} {o : Option Addr} {xs : List Value} (h : W.ownsRow base e size (.slice o n c) n xs) (h0 : 0 < n) : ∃ g, o = some ⟨g, 0, none⟩ := by
  obtain ⟨h1, ⟨_, h⟩ | ⟨g, cap, cur, h2, h3, h4, h5⟩⟩ := h
  · omega
  · cases h2; exact ⟨g, rfl⟩

/-- The bodies of the loops, an outer one ahead of those within. -/
def loopsOf : Code → List Code
  | .loop c => c :: loopsOf c
  | .seq a b => loopsOf a ++ loopsOf b
  | .block _ c => loopsOf c
  | .cond _ a b => loopsOf a ++ loopsOf b
  | _ => []

/-- The body of the law's last loop. -/
noncomputable def lastBody : Code := ((Ybad.f3.body.map loopsOf).getD []).getD 3 .skip

set_option maxRecDepth 100000 in
set_option maxHeartbeats 40000000 in
theorem last_loop (o : Option Addr) (ad : Addr) (i c : Nat) (t : Int) (ar : Nat → Arg) (w V W2 : World) (CA SA OA LL RR : Nat) (d : Nat → Dat) (es : List Ent) (lo : Option Addr) (cl : Nat) (ro : Option Addr) (cr : Nat)
    (ho : 0 < i → o = some ad) (hn : i ≤ 256) (hA : ∀ j, j < i → ArgAt w ad j (ar j)) (hfit : ∀ j, j < i → Fit (d j)) (hI : Inv CA LL RR i t d W2 V i es lo cl ro cr) (hVB : Below w.heap.size w V)
    (hsaV : ∀ j, j < i → V.cell? ⟨SA, j, none⟩ = some (.pointer (some ⟨(d j).S, 0, none⟩))) (hoaV : ∀ j, j < i → V.cell? ⟨OA, j, none⟩ = some (reqOf (d j).R)) (hdz : ∀ j, j < i → (d j).zs = (ar j).zs ∧ (d j).hs = (ar j).hs)
    {s2 s3 s4 s5 s9 s10 s11 s12 s13 s16 s18 s19 s20 s21 s22 s23 s24 s25 s26 s27 s28 s29 s30 s31 s32 s33 s34 s35 s36 s37 s38 s39 s40 s41 s42 s43 s44 s45 s46 s47 s48 s49 s50 s51 s52 s53 s54 s55 s56 s57 s58 s59 s60 s61 s62 s63 s64 s65 s66 s67 s68 s69 s70 s71 s72 s73 s74 s75 s76 s77 s78 s79 s80 s81 s82 s83 s84 s85 s86 s87 s88 s89 s90 s91 s92 s93 s94 s95 s96 s97 s98 s99 s100 s101 s102 s103 s104 s105 s106 s107 s108 s109 s110 s111 s112 s113 s114 s115 s116 s117 s118 s119 s120 s121 s122 s123 s124 s125 s126 s127 s128 s129 s130 s131 s132 s133 s136 s137 s138 s139 s140 s141 s142 s143 s144 s145 s146 s147 s148 s149 s150 s151 s152 s153 s154 s155 s156 s157 s158 s159 s160 s161 s162 s163 s164 s165 s166 s167 s168 s169 s170 s171 s172 s173 s174 s175 s176 s177 s178 s179 s180 s181 s182 s183 s184 s185 s186 s187 s188 s189 s190 s191 s192 s193 s194 s195 s196 s197 s198 s199 s200 s201 s202 s203 s204 s205 s206 s207 s208 s209 s210 s211 s212 s213 s214 s215 s216 s217 s218 s219 s220 s221 s222 s223 s224 s225 s226 s227 s228 s229 s230 s231 s232 s233 s234 s235 s236 s237 s238 s239 s240 s241 s242 s243 s244 s245 s246 s247 s248 s249 s250 s251 s252 s253 s254 s255 s256 s257 s258 s259 s260 s261 s262 s263 s264 s265 s266 s267 s268 s269 s270 s271 s272 s273 s274 s275 s276 s277 s278 s279 s280 s281 s282 s283 s284 s285 s286 s287 s288 s289 s290 s291 s292 s293 s294 s295 s296 s297 s298 s299 s300 s301 s302 s303 s304 s305 s306 s307 s308 s309 s310 s311 s312 s313 s314 s315 s316 s317 s318 s319 s320 s321 s322 s323 s324 s325 : Value} (Q0 : Exit → Act → World → Prop)
    (hexit : ∀ (e4 e18 e19 e20 e21 e22 e23 e24 e25 e26 e27 e28 e29 e136 e137 e138 e139 e140 e141 e142 e143 e144 e145 e146 e147 e148 e149 e150 e151 e152 e153 e154 e155 e156 e157 e158 e159 e160 e161 e162 e163 e164 e165 e166 e167 e168 e169 e170 e171 e172 e173 e174 e175 e176 e177 e178 e179 e180 e181 e182 e183 e184 e185 e186 e187 e188 e189 e190 e191 e192 e193 e194 e195 e196 e197 e198 e199 e200 e201 e202 e203 e204 e205 e206 e207 e208 e209 e210 e211 e212 e213 e214 e215 e216 e217 e218 e219 e220 e221 e222 e223 e224 e225 e226 e227 e228 e229 e230 e231 e232 e233 e234 e235 e236 e237 e238 e239 e240 e241 e242 e243 e244 e245 e246 e247 e248 e249 e250 e251 e252 e253 e254 e255 e256 e257 e258 e259 e260 e261 e262 e263 e264 e265 e266 e267 e268 e269 e270 e271 e272 e273 e274 e275 e276 e277 e278 e279 e280 e281 e282 e283 e284 e285 e286 e287 e288 e289 e290 e291 e292 e293 e294 e295 e296 e297 e298 e299 e300 e301 e302 e303 e304 e305 e306 e307 e308 e309 e310 e311 e312 e313 e314 e315 e316 e317 e318 e319 e320 e321 : Value) (X : World), Turn [] V X → Q0 (.exit 6) ⟨#[.slice o i c, .int .u8 t, s2, s3, e4, s5, .slice (some ⟨CA, 0, none⟩) i i, .slice (some ⟨SA, 0, none⟩) i i, .slice (some ⟨OA, 0, none⟩) i i, s9, s10, s11, s12, s13, .pointer (some ⟨LL, 0, none⟩), .pointer (some ⟨RR, 0, none⟩), s16, .int .i64 (cnt d i), e18, e19, e20, e21, e22, e23, e24, e25, e26, e27, e28, e29, s30, s31, s32, s33, s34, s35, s36, s37, s38, s39, s40, s41, s42, s43, s44, s45, s46, s47, s48, s49, s50, s51, s52, s53, s54, s55, s56, s57, s58, s59, s60, s61, s62, s63, s64, s65, s66, s67, s68, s69, s70, s71, s72, s73, s74, s75, s76, s77, s78, s79, s80, s81, s82, s83, s84, s85, s86, s87, s88, s89, s90, s91, s92, s93, s94, s95, s96, s97, s98, s99, s100, s101, s102, s103, s104, s105, s106, s107, s108, s109, s110, s111, s112, s113, s114, s115, s116, s117, s118, s119, s120, s121, s122, s123, s124, s125, s126, s127, s128, s129, s130, s131, s132, s133, .int .i64 i, .int .i64 i, e136, e137, e138, e139, e140, e141, e142, e143, e144, e145, e146, e147, e148, e149, e150, e151, e152, e153, e154, e155, e156, e157, e158, e159, e160, e161, e162, e163, e164, e165, e166, e167, e168, e169, e170, e171, e172, e173, e174, e175, e176, e177, e178, e179, e180, e181, e182, e183, e184, e185, e186, e187, e188, e189, e190, e191, e192, e193, e194, e195, e196, e197, e198, e199, e200, e201, e202, e203, e204, e205, e206, e207, e208, e209, e210, e211, e212, e213, e214, e215, e216, e217, e218, e219, e220, e221, e222, e223, e224, e225, e226, e227, e228, e229, e230, e231, e232, e233, e234, e235, e236, e237, e238, e239, e240, e241, e242, e243, e244, e245, e246, e247, e248, e249, e250, e251, e252, e253, e254, e255, e256, e257, e258, e259, e260, e261, e262, e263, e264, e265, e266, e267, e268, e269, e270, e271, e272, e273, e274, e275, e276, e277, e278, e279, e280, e281, e282, e283, e284, e285, e286, e287, e288, e289, e290, e291, e292, e293, e294, e295, e296, e297, e298, e299, e300, e301, e302, e303, e304, e305, e306, e307, e308, e309, e310, e311, e312, e313, e314, e315, e316, e317, e318, e319, e320, e321, s322, s323, s324, s325], []⟩ X) :
    Code.wp Ybad.prog (Code.loop lastBody) Q0 ⟨#[.slice o i c, .int .u8 t, s2, s3, s4, s5, .slice (some ⟨CA, 0, none⟩) i i, .slice (some ⟨SA, 0, none⟩) i i, .slice (some ⟨OA, 0, none⟩) i i, s9, s10, s11, s12, s13, .pointer (some ⟨LL, 0, none⟩), .pointer (some ⟨RR, 0, none⟩), s16, .int .i64 0, s18, s19, s20, s21, s22, s23, s24, s25, s26, s27, s28, s29, s30, s31, s32, s33, s34, s35, s36, s37, s38, s39, s40, s41, s42, s43, s44, s45, s46, s47, s48, s49, s50, s51, s52, s53, s54, s55, s56, s57, s58, s59, s60, s61, s62, s63, s64, s65, s66, s67, s68, s69, s70, s71, s72, s73, s74, s75, s76, s77, s78, s79, s80, s81, s82, s83, s84, s85, s86, s87, s88, s89, s90, s91, s92, s93, s94, s95, s96, s97, s98, s99, s100, s101, s102, s103, s104, s105, s106, s107, s108, s109, s110, s111, s112, s113, s114, s115, s116, s117, s118, s119, s120, s121, s122, s123, s124, s125, s126, s127, s128, s129, s130, s131, s132, s133, .int .i64 i, .int .i64 0, s136, s137, s138, s139, s140, s141, s142, s143, s144, s145, s146, s147, s148, s149, s150, s151, s152, s153, s154, s155, s156, s157, s158, s159, s160, s161, s162, s163, s164, s165, s166, s167, s168, s169, s170, s171, s172, s173, s174, s175, s176, s177, s178, s179, s180, s181, s182, s183, s184, s185, s186, s187, s188, s189, s190, s191, s192, s193, s194, s195, s196, s197, s198, s199, s200, s201, s202, s203, s204, s205, s206, s207, s208, s209, s210, s211, s212, s213, s214, s215, s216, s217, s218, s219, s220, s221, s222, s223, s224, s225, s226, s227, s228, s229, s230, s231, s232, s233, s234, s235, s236, s237, s238, s239, s240, s241, s242, s243, s244, s245, s246, s247, s248, s249, s250, s251, s252, s253, s254, s255, s256, s257, s258, s259, s260, s261, s262, s263, s264, s265, s266, s267, s268, s269, s270, s271, s272, s273, s274, s275, s276, s277, s278, s279, s280, s281, s282, s283, s284, s285, s286, s287, s288, s289, s290, s291, s292, s293, s294, s295, s296, s297, s298, s299, s300, s301, s302, s303, s304, s305, s306, s307, s308, s309, s310, s311, s312, s313, s314, s315, s316, s317, s318, s319, s320, s321, s322, s323, s324, s325], []⟩ V := by
          conv => arg 2; arg 1; whnf
          conv => arg 4; zeta
          go_loopw [135, 17] (fun x y X => ∃ a : Nat, a ≤ i ∧ x = .int .i64 a ∧ y = .int .i64 (cnt d a) ∧ Turn [] V X) (fun x _ _ => i - (intOf x).toNat)
          case atStart => exact ⟨0, by omega, rfl, rfl, Turn.refl _ _⟩
          case round =>
            obtain ⟨a, hai, rfl, rfl, hX⟩ := hrel
            obtain ⟨X, hXe⟩ : ∃ X, X = wr := ⟨_, rfl⟩
            subst hXe
            by_cases hlt : a < i
            · obtain rfl := ho (by omega)
              have y1 : (a : Int) < (i : Int) := by omega
              obtain ⟨v, g, m, cc, q, ls, hDn⟩ := hI.done a hlt
              have hF := hfit a hlt
              have hAa := hA a hlt
              have hsaA := hsaV a hlt
              have hoaA := hoaV a hlt
              obtain ⟨e1, e2⟩ := hdz a hlt
              obtain ⟨o1, ho1⟩ : ∃ o1, o1 = (ar a).o1 := ⟨_, rfl⟩
              obtain ⟨o2, ho2⟩ : ∃ o2, o2 = (ar a).o2 := ⟨_, rfl⟩
              obtain ⟨c1, hc1⟩ : ∃ c1, c1 = (ar a).c1 := ⟨_, rfl⟩
              obtain ⟨c2, hc2⟩ : ∃ c2, c2 = (ar a).c2 := ⟨_, rfl⟩
              have x1 := hAa.x1
              have x2 := hAa.x2
              have u1 := hAa.u1
              have u2 := hAa.u2
              rw [← e1, ← ho1, ← hc1] at x1
              rw [← e2, ← ho2, ← hc2] at x2
              rw [← e1, ← ho1] at u1
              rw [← e2, ← ho2] at u2
              clear e1 e2 ho1 ho2 hc1 hc2 hAa
              obtain ⟨D, hD⟩ : ∃ D, D = d a := ⟨_, rfl⟩
              rw [← hD] at x1 x2 u1 u2 hDn hF hsaA hoaA
              have HD : Hid (D = d a) := hD
              clear hD
              have hnz := hF.nz
              have hBX : ∀ {Y : World}, Turn [] V Y → Below w.heap.size w Y := fun ht => hVB.trans (ht.toBelow (by simp) hVB.size)
              have x1X := ((hBX hX).cell (lt_of_cell x1)).trans x1
              have s1X := (hDn.quiet hX).s1
              have saX := (hX.cell (lt_of_cell hsaA) (by simp)).trans hsaA
              go_wp2_with fail
              go_loopw [158, 21, 22] (fun x y zz Y => ∃ j : Nat, j ≤ D.zs.length ∧ x = .int .i64 j ∧ y = .int .i64 (hk D.hs (D.zs.take j)).length ∧ zz = .int .i64 (kp D.hs (D.zs.take j)).length ∧ Turn [] V Y) (fun x _ _ _ => D.zs.length - (intOf x).toNat)
              case atStart => exact ⟨0, by omega, rfl, rfl, rfl, hX⟩
              case round =>
                obtain ⟨j, hj, rfl, rfl, rfl, hY⟩ := hrel
                obtain ⟨Y, hYe⟩ : ∃ Y, Y = wr := ⟨_, rfl⟩
                subst hYe
                clear x1X s1X saX
                by_cases hjl : j < D.zs.length
                · have y2 : (j : Int) < (D.zs.length : Int) := by omega
                  obtain ⟨a1, z, rfl, hz1, hzc⟩ := u1.at j hjl
                  have hzY := ((hBX hY).cell (lt_of_cell hzc)).trans hzc
                  have tb : Turn [] V (Y.alloc (.cells #[.string ⟨#[]⟩, .string ⟨#[]⟩, .int .u16 0, .int .u16 z] 38)) := hY.alloc _
                  have x2Y := ((hBX hY).cell (lt_of_cell x2)).trans x2
                  have hx2l := lt_of_cell x2Y
                  have u2Y : U16 (Y.alloc (.cells #[.string ⟨#[]⟩, .string ⟨#[]⟩, .int .u16 0, .int .u16 z] 38)) o2 D.hs.length D.hs := u2.below (hBX tb)
                  have u1Y : U16 (Y.alloc (.cells #[.string ⟨#[]⟩, .string ⟨#[]⟩, .int .u16 0, .int .u16 z] 38)) (some a1) D.zs.length D.zs := u1.below (hBX tb)
                  have hwz : wf16 z := hF.wf z (List.mem_of_getElem? hz1)
                  have hzm : z ∈ D.zs := List.mem_of_getElem? hz1
                  have hkl := kp_le D.hs D.zs j
                  have hhl : (hk D.hs (D.zs.take j)).length ≤ D.zs.length := by have := hk_le D.hs (D.zs.take j); simp at this; omega
                  have hd6 := (hDn.quiet tb).a6
                  have hlook := fun (n : Nat) => held_look (hDn.quiet (turn_drewN tb n)).held (fun x hx => hF.wf x ((mem_hk _ _ _).1 hx).1) z hwz
                  unfold cid at hlook
                  have b0 : (Y.alloc (.cells #[.string ⟨#[]⟩, .string ⟨#[]⟩, .int .u16 0, .int .u16 z] 38)).cell? ⟨Y.heap.size, 0, none⟩ = some (.string ⟨#[]⟩) := by go_simp
                  have b1 : (Y.alloc (.cells #[.string ⟨#[]⟩, .string ⟨#[]⟩, .int .u16 0, .int .u16 z] 38)).cell? ⟨Y.heap.size, 1, none⟩ = some (.string ⟨#[]⟩) := by go_simp
                  have b2 : (Y.alloc (.cells #[.string ⟨#[]⟩, .string ⟨#[]⟩, .int .u16 0, .int .u16 z] 38)).cell? ⟨Y.heap.size, 2, none⟩ = some (.int .u16 0) := by go_simp
                  have b3 : (Y.alloc (.cells #[.string ⟨#[]⟩, .string ⟨#[]⟩, .int .u16 0, .int .u16 z] 38)).cell? ⟨Y.heap.size, 3, none⟩ = some (.int .u16 z) := by go_simp
                  by_cases hin : z ∈ D.hs
                  · have hmem : z ∈ hk D.hs D.zs := (mem_hk _ _ _).2 ⟨hzm, hin⟩
                    simp only [hmem, if_true, decide_true] at hlook
                    have hcall := contains_is o2 D.hs.length c2 D.hs z _ u2Y hF.nh true (by simp [hin] : true = decide (z ∈ D.hs))
                    have hidx := hk_first D.hs D.zs j z hz1 hin
                    have hkp' : kp D.hs (D.zs.take (j + 1)) = kp D.hs (D.zs.take j) := by rw [take_snoc hz1, kp_snoc, if_pos hin]
                    obtain ⟨R, hR⟩ : ∃ R : Nat, R = D.zs.idxOf z := ⟨_, rfl⟩
                    rw [← hR] at hidx
                    have hcal2 := index_is (some a1) D.zs.length c1 D.zs z _ u1Y hnz (R : Int) (by rw [hR, if_pos hzm] : (R : Int) = if z ∈ D.zs then (D.zs.idxOf z : Int) else -1)
                    have hcal3 := cause_sum z t
                    unfold caus at hlook
                    clear hR u1Y u2Y
                    by_cases hRj : R = j
                    · have hRb : ((R : Int) == (j : Int)) = true := by simp [hRj]
                      rw [if_pos hRj] at hidx
                      go_wp2_with (first | (go_at_call 10; with_reducible refine hcall.mono ?_; rintro e w5 ⟨rfl, rfl⟩; (try dsimp only)) | (go_at_call 11; with_reducible refine hcal2.mono ?_; rintro e w5 ⟨rfl, rfl⟩; (try dsimp only)))
                      generalize Y.alloc (.cells #[.string ⟨#[]⟩, .string ⟨#[]⟩, .int .u16 0, .int .u16 z] 38) = Y1 at *
                      go_quiet (fail)
                      go_wp2_with (go_at_call 12; with_reducible refine (hcal3 _).mono ?_; rintro e w5 ⟨rfl, rfl⟩; (try dsimp only))
                      go_roundw
                      case rel => exact ⟨j + 1, by omega, by go_num, by rw [hidx]; rfl, by rw [hkp'], turn_drewN tb _⟩
                      case measure => simp [intOf]; omega
                    · have hRb : ((R : Int) == (j : Int)) = false := by simp; omega
                      rw [if_neg hRj] at hidx
                      go_wp2_with (first | (go_at_call 10; with_reducible refine hcall.mono ?_; rintro e w5 ⟨rfl, rfl⟩; (try dsimp only)) | (go_at_call 11; with_reducible refine hcal2.mono ?_; rintro e w5 ⟨rfl, rfl⟩; (try dsimp only)))
                      generalize Y.alloc (.cells #[.string ⟨#[]⟩, .string ⟨#[]⟩, .int .u16 0, .int .u16 z] 38) = Y1 at *
                      go_quiet (fail)
                      go_wp2_with (go_at_call 12; with_reducible refine (hcal3 _).mono ?_; rintro e w5 ⟨rfl, rfl⟩; (try dsimp only))
                      go_roundw
                      case rel => exact ⟨j + 1, by omega, by go_num, by rw [hidx]; rfl, by rw [hkp'], turn_drewN tb _⟩
                      case measure => simp [intOf]; omega
                  · have hnm : z ∉ hk D.hs D.zs := fun h => hin ((mem_hk _ _ _).1 h).2
                    simp only [hnm, if_false, decide_false] at hlook
                    have hcall := contains_is o2 D.hs.length c2 D.hs z _ u2Y hF.nh false (by simp [hin] : false = decide (z ∈ D.hs))
                    have hidx : (hk D.hs (D.zs.take (j + 1))).length = (hk D.hs (D.zs.take j)).length := by rw [take_snoc hz1, hk_snoc, if_neg hin]
                    have hkp' : (kp D.hs (D.zs.take (j + 1))).length = (kp D.hs (D.zs.take j)).length + 1 := by rw [take_snoc hz1, kp_snoc, if_neg hin]; simp
                    go_wp2_with (go_at_call 10; with_reducible refine hcall.mono ?_; rintro e w5 ⟨rfl, rfl⟩; (try dsimp only))
                    generalize Y.alloc (.cells #[.string ⟨#[]⟩, .string ⟨#[]⟩, .int .u16 0, .int .u16 z] 38) = Y1 at *
                    go_quiet (fail)
                    go_wp2
                    go_roundw
                    case rel => exact ⟨j + 1, by omega, by go_num, by rw [hidx], by rw [hkp']; rfl, turn_drewN tb _⟩
                    case measure => simp [intOf]; omega
                · obtain rfl : j = D.zs.length := by omega
                  rw [List.take_length]
                  have hDY := hDn.quiet hY
                  have hlen := held_len hDY.held
                  have d6 := hDY.a6
                  have d5 := hDY.a5
                  have d4 := hDY.a4
                  have d3 := hDY.a3
                  have d1 := hDY.a1
                  have oaY := (hY.cell (lt_of_cell hoaA) (by simp)).trans hoaA
                  have hlm : ls.length = m := by have := hDn.list.1; rw [cidCells_length] at this; omega
                  have hkln := hk_le D.hs D.zs
                  clear hX hjl hj
                  rcases hDn.out with ⟨h0, hv, hq, hls⟩ | ⟨h0, hkp, hq, hls⟩ | ⟨h0, hkp, hls, Rq, hq, hes⟩
                  · subst hv hq hls
                    subst hlm
                    have hL : ((hk D.hs D.zs).length : Int) = 0 := by simp [h0]
                    have hnr := fun W => neq_req W D.R
                    have hnm := neq_map
                    unfold reqOf at hnr d5 oaY
                    have hcnt : cnt d (a + 1) = cnt d a := by simp [cnt, third, ← HD.out, h0]
                    have hEq := fun (W' : World) (ht : Turn [] V W') => equal_is g D.cb D.zs.length cc D.cc 0 0 D.zs W' (hDn.quiet ht).list (hDn.quiet ht).cells hnz hF.wf
                    go_wp2_with fail
                    go_quiet (fail)
                    have hY2 := turn_drewN hY nq
                    generalize Y.drewN nq = Y2 at hY2 ⊢
                    clear d1 d3 d4 d5 d6 oaY hlen
                    have d1 := (hDn.quiet hY2).a1
                    have d3 := (hDn.quiet hY2).a3
                    have d4 := (hDn.quiet hY2).a4
                    go_wp2_with fail
                    go_quiet ((go_at_call 13; refine Calls.quiet_of (hEq _ ?_); exact turn_drewN hY2 _))
                    go_wp2
                    go_roundw
                    case rel => exact ⟨a + 1, by omega, by go_num, by rw [hcnt], turn_drewN hY2 _⟩
                    case measure => simp [intOf]; omega
                  · subst hq hls
                    subst hlm
                    have hL : (((hk D.hs D.zs).length : Int) == 0) = false := by simp; exact h0
                    have hK : ((kp D.hs D.zs).length : Int) = 0 := by simp [hkp]
                    have hcnt : cnt d (a + 1) = cnt d a := by simp [cnt, third, ← HD.out, hkp]
                    have hEq := fun (W' : World) (ht : Turn [] V W') => equal_is g D.cb D.zs.length cc D.cc 0 0 D.zs W' (hDn.quiet ht).list (hDn.quiet ht).cells hnz hF.wf
                    go_wp2_with fail
                    go_quiet ((go_at_call 13; refine Calls.quiet_of (hEq _ ?_); exact turn_drewN hY _))
                    go_wp2
                    go_roundw
                    case rel => exact ⟨a + 1, by omega, by go_num, by rw [hcnt], turn_drewN hY _⟩
                    case measure => simp [intOf]; omega
                  · subst hq hls
                    subst hlm
                    have hL : (((hk D.hs D.zs).length : Int) == 0) = false := by simp; exact h0
                    have hK : (((kp D.hs D.zs).length : Int) == 0) = false := by simp; exact hkp
                    have hkl := kp_le D.hs D.zs D.zs.length
                    rw [List.take_length] at hkl
                    have hcnt : cnt d (a + 1) = cnt d a + 1 := by simp [cnt, third, ← HD.out, h0, hkp]
                    have hcl := cnt_le d a
                    have hix : cnt d a < es.length := (List.getElem?_eq_some_iff.1 hes).1
                    have rrY := (hY.cell (lt_of_cell hI.br) (by simp)).trans hI.br
                    have llY := (hY.cell (lt_of_cell hI.bl) (by simp)).trans hI.bl
                    obtain ⟨gl, hgl⟩ := own_some' hI.ol (by omega)
                    obtain ⟨gr, hgr⟩ := own_some' hI.or (by omega)
                    have hol := own_turn hI.ol hY (by simp)
                    have hor := own_turn hI.or hY (by simp)
                    rw [hgl] at llY hol
                    rw [hgr] at rrY hor
                    have k0 : Y.cell? ⟨gl, cnt d a * 2, none⟩ = some (.int .u8 0) := by rw [hol.cellAt _ (by omega)]; exact (xs_at es _ _ hes).1
                    have k1 : Y.cell? ⟨gl, cnt d a * 2 + 1, none⟩ = some (.slice (some ⟨g, 0, none⟩) (kp D.hs D.zs).length cc) := by rw [hol.cellAt _ (by omega)]; exact (xs_at es _ _ hes).2
                    have k2 : Y.cell? ⟨gr, cnt d a, none⟩ = some (reqOf Rq) := by rw [hor.cellAt _ (by omega)]; exact ys_at es _ _ hes
                    have hnr := fun W => neq_req W Rq
                    unfold reqOf at hnr d5 k2
                    have hge : ¬ ((es.length : Int) ≤ (cnt d a : Int)) := by omega
                    have hltI : ((cnt d a : Int)) < (es.length : Int) := by omega
                    have hesl : es.length ≤ 256 := by have := hI.len; have := cnt_le d i; omega
                    have hEq := fun (W' : World) (ht : Turn [] V W') => equal_is g g (kp D.hs D.zs).length cc cc 0 0 (kp D.hs D.zs) W' (hDn.quiet ht).list (hDn.quiet ht).list (by omega) (fun x hx => hF.wf x (List.mem_filter.1 hx).1)
                    go_wp2_with fail
                    go_quiet (fail)
                    have hY2 := turn_drewN hY nq
                    have l2 : (Y.drewN nq).cell? ⟨LL, 0, none⟩ = _ := llY
                    have k0' : (Y.drewN nq).cell? ⟨gl, cnt d a * 2, none⟩ = _ := k0
                    have k1' : (Y.drewN nq).cell? ⟨gl, cnt d a * 2 + 1, none⟩ = _ := k1
                    generalize Y.drewN nq = Y2 at hY2 l2 k0' k1' ⊢
                    clear d1 d3 d4 d5 d6 oaY hlen llY rrY k0 k1 k2 hol hor
                    have d1 := (hDn.quiet hY2).a1
                    have d3 := (hDn.quiet hY2).a3
                    have d4 := (hDn.quiet hY2).a4
                    go_wp2_with fail
                    go_quiet ((go_at_call 13; refine Calls.quiet_of (hEq _ ?_); exact turn_drewN hY2 _))
                    go_wp2
                    go_roundw
                    case rel => exact ⟨a + 1, by omega, by go_num, by rw [hcnt]; rfl, turn_drewN hY2 _⟩
                    case measure => simp [intOf]; omega
            · obtain rfl : a = i := by omega
              go_wp2
              first | exact hX | exact hexit _ _ _ _ _ _ _ _ _ _ _ _ _ _ _ _ _ _ _ _ _ _ _ _ _ _ _ _ _ _ _ _ _ _ _ _ _ _ _ _ _ _ _ _ _ _ _ _ _ _ _ _ _ _ _ _ _ _ _ _ _ _ _ _ _ _ _ _ _ _ _ _ _ _ _ _ _ _ _ _ _ _ _ _ _ _ _ _ _ _ _ _ _ _ _ _ _ _ _ _ _ _ _ _ _ _ _ _ _ _ _ _ _ _ _ _ _ _ _ _ _ _ _ _ _ _ _ _ _ _ _ _ _ _ _ _ _ _ _ _ _ _ _ _ _ _ _ _ _ _ _ _ _ _ _ _ _ _ _ _ _ _ _ _ _ _ _ _ _ _ _ _ _ _ _ _ _ _ _ _ _ _ _ _ _ _ _ _ _ _ _ _ _ _ _ _ _ _ _ _ hX
end Go.Proofs.YbulkccjsDoor.H
