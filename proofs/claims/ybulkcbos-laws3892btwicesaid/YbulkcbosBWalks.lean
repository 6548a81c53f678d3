import Derived.Test.YbulkcbosRows
import Derived.WalkKit
import Derived.WalkSpells
import Derived.WalkLawsBesides
import Derived.Laws.LoneSync
import Derived.Below
import Derived.OpenShut
namespace Go.Proofs.Ybulkcbos.BWalks
variable {P : Program} {f : Nat} {fn : Func}
/-- sync/atomic.SwapT: what the cell held is handed back; the new number is stored. -/
theorem run_call_swap (hf : P.funcs[f]? = some fn) (hname : (fn.name == "runtime.NumGoroutine") = false) (hb : fn.body.isNone = true) (hn : Extern.findNext fn = none) (k : IntKind)
    (he : Extern.find fn = some (Extern.Atomic.swapT (.int k))) {a : Addr} {x y : Int} {w : World} (hc : w.cell? a = some (.int k x)) (hz : w.frozen? a = false) :
    (callFunc f #[.pointer (some a), .int k y]).run P w = .ok (.value (.int k x)) (w.setCell a (.int k y)) := by
  rw [run_callFunc_extern hf hname hb hn he]
  change (Sem.run P (do
    let a' ← asAddr (.pointer (some a))
    let old ← Extern.Atomic.read (.int k) a'
    store a' (.int k y) .atomic
    pure old) w).andThen _ = _
  simp [Extern.Atomic.read, asAddr, hc, hz, run_store P w a (.int k y) .atomic rfl, Result.andThen]
end Go.Proofs.Ybulkcbos.BWalks
namespace Go.Proofs.Ybulkcbos.BWalks
open Go.RowKit

theorem store_any (b : Nat) (u : Value) (y : Int) (w : World) (hc : w.cell? ⟨b, 0, none⟩ = some u) (hz : w.frozen? ⟨b, 0, none⟩ = false) :
    Calls Yba.prog 5 #[.pointer (some ⟨b, 0, none⟩), .int .u64 y] w fun e w' => e = .returned (.tuple #[]) ∧ w' = w.setCell ⟨b, 0, none⟩ (.int .u64 y) := by
  have hs := run_call_store (P := Yba.prog) Yba.func11 (by kernel_rfl) (by kernel_rfl) (by kernel_rfl) (by kernel_rfl) (k := .u64) (y := y) hc hz
  go_enter Yba.func5, Yba.ntmps5
  go_wp2
  go_end0
  exact ⟨rfl, rfl⟩

theorem load_any (b : Nat) (x : Int) (w : World) (hc : w.cell? ⟨b, 0, none⟩ = some (.int .u64 x)) :
    Calls Yba.prog 9 #[.pointer (some ⟨b, 0, none⟩)] w fun e w' => e = .returned (.int .u64 x) ∧ w' = w := by
  have hs := run_call_load (P := Yba.prog) Yba.func14 (by kernel_rfl) (by kernel_rfl) (by kernel_rfl) .u64 (by kernel_rfl) hc
  go_enter Yba.func9, Yba.ntmps9
  go_wp2
  go_ret
  exact ⟨rfl, rfl⟩

theorem swap_any (b : Nat) (x y : Int) (w : World) (hc : w.cell? ⟨b, 0, none⟩ = some (.int .u64 x)) (hz : w.frozen? ⟨b, 0, none⟩ = false) :
    Calls Yba.prog 12 #[.pointer (some ⟨b, 0, none⟩), .int .u64 y] w fun e w' => e = .returned (.int .u64 x) ∧ w' = w.setCell ⟨b, 0, none⟩ (.int .u64 y) := by
  have hs := run_call_swap (P := Yba.prog) Yba.func15 (by kernel_rfl) (by kernel_rfl) (by kernel_rfl) .u64 (by kernel_rfl) (y := y) hc hz
  go_enter Yba.func12, Yba.ntmps12
  go_wp2
  go_ret
  exact ⟨rfl, rfl⟩

theorem slice_any (s : Int) (w : World) :
    Calls Yba.prog 13 #[.int .i64 s] w fun e w' => e = .returned (.int .u64 (s % 4294967296 * 4294967296)) ∧ w' = w := by
  go_enter Yba.func13, Yba.ntmps13
  go_wp2
  go_ret
  exact ⟨rfl, rfl⟩

theorem outcome_any (x : Int) (w : World) (hx : 0 ≤ x ∧ x ≤ 255) :
    Calls Yba.prog 6 #[.int .u8 x] w fun e w' => ∃ o : ByteArray, e = .returned (.string o) ∧ w' = w := by
  go_enter Yba.func6, Yba.ntmps6
  go_wp2
  all_goals
    go_ret
    exact ⟨_, rfl, rfl⟩

/-- The closure of LawS3892BTwice: one more call is counted. -/
theorem count_any (C : Nat) (s n c : Int) (o : ByteArray) (w : World) (hc : w.cell? ⟨C, 0, none⟩ = some (.int .i64 c)) (hz : w.frozen? ⟨C, 0, none⟩ = false) (hb : 0 ≤ c ∧ c ≤ 100) :
    Calls Yba.prog 10 #[.int .i64 s, .string o, .int .u64 n, .pointer (some ⟨C, 0, none⟩)] w fun e w' => e = .returned (.tuple #[]) ∧ w' = w.setCell ⟨C, 0, none⟩ (.int .i64 (c + 1)) := by
  go_enter Yba.func10, Yba.ntmps10
  go_wp2
  go_end0
  exact ⟨rfl, rfl⟩

/-- take where the word's count is 0: the word is turned, nothing else. -/
theorem take_zero (T B : Nat) (s sl x : Int) (o : ByteArray) (fv : Value) (w : World) (hx : x % 4294967296 = 0)
    (c4 : w.cell? ⟨T, 4, none⟩ = some (.int .i64 s)) (cw : w.cell? ⟨B, 0, none⟩ = some (.int .u64 x)) (zw : w.frozen? ⟨B, 0, none⟩ = false) :
    Calls Yba.prog 8 #[.pointer (some ⟨T, 0, none⟩), .pointer (some ⟨B, 0, none⟩), .string o, .int .i64 sl, fv] w fun e w' => e = .returned (.tuple #[]) ∧ w' = w.setCell ⟨B, 0, none⟩ (.int .u64 (s % 4294967296 * 4294967296)) := by
  go_enter Yba.func8, Yba.ntmps8
  go_wp2_with (first | (go_at_call 13; refine (slice_any _ _).mono ?_; rintro e w' ⟨rfl, rfl⟩) | (go_at_call 12; refine (swap_any _ x _ _ cw zw).mono ?_; rintro e w' ⟨rfl, rfl⟩))
  go_end0
  exact ⟨rfl, rfl⟩

/-- take where the word's count is not 0, put the closure of LawS3892BTwice. -/
theorem take_count (T B F : Nat) (s sl x d n c : Int) (o : ByteArray) (w : World) (hn : x % 4294967296 = n) (hn0 : 0 < n)
    (c4 : w.cell? ⟨T, 4, none⟩ = some (.int .i64 s)) (c5 : w.cell? ⟨T, 5, none⟩ = some (.int .u64 d)) (z5 : w.frozen? ⟨T, 5, none⟩ = false) (_hTB : ¬ T = B) (_hTF : ¬ F = T) (_hBF : ¬ F = B)
    (cw : w.cell? ⟨B, 0, none⟩ = some (.int .u64 x)) (zw : w.frozen? ⟨B, 0, none⟩ = false)
    (cf : w.cell? ⟨F, 0, none⟩ = some (.int .i64 c)) (zf : w.frozen? ⟨F, 0, none⟩ = false) (hc : 0 ≤ c ∧ c ≤ 100) :
    Calls Yba.prog 8 #[.pointer (some ⟨T, 0, none⟩), .pointer (some ⟨B, 0, none⟩), .string o, .int .i64 sl, .func (.func 10) #[] #[.pointer (some ⟨F, 0, none⟩)]] w fun e w' => e = .returned (.tuple #[]) ∧
      w' = ((w.setCell ⟨B, 0, none⟩ (.int .u64 (s % 4294967296 * 4294967296))).setCell ⟨T, 5, none⟩ (.int .u64 (IntKind.u64.wrap (d + n)))).setCell ⟨F, 0, none⟩ (.int .i64 (c + 1)) := by
  go_enter Yba.func8, Yba.ntmps8
  go_wp2_with (first | (go_at_call 13; refine (slice_any _ _).mono ?_; rintro e w' ⟨rfl, rfl⟩) | (go_at_call 12; refine (swap_any _ x _ _ cw zw).mono ?_; rintro e w' ⟨rfl, rfl⟩))
  refine (count_any F _ _ c _ _ ?_ ?_ hc).mono ?_
  · rw [World.cell?_setCell_other _ _ _ _ (by simp), World.cell?_setCell_other _ _ _ _ (by simp)]; exact cf
  · simp [zf]
  rintro e w'' ⟨rfl, rfl⟩
  go_wp2
  go_end0
  exact ⟨rfl, rfl⟩

theorem info44 : (Yba.prog.info? 44).map (fun i => (i.zero, i.size, i.bytes)) = some (some (.agg #[.int .i64 0, .string ⟨#[]⟩, .int .u64 0]), 3, 32) := by kernel_rfl

theorem news_alloc (w : World) (l : List Value) (t : TypeId) : ∀ j u, l[j]? = some u → (w.alloc (.cells l.toArray t)).cell? (Addr.add ⟨w.heap.size, 0, none⟩ j) = some u := by
  intro j u h
  rw [Addr.add_lit, Nat.zero_add]
  have e : (w.alloc (.cells l.toArray t)).heap[w.heap.size]? = some (.cells l.toArray t) := (MapKept.heap_alloc w _).1
  simp only [World.cell?, e]
  simpa using h

/-- The closure of LawS3892BTake, at an empty log. -/
theorem log_any (F : Nat) (s n : Int) (o : ByteArray) (w : World) (hF : F < w.heap.size) (hc : w.cell? ⟨F, 0, none⟩ = some (.slice none 0 0)) (hz : w.frozen? ⟨F, 0, none⟩ = false) :
    Calls Yba.prog 7 #[.int .i64 s, .string o, .int .u64 n, .pointer (some ⟨F, 0, none⟩)] w fun e w' => e = .returned (.tuple #[]) ∧
      ∃ g cap, w'.cell? ⟨F, 0, none⟩ = some (.slice (some ⟨g, 0, none⟩) 1 cap) ∧ w'.cell? ⟨g, 0, none⟩ = some (.int .i64 s) ∧ w'.cell? ⟨g, 1, none⟩ = some (.string o) ∧ w'.cell? ⟨g, 2, none⟩ = some (.int .u64 n) ∧
        (∀ b k, b < w.heap.size → ¬ b = F → w'.cell? ⟨b, k, none⟩ = w.cell? ⟨b, k, none⟩) ∧ Below F w w' := by
  obtain ⟨i0, hi, hz0, hz1, hz2⟩ := info_parts info44
  go_enter Yba.func7, Yba.ntmps7
  go_wp2_with (at_builtin; refine wpList_append_own _ rfl (.tmp 7) (.tmp 12) 42 rfl w.heap.size 44 i0 _ 3 32 Yba.underlying42 hi hz0 hz1 hz2 rfl (by decide) _ 0 [] rfl (World.ownsRow_nil _ _ _ _) ⟨w.heap.size, 0, none⟩ 1 1 [.int .i64 s, .string o, .int .u64 n] rfl rfl ?c1 ?c2 ?c3 ?c4 ?c5 ?_)
  case c1 => exact news_alloc _ _ _
  case c2 => intro u hu; simp at hu; rcases hu with rfl | rfl | rfl <;> rfl
  case c3 => unfold maxLen; omega
  case c4 => omega
  case c5 => simp
  intro v' w1 hown hgrow hne
  obtain ⟨g, cap, hv, hg⟩ : ∃ g cap, v' = .slice (some ⟨g, 0, none⟩) 1 cap ∧ w.heap.size ≤ g := by
    rcases hown.2 with ⟨h, _⟩ | ⟨g, cap, cur, h1, h2, _⟩
    · exact absurd h hne
    · exact ⟨g, cap, h1, h2⟩
  rw [hv] at hown ⊢
  have g0 : w1.cell? ⟨g, 0, none⟩ = some (.int .i64 s) := by rw [hown.cellAt 0 (by omega)]; rfl
  have g1 : w1.cell? ⟨g, 1, none⟩ = some (.string o) := by rw [hown.cellAt 1 (by omega)]; rfl
  have g2 : w1.cell? ⟨g, 2, none⟩ = some (.int .u64 n) := by rw [hown.cellAt 2 (by omega)]; rfl
  have hb : Below w.heap.size w w1 := ((Below.refl _ _).alloc (Nat.le_refl _) _).grown hgrow (by simp) (by simp [Value.ownBlock])
  have cF : w1.cell? ⟨F, 0, none⟩ = some (.slice none 0 0) := by rw [hb.cell hF]; exact hc
  have zF : w1.frozen? ⟨F, 0, none⟩ = false := by rw [hb.frozen hF]; exact hz
  clear hown hgrow hne hv hi hz0 hz1 hz2
  go_wp2
  go_end0
  refine ⟨rfl, g, cap, ?_, ?_, ?_, ?_, ?_, (hb.mono (Nat.le_of_lt hF)).setCell (Nat.le_refl _) _⟩
  · exact World.cell?_setCell_same _ _ _ cF
  · rw [World.cell?_setCell_other _ _ _ _ (by simp)]; exact g0
  · rw [World.cell?_setCell_other _ _ _ _ (by simp)]; exact g1
  · rw [World.cell?_setCell_other _ _ _ _ (by simp)]; exact g2
  · intro b k hbs hne
    rw [World.cell?_setCell_other _ _ _ _ (by simp)]; exact hb.cell hbs

/-- take where the word's count is not 0, put the closure of LawS3892BTake. -/
theorem take_log (H T B F : Nat) (s sl x d n : Int) (o : ByteArray) (w : World) (hn : x % 4294967296 = n) (hn0 : 0 < n)
    (hT : H ≤ T) (hB : H ≤ B) (hF : H ≤ F) (hT1 : T < w.heap.size) (hB1 : B < w.heap.size) (hF1 : F < w.heap.size)
    (c4 : w.cell? ⟨T, 4, none⟩ = some (.int .i64 s)) (c5 : w.cell? ⟨T, 5, none⟩ = some (.int .u64 d)) (z5 : w.frozen? ⟨T, 5, none⟩ = false) (hTB : ¬ T = B) (hTF : ¬ F = T) (hBF : ¬ F = B)
    (cw : w.cell? ⟨B, 0, none⟩ = some (.int .u64 x)) (zw : w.frozen? ⟨B, 0, none⟩ = false)
    (cf : w.cell? ⟨F, 0, none⟩ = some (.slice none 0 0)) (zf : w.frozen? ⟨F, 0, none⟩ = false) :
    Calls Yba.prog 8 #[.pointer (some ⟨T, 0, none⟩), .pointer (some ⟨B, 0, none⟩), .string o, .int .i64 sl, .func (.func 7) #[] #[.pointer (some ⟨F, 0, none⟩)]] w fun e w' => e = .returned (.tuple #[]) ∧
      ∃ g cap, w'.cell? ⟨F, 0, none⟩ = some (.slice (some ⟨g, 0, none⟩) 1 cap) ∧ w'.cell? ⟨g, 0, none⟩ = some (.int .i64 sl) ∧ w'.cell? ⟨g, 1, none⟩ = some (.string o) ∧ w'.cell? ⟨g, 2, none⟩ = some (.int .u64 n) ∧
        w'.cell? ⟨B, 0, none⟩ = some (.int .u64 (s % 4294967296 * 4294967296)) ∧ w'.cell? ⟨T, 5, none⟩ = some (.int .u64 (IntKind.u64.wrap (d + n))) ∧ (∀ k, ¬ k = 5 → w'.cell? ⟨T, k, none⟩ = w.cell? ⟨T, k, none⟩) ∧ Below H w w' := by
  go_enter Yba.func8, Yba.ntmps8
  go_wp2_with (first | (go_at_call 13; refine (slice_any _ _).mono ?_; rintro e w' ⟨rfl, rfl⟩) | (go_at_call 12; refine (swap_any _ x _ _ cw zw).mono ?_; rintro e w' ⟨rfl, rfl⟩))
  refine (log_any F _ _ _ _ ?_ ?_ ?_).mono ?_
  · simpa using hF1
  · rw [World.cell?_setCell_other _ _ _ _ (by simp), World.cell?_setCell_other _ _ _ _ (by simp)]; exact cf
  · simp [zf]
  rintro e w3 ⟨rfl, g, cap, e1, e2, e3, e4, e5, e6⟩
  have eB := e5 B 0 (by simpa using hB1) (by omega)
  have eT := e5 T 5 (by simpa using hT1) (by omega)
  have eK : ∀ k, ¬ k = 5 → w3.cell? ⟨T, k, none⟩ = w'.cell? ⟨T, k, none⟩ := by
    intro k hk
    rw [e5 T k (by simpa using hT1) (by omega), World.cell?_setCell_other _ _ _ _ (by simp), World.cell?_setCell_other _ _ _ _ (by simp)]
  rw [World.cell?_setCell_other _ _ _ _ (by simp), World.cell?_setCell_same _ _ _ cw] at eB
  rw [World.cell?_setCell_same (u := .int .u64 d) _ _ _ (by rw [World.cell?_setCell_other _ _ _ _ (by simp)]; exact c5)] at eT
  have hb : Below H w' w3 := (((Below.refl H w').setCell hB _).setCell hT _).trans (e6.mono hF)
  clear e5 e6
  go_wp2
  go_end0
  exact ⟨rfl, g, cap, e1, e2, e3, e4, eB, eT, eK, hb⟩

end Go.Proofs.Ybulkcbos.BWalks
