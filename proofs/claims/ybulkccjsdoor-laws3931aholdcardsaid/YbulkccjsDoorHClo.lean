import Derived.Test.YbulkccjsDoorHAdd
namespace Go.Proofs.YbulkccjsDoor.H
open Go.RowKit
set_option linter.unusedSimpArgs false
set_option linter.unusedVariables false

theorem info44 : (Ybad.prog.info? 44).map (fun i => (i.zero, i.size, i.bytes)) = some (some (.agg #[.int .u8 0, .slice none 0 0]), 2, 32) := by kernel_rfl
theorem info52 : (Ybad.prog.info? 52).map (fun i => (i.zero, i.size, i.bytes)) = some (some .nilIface, 1, 16) := by kernel_rfl

/-- A request made by the closure. -/
def reqOf (R : Nat) : Value := .iface 39 (.pointer (some ⟨R, 0, none⟩))

set_option maxRecDepth 100000 in
set_option maxHeartbeats 4000000 in
theorem clo_is (LL RR base nl cl nr cr g m c : Nat) (lo ro : Option Addr) (xs ys : List Value) (w : World) (hbase : base ≤ w.heap.size)
    (e0 : w.cell? ⟨LL, 0, none⟩ = some (.slice lo nl cl)) (e1 : w.cell? ⟨RR, 0, none⟩ = some (.slice ro nr cr)) (hLR : LL ≠ RR) (zL : w.frozen? ⟨LL, 0, none⟩ = false) (zR : w.frozen? ⟨RR, 0, none⟩ = false)
    (hlo : w.ownsRow base 44 2 (.slice lo nl cl) nl xs) (hro : w.ownsRow base 52 1 (.slice ro nr cr) nr ys) (hL : LL < base) (hR : RR < base) (hnl : nl ≤ 1024) (hnr : nr ≤ 1024) (hd : ∀ k ∈ blk lo, k ∉ blk ro) :
    Calls Ybad.prog 8 #[.agg #[.int .u8 0, .slice (some ⟨g, 0, none⟩) m c], .pointer (some ⟨LL, 0, none⟩), .pointer (some ⟨RR, 0, none⟩)] w fun e w' => ∃ R, e = .returned (reqOf R) ∧ w.heap.size ≤ R ∧
      ∃ lo' cl' ro' cr', w'.cell? ⟨LL, 0, none⟩ = some (.slice lo' (nl + 1) cl') ∧ w'.cell? ⟨RR, 0, none⟩ = some (.slice ro' (nr + 1) cr') ∧ w'.frozen? ⟨LL, 0, none⟩ = false ∧ w'.frozen? ⟨RR, 0, none⟩ = false ∧
        w'.ownsRow base 44 2 (.slice lo' (nl + 1) cl') (nl + 1) (xs ++ [.int .u8 0, .slice (some ⟨g, 0, none⟩) m c]) ∧ w'.ownsRow base 52 1 (.slice ro' (nr + 1) cr') (nr + 1) (ys ++ [reqOf R]) ∧ (∀ k ∈ blk lo', k ∉ blk ro') ∧
        (∀ k ∈ blk lo', k ∈ blk lo ∨ w.heap.size ≤ k) ∧ (∀ k ∈ blk ro', k ∈ blk ro ∨ w.heap.size ≤ k) ∧ Turn (LL :: RR :: (blk lo ++ blk ro)) w w' := by
  obtain ⟨i0, hi0, hz0, hz1, hz2⟩ := info_parts info44
  obtain ⟨j0, hj0, hy0, hy1, hy2⟩ := info_parts info52
  have hLl := lt_of_cell e0
  have hRl := lt_of_cell e1
  have t1 : Turn [] w (((w.alloc (.cells #[.int .u8 0, .slice (some ⟨g, 0, none⟩) m c] 44)).alloc (.cells #[.int .u16 0, .int .u16 0, .pointer none, .int .u8 0, .slice (some ⟨g, 0, none⟩) m c, .pointer none, .pointer none] 50)).alloc (.cells #[.int .u8 0, .slice (some ⟨g, 0, none⟩) m c] 44)) := (((Turn.refl [] w).alloc _).alloc _).alloc _
  have hown1 := own_turn hlo t1 (by simp)
  have hnew := news_alloc ((w.alloc (.cells #[.int .u8 0, .slice (some ⟨g, 0, none⟩) m c] 44)).alloc (.cells #[.int .u16 0, .int .u16 0, .pointer none, .int .u8 0, .slice (some ⟨g, 0, none⟩) m c, .pointer none, .pointer none] 50)) [.int .u8 0, .slice (some ⟨g, 0, none⟩) m c] 44
  go_enter Ybad.func8, Ybad.ntmps8
  go_wp2_with (at_builtin; refine wpList_append_lies _ rfl (.tmp 9) (.tmp 11) 69 rfl base 44 i0 _ 2 32 Ybad.underlying69 hi0 hz0 hz1 hz2 rfl (by decide) (.slice lo nl cl) nl xs rfl hown1 ⟨w.heap.size + 1 + 1, 0, none⟩ 1 1 [.int .u8 0, .slice (some ⟨g, 0, none⟩) m c] rfl rfl (by simpa using hnew) (by simp [Value.oneCell']) (by omega) (by unfold maxLen; omega) (by omega) (by simp; omega) (w.heap.size + 1 + 1 + 1) (by simp) ?_)
  intro g1 cap1 w1 hown1' hgrow1 hat1 _
  have hg1 : g1 ∈ blk lo ∨ w.heap.size ≤ g1 := by
    rcases hat1 with h | h
    · left; cases lo with
      | none => simp [Value.ownBlock] at h
      | some ad => simpa [Value.ownBlock, blk] using h.symm
    · right; omega
  have t2 : Turn (blk lo) w w1 := (t1.mono (by simp)).trans ((Turn.refl _ _).grown hgrow1 (fun k hk => by
    left
    cases lo with
    | none => simp [Value.ownBlock] at hk
    | some ad => simpa [Value.ownBlock, blk] using hk.symm))
  have bl : ∀ k ∈ blk lo, base ≤ k ∧ k < w.heap.size := own_base hlo
  have br : ∀ k ∈ blk ro, base ≤ k ∧ k < w.heap.size := own_base hro
  have nLl : LL ∉ blk lo := fun h => by have := bl _ h; omega
  have nRl : RR ∉ blk lo := fun h => by have := bl _ h; omega
  have nLr : LL ∉ blk ro := fun h => by have := br _ h; omega
  have nRr : RR ∉ blk ro := fun h => by have := br _ h; omega
  have c0 : w1.cell? ⟨LL, 0, none⟩ = some (.slice lo nl cl) := (t2.cell hLl nLl).trans e0
  have c1 : w1.cell? ⟨RR, 0, none⟩ = some (.slice ro nr cr) := (t2.cell hRl nRl).trans e1
  have yL : w1.frozen? ⟨LL, 0, none⟩ = false := (t2.frozen hLl nLl).trans zL
  have yR : w1.frozen? ⟨RR, 0, none⟩ = false := (t2.frozen hRl nRl).trans zR
  have ho2 : w1.ownsRow base 52 1 (.slice ro nr cr) nr ys := own_turn hro t2 (fun k hk h => hd k h hk)
  have hLw : LL < w1.heap.size := lt_of_cell c0
  have hRw : RR < w1.heap.size := lt_of_cell c1
  have nLg : LL ≠ g1 := fun h => by
    rcases hg1 with h' | h'
    · have := bl _ h'; omega
    · omega
  have nRg : RR ≠ g1 := fun h => by
    rcases hg1 with h' | h'
    · have := bl _ h'; omega
    · omega
  have hsz : w.heap.size + 1 + 1 + 1 ≤ w1.heap.size := by have := hgrow1.size; simpa using this
  have t3 : Turn [LL] w1 ((w1.setCell ⟨LL, 0, none⟩ (.slice (some ⟨g1, 0, none⟩) (nl + 1) cap1)).alloc (.cells #[reqOf (w.heap.size + 1)] 52)) := ((Turn.refl _ _).setCell (by simp) _).alloc _
  have hown2 := own_turn ho2 t3 (fun k hk => by
    have : k ≠ LL := fun h => nLr (h ▸ hk)
    simpa using this)
  have hnew2 := news_alloc (w1.setCell ⟨LL, 0, none⟩ (.slice (some ⟨g1, 0, none⟩) (nl + 1) cap1)) [reqOf (w.heap.size + 1)] 52
  unfold reqOf at hown2 hnew2
  go_wp2_with (at_builtin; refine wpList_append_lies _ rfl (.tmp 13) (.tmp 16) 28 rfl base 52 j0 _ 1 16 Ybad.underlying28 hj0 hy0 hy1 hy2 rfl (by decide) (.slice ro nr cr) nr ys rfl hown2 ⟨w1.heap.size, 0, none⟩ 1 1 [reqOf (w.heap.size + 1)] rfl rfl (by simpa [reqOf] using hnew2) (by simp [Value.oneCell', reqOf]) (by omega) (by unfold maxLen; omega) (by omega) (by simp; omega) (w1.heap.size + 1) (by simp) ?_)
  intro g2 cap2 w2 hown2' hgrow2 hat2 _
  have hg2 : g2 ∈ blk ro ∨ w1.heap.size + 1 ≤ g2 := by
    rcases hat2 with h | h
    · left; cases ro with
      | none => simp [Value.ownBlock] at h
      | some ad => simpa [Value.ownBlock, blk] using h.symm
    · right; omega
  have t4 : Turn (LL :: blk ro) w1 w2 := (t3.mono (by simp)).trans ((Turn.refl _ _).grown hgrow2 (fun k hk => by
    left
    cases ro with
    | none => simp [Value.ownBlock] at hk
    | some ad => simp [blk]; right; simpa [Value.ownBlock] using hk.symm))
  have hgg : g1 ∉ LL :: blk ro := by
    simp only [List.mem_cons, not_or]
    refine ⟨fun h => nLg h.symm, fun h => ?_⟩
    rcases hg1 with h' | h'
    · exact hd _ h' h
    · have := br _ h; omega
  have hgw : g1 < w1.heap.size := (own_base hown1' g1 (by simp [blk])).2
  have d0 : w2.cell? ⟨LL, 0, none⟩ = some (.slice (some ⟨g1, 0, none⟩) (nl + 1) cap1) := by
    have := (Turn.grown (ex := blk ro) (Turn.refl _ _) hgrow2 (fun k hk => by
      left
      cases ro with
      | none => simp [Value.ownBlock] at hk
      | some ad => simpa [Value.ownBlock, blk] using hk.symm)).cell (p := ⟨LL, 0, none⟩) (by simp; omega) nLr
    rw [this]; go_simp
  have d1 : w2.cell? ⟨RR, 0, none⟩ = some (.slice ro nr cr) := (t4.cell (by simp; omega) (by simp only [List.mem_cons, not_or]; exact ⟨fun h => hLR h.symm, nRr⟩)).trans c1
  have xL : w2.frozen? ⟨LL, 0, none⟩ = false := by
    have := (Turn.grown (ex := blk ro) (Turn.refl _ _) hgrow2 (fun k hk => by
      left
      cases ro with
      | none => simp [Value.ownBlock] at hk
      | some ad => simpa [Value.ownBlock, blk] using hk.symm)).frozen (p := ⟨LL, 0, none⟩) (by simp; omega) nLr
    rw [this]; go_simp
  have xR : w2.frozen? ⟨RR, 0, none⟩ = false := (t4.frozen (by simp; omega) (by simp only [List.mem_cons, not_or]; exact ⟨fun h => hLR h.symm, nRr⟩)).trans yR
  have hl2 : w2.ownsRow base 44 2 (.slice (some ⟨g1, 0, none⟩) (nl + 1) cap1) (nl + 1) (xs ++ [.int .u8 0, .slice (some ⟨g, 0, none⟩) m c]) := own_turn hown1' t4 (by simpa [blk] using hgg)
  go_wp2
  go_ret
  have t5 : Turn [RR] w2 (w2.setCell ⟨RR, 0, none⟩ (.slice (some ⟨g2, 0, none⟩) (nr + 1) cap2)) := (Turn.refl _ _).setCell (by simp) _
  have nRg2 : RR ≠ g2 := fun h => by
    rcases hg2 with h' | h'
    · have := br _ h'; omega
    · omega
  refine ⟨w.heap.size + 1, rfl, by omega, some ⟨g1, 0, none⟩, cap1, some ⟨g2, 0, none⟩, cap2, ?_, ?_, ?_, ?_, own_turn hl2 t5 ?_, own_turn hown2' t5 ?_, ?_, ?_, ?_, ?_⟩
  · rw [World.cell?_setCell_other _ _ _ _ (by simp [hLR])]; exact d0
  · exact World.cell?_setCell_same _ _ _ d1
  · rw [World.frozen?_setCell]; exact xL
  · rw [World.frozen?_setCell]; exact xR
  · simp [blk]; omega
  · simp [blk]; omega
  · simp only [blk, Option.map_some, Option.toList_some, List.mem_singleton]
    rintro k rfl h
    subst h
    rcases hg2 with h' | h'
    · exact hgg (by simp [h'])
    · omega
  · simp only [blk, Option.map_some, Option.toList_some, List.mem_singleton]
    rintro k rfl
    exact hg1
  · simp only [blk, Option.map_some, Option.toList_some, List.mem_singleton]
    rintro k rfl
    rcases hg2 with h' | h'
    · exact .inl h'
    · right; omega
  · exact (((t2.mono (by intro k hk; simp [hk])).trans (t4.mono (by intro k hk; simp at hk ⊢; rcases hk with h | h <;> simp [h])))).trans (t5.mono (by simp))
end Go.Proofs.YbulkccjsDoor.H
