/-
  A REGION THAT DRAWS ITS ORDER AND ENDS IN A STORE INTO A CELL THAT IT LOADED ('s.f = append(s.f, x)'; 's.n += f()'): the condition S on the world is asked behind every operation BUT THE LAST ONE, which waits for all the others. (The library's 'wpAnyH' asks it behind the last one too.) Our own definition and proofs, over the library's laws on 'wpOp' and 'Region.ready'.
-/
import Derived.OrdersHeld
import Derived.Deep.RegionHeld3
namespace Go.Proofs.YbulkccjsDoor.H

section
variable {P : Program} {ops : Array Oper} {Q : Exit → Act → World → Prop} {md : Region.Mode} {S : World → Prop} {fin : Nat}

/-- Whatever order is picked from here on, and S holds behind every operation but number 'fin'. -/
def Picks (P : Program) (md : Region.Mode) (ops : Array Oper) (Q : Exit → Act → World → Prop) (S : World → Prop) (fin : Nat) : Nat → Array Bool → Act → World → Prop
  | 0, listed, a, w => Region.ready md ops listed = [] ∧ Q .normal a w
  | fuel + 1, listed, a, w =>
    (Region.ready md ops listed = [] → Q .normal a w) ∧
    ∀ i ∈ Region.ready md ops listed, wpOp P ops Q i (fun a' w' => (i ≠ fin → S w') ∧ Picks P md ops Q S fin fuel (listed.setIfInBounds i true) a' w') a w

theorem Picks.any : ∀ (fuel : Nat) (listed : Array Bool) (a : Act) (w : World), Picks P md ops Q S fin fuel listed a w → wpAny P md ops Q fuel listed a w
  | 0, _, _, _, h => h
  | fuel + 1, _, _, _, h => ⟨h.1, fun i hi => wpOp_mono (fun a' w' h' => Picks.any fuel _ a' w' h'.2) (h.2 i hi)⟩

/-- Does number 'fin' wait for number 'i' by an edge of its own? -/
def waits (md : Region.Mode) (ops : Array Oper) (fin i : Nat) : Bool := match ops[fin]? with
  | some o => o.after.any (fun e => Region.binds md e && e.on == i)
  | none => false

/-- What has a dependence that has not come up is not ready. -/
theorem waits_not {k j : Nat} {listed : Array Bool} (hw : waits md ops j k = true) (hk : listed.getD k true = false) : j ∉ Region.ready md ops listed := by
  intro hj
  obtain ⟨_, o, ho, hall⟩ := mem_ready.1 hj
  simp only [waits, ho, Array.any_eq_true', Bool.and_eq_true, beq_iff_eq] at hw
  obtain ⟨e, he, hb, rfl⟩ := hw
  have h1 := hall e he hb
  rcases Nat.lt_or_ge e.on listed.size with h' | h'
  · simp [h'] at hk h1
    rw [hk] at h1
    cases h1
  · simp [Array.getElem?_eq_none h'] at h1

/-- Number 'fin' stands on the list dl; each on dl waits for i or for another on dl; none of them has come up. -/
def chained (md : Region.Mode) (ops : Array Oper) (fin i : Nat) (dl : List Nat) (listed : Array Bool) : Bool :=
  dl.contains fin && dl.all (fun k => (i :: dl).any (fun k' => waits md ops k k')) && dl.all (fun k => listed.getD k true == false)

theorem chained_not {i j : Nat} {dl : List Nat} {listed : Array Bool} (hc : chained md ops fin i dl listed = true) (hi : i ∈ Region.ready md ops listed) (hj : j ∈ Region.ready md ops listed) : j ∉ dl := by
  intro hm
  simp only [chained, Bool.and_eq_true, List.all_eq_true] at hc
  obtain ⟨⟨_, h2⟩, h3⟩ := hc
  obtain ⟨k', hk', hw⟩ := List.any_eq_true.1 (h2 j hm)
  have hun : listed.getD k' true = false := by
    rcases List.mem_cons.1 hk' with rfl | hk'
    · exact (mem_ready.1 hi).1
    · simpa using h3 k' hk'
  exact waits_not hw hun hj

theorem chained_step {i j : Nat} {dl : List Nat} {listed : Array Bool} (hc : chained md ops fin i dl listed = true) (hj : j ∉ dl) : chained md ops fin i dl (listed.setIfInBounds j true) = true := by
  simp only [chained, Bool.and_eq_true, List.all_eq_true] at hc ⊢
  obtain ⟨⟨h1, h2⟩, h3⟩ := hc
  refine ⟨⟨h1, h2⟩, fun k hk => ?_⟩
  rw [getD_set_ne true (show j ≠ k from fun e => hj (e ▸ hk))]
  exact h3 k hk

theorem Picks.first {i : Nat} {oi : Oper} {v : Value} {dl : List Nat} (hi : ops[i]? = some oi) (hsel : ∀ (j : Nat) (o : Oper) cs b, ops[j]? = some o → o.op ≠ .select cs b)
    (hQ : ∀ c a w, Q (.panic c) (a.put oi.dst v) w → Q (.panic c) a w) :
    ∀ (fuel : Nat) (listed : Array Bool) (a : Act) (w : World), chained md ops fin i dl listed = true →
      (∀ j oj, ops[j]? = some oj → j ≠ i → listed.getD j true = false → (∀ e ∈ oj.after, Region.binds md e = true → e.on ≠ i) → oi.apart ops oj = true) →
      i ∈ Region.ready md ops listed → YieldsIf P ops S oi v a → S w →
      Picks P md ops Q S fin fuel (listed.setIfInBounds i true) (a.put oi.dst v) w → Picks P md ops Q S fin (fuel + 1) listed a w := by
  intro fuel
  induction fuel with
  | zero =>
    intro listed a w _ _ hr hy hS H
    refine ⟨fun h => absurd hr (by rw [h]; simp), fun j hj => ?_⟩
    by_cases hji : j = i
    · subst hji
      exact hy.wpOp hi hS ⟨fun _ => hS, H⟩
    · have := ready_mono hj hji
      rw [H.1] at this
      cases this
  | succ fuel ih =>
    intro listed a w hc hfree hr hy hS H
    refine ⟨fun h => absurd hr (by rw [h]; simp), fun j hj => ?_⟩
    by_cases hji : j = i
    · subst hji
      exact hy.wpOp hi hS ⟨fun _ => hS, H⟩
    · have hjd : j ∉ dl := chained_not hc hr hj
      have hjf : j ≠ fin := fun e => hjd (by
        simp only [chained, Bool.and_eq_true] at hc
        rw [e]
        simpa using hc.1.1)
      obtain ⟨hjun, oj, hoj, hall⟩ := mem_ready.1 hj
      have hno : ∀ e ∈ oj.after, Region.binds md e = true → e.on ≠ i := fun e he hb heq => by
        have hwj : waits md ops j i = true := by
          simp only [waits, hoj, Array.any_eq_true', Bool.and_eq_true, beq_iff_eq]
          exact ⟨e, he, hb, heq⟩
        exact waits_not hwj (mem_ready.1 hr).1 hj
      have h2 := wpOp_putIf hoj (hfree j oj hoj hji hjun hno) (fun cs b => hsel i oi cs b hi) (fun cs b => hsel j oj cs b hoj) hQ hy (H.2 j (ready_mono hj hji))
      refine wpOp_mono (fun a' w' h3 => ⟨h3.2.1, ih (listed.setIfInBounds j true) a' w' (chained_step hc hjd) (fun k ok hk hki hun hn => ?_) (ready_mono hr (Ne.symm hji)) h3.1 (h3.2.1 hjf) ?_⟩) h2
      · refine hfree k ok hk hki ?_ hn
        by_cases hjk : j = k
        · subst hjk; exact hjun
        · rw [getD_set_ne true hjk] at hun; exact hun
      · rw [Array.setIfInBounds_comm _ _ hji]
        exact h3.2.2

theorem Picks.take {i : Nat} {oi : Oper} {v : Value} (dl : List Nat) {fuel : Nat} {listed : Array Bool} {a : Act} {w : World} (hi : ops[i]? = some oi)
    (hs : Region.noSelect ops = true) (hf : Region.free md ops listed i = true) (hr : (Region.ready md ops listed).contains i = true) (hfin : chained md ops fin i dl listed = true)
    (hQ : ∀ c a w, Q (.panic c) (a.put oi.dst v) w → Q (.panic c) a w) (hy : YieldsIf P ops S oi v a) (hS : S w)
    (h : Picks P md ops Q S fin fuel (listed.setIfInBounds i true) (a.put oi.dst v) w) : Picks P md ops Q S fin (fuel + 1) listed a w :=
  Picks.first hi (Region.noSelect_spec hs) hQ fuel listed a w hfin (Region.free_spec hi hf) (by simpa using hr) hy hS h

/-- One operation alone may come up, and it is carried out. -/
theorem Picks.one {i : Nat} {o : Oper} {fuel : Nat} {listed : Array Bool} {a : Act} {w : World} (hr : Region.ready md ops listed = [i]) (ho : ops[i]? = some o) (hw : Region.wanted o (yielded ops a.tmps) = true)
    (h : ∀ K : Act → World → Prop, (∀ a' w', (i ≠ fin → S w') → Picks P md ops Q S fin fuel (listed.setIfInBounds i true) a' w' → K a' w') → Oper.wp P o a w K Q) : Picks P md ops Q S fin (fuel + 1) listed a w := by
  refine ⟨fun h0 => absurd h0 (by rw [hr]; simp), fun j hj => ?_⟩
  rw [hr] at hj
  obtain rfl : j = i := by simpa using hj
  unfold wpOp
  simp only [ho, hw, if_true]
  exact .inl (h _ fun a' w' hS hP => ⟨hS, hP⟩)

theorem Picks.done {listed : Array Bool} {a : Act} {w : World} (hr : Region.ready md ops listed = []) (h : Q .normal a w) : ∀ fuel, Picks P md ops Q S fin fuel listed a w
  | 0 => ⟨hr, h⟩
  | _ + 1 => ⟨fun _ => h, by rw [hr]; simp⟩

theorem region_picks {id : Nat} {a : Act} {w : World} (S : World → Prop) (fin : Nat) (hm : P.follows .mixedOrders = true)
    (h : Picks P .any ops (NoPanic Q) S fin ops.size (Array.replicate ops.size false) a w.drew) : (Code.region id ops true).wp P Q a w :=
  wp_region_noPanic (wp_region_any hm (Picks.any _ _ _ _ h))
end
end Go.Proofs.YbulkccjsDoor.H
