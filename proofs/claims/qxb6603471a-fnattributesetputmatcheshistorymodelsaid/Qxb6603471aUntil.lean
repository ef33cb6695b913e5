/-
  A REGION THAT DRAWS ITS ORDER: 'x.f = append(x.f, ..)': loads, then an append, then ONE STORE, which waits for every load. A load may be taken first as long as the store has not come up: a condition S on the world must hold behind each operation UNTIL the store. (The kit's 'wpAnyH' asks it behind the store too, which writes the very cell that was read.)
-/
import Derived.OrdersHeld
import Derived.StillTail
import Derived.Deep.RegionHeld
namespace Go.Proofs.Qxb6603471a.Until

section
variable {P : Program} {ops : Array Oper} {Q : Exit → Act → World → Prop} {md : Region.Mode} {S : World → Prop} {st : Nat}

/-- Whatever order is picked from here on, and S holds behind every operation as long as 'st' has not come up. -/
def wpAnyU (P : Program) (md : Region.Mode) (ops : Array Oper) (Q : Exit → Act → World → Prop) (S : World → Prop) (st : Nat) : Nat → Array Bool → Act → World → Prop
  | 0, listed, a, w => Region.ready md ops listed = [] ∧ Q .normal a w
  | fuel + 1, listed, a, w =>
    (Region.ready md ops listed = [] → Q .normal a w) ∧
    ∀ i ∈ Region.ready md ops listed, wpOp P ops Q i (fun a' w' => ((listed.setIfInBounds i true).getD st false = true ∨ S w') ∧ wpAnyU P md ops Q S st fuel (listed.setIfInBounds i true) a' w') a w

theorem wpAny_of_until : ∀ (fuel : Nat) (listed : Array Bool) (a : Act) (w : World), wpAnyU P md ops Q S st fuel listed a w → wpAny P md ops Q fuel listed a w
  | 0, _, _, _, h => h
  | fuel + 1, _, _, _, h => ⟨h.1, fun i hi => wpOp_mono (fun a' w' h' => wpAny_of_until fuel _ a' w' h'.2) (h.2 i hi)⟩

theorem not_on {i : Nat} {oj : Oper} {listed : Array Bool} (hr : i ∈ Region.ready md ops listed) (hall : ∀ e ∈ oj.after, Region.binds md e = true → listed.getD e.on false = true) :
    ∀ e ∈ oj.after, Region.binds md e = true → e.on ≠ i := fun e he hb heq => by
  have h1 := hall e he hb
  have h0 := (mem_ready.1 hr).1
  rw [heq] at h1
  rcases Nat.lt_or_ge i listed.size with h' | h'
  · simp [h'] at h0 h1; rw [h0] at h1; cases h1
  · simp [Array.getElem?_eq_none h'] at h1

/-- What yields under S is taken first, if 'st' waits for it. -/
theorem wpAnyU_first {i : Nat} {oi : Oper} {v : Value} (hi : ops[i]? = some oi) (hsel : ∀ (j : Nat) (o : Oper) cs b, ops[j]? = some o → o.op ≠ .select cs b)
    (hQ : ∀ c a w, Q (.panic c) (a.put oi.dst v) w → Q (.panic c) a w) (hwait : Region.waitsFor md ops st i = true) (hne : st ≠ i) :
    ∀ (fuel : Nat) (listed : Array Bool) (a : Act) (w : World),
      (∀ j oj, ops[j]? = some oj → j ≠ i → listed.getD j true = false → (∀ e ∈ oj.after, Region.binds md e = true → e.on ≠ i) → oi.apart ops oj = true) →
      i ∈ Region.ready md ops listed → YieldsIf P ops S oi v a → listed.getD st false = false → S w →
      wpAnyU P md ops Q S st fuel (listed.setIfInBounds i true) (a.put oi.dst v) w → wpAnyU P md ops Q S st (fuel + 1) listed a w := by
  intro fuel
  induction fuel with
  | zero =>
    intro listed a w _ hr hy _ hS H
    refine ⟨fun h => (by rw [h] at hr; cases hr), fun j hj => ?_⟩
    by_cases hji : j = i
    · subst hji; exact hy.wpOp hi hS ⟨.inr hS, H⟩
    · have := ready_mono hj hji
      rw [H.1] at this
      cases this
  | succ fuel ih =>
    intro listed a w hfree hr hy hst hS H
    refine ⟨fun h => (by rw [h] at hr; cases hr), fun j hj => ?_⟩
    by_cases hji : j = i
    · subst hji; exact hy.wpOp hi hS ⟨.inr hS, H⟩
    · have h1 := H.2 j (ready_mono hj hji)
      obtain ⟨hjun, oj, hoj, hall⟩ := mem_ready.1 hj
      have hnot := not_on hr hall
      have hjst : j ≠ st := by
        intro e
        obtain ⟨ost, host, e', he', hb', hon⟩ := Region.waitsFor_spec hwait
        subst e
        have : ost = oj := Option.some.inj (host.symm.trans hoj)
        subst this
        exact hnot e' he' hb' hon
      have h2 := wpOp_putIf hoj (hfree j oj hoj hji hjun hnot) (fun cs b => hsel i oi cs b hi) (fun cs b => hsel j oj cs b hoj) hQ hy h1
      have hfree' : ∀ k ok, ops[k]? = some ok → k ≠ i → (listed.setIfInBounds j true).getD k true = false →
          (∀ e ∈ ok.after, Region.binds md e = true → e.on ≠ i) → oi.apart ops ok = true := fun k ok hk hki hun hno => by
        refine hfree k ok hk hki ?_ hno
        by_cases hjk : j = k
        · subst hjk; exact hjun
        · rw [getD_set_ne true hjk] at hun; exact hun
      have hst' : (listed.setIfInBounds j true).getD st false = false := by rw [getD_set_ne false hjst]; exact hst
      refine wpOp_mono (fun a' w' h3 => ?_) h2
      have hS' : S w' := by
        rcases h3.2.1 with e | e
        · rw [getD_set_ne false hjst, getD_set_ne false (Ne.symm hne), hst] at e; cases e
        · exact e
      refine ⟨.inr hS', ih (listed.setIfInBounds j true) a' w' hfree' (ready_mono hr (Ne.symm hji)) h3.1 hst' hS' ?_⟩
      rw [Array.setIfInBounds_comm _ _ hji]
      exact h3.2.2

/-- What yields in whatever world is taken first. -/
theorem wpAnyU_any {i : Nat} {oi : Oper} {v : Value} (hi : ops[i]? = some oi) (hsel : ∀ (j : Nat) (o : Oper) cs b, ops[j]? = some o → o.op ≠ .select cs b)
    (hQ : ∀ c a w, Q (.panic c) (a.put oi.dst v) w → Q (.panic c) a w) (hne : st ≠ i) :
    ∀ (fuel : Nat) (listed : Array Bool) (a : Act) (w : World),
      (∀ j oj, ops[j]? = some oj → j ≠ i → listed.getD j true = false → (∀ e ∈ oj.after, Region.binds md e = true → e.on ≠ i) → oi.apart ops oj = true) →
      i ∈ Region.ready md ops listed → Yields P ops oi v a → (listed.getD st false = true ∨ S w) →
      wpAnyU P md ops Q S st fuel (listed.setIfInBounds i true) (a.put oi.dst v) w → wpAnyU P md ops Q S st (fuel + 1) listed a w := by
  intro fuel
  induction fuel with
  | zero =>
    intro listed a w _ hr hy hS H
    refine ⟨fun h => (by rw [h] at hr; cases hr), fun j hj => ?_⟩
    by_cases hji : j = i
    · subst hji; exact hy.wpOp hi ⟨by rw [getD_set_ne false (Ne.symm hne)]; exact hS, H⟩
    · have := ready_mono hj hji
      rw [H.1] at this
      cases this
  | succ fuel ih =>
    intro listed a w hfree hr hy hS H
    refine ⟨fun h => (by rw [h] at hr; cases hr), fun j hj => ?_⟩
    by_cases hji : j = i
    · subst hji; exact hy.wpOp hi ⟨by rw [getD_set_ne false (Ne.symm hne)]; exact hS, H⟩
    · have h1 := H.2 j (ready_mono hj hji)
      obtain ⟨hjun, oj, hoj, hall⟩ := mem_ready.1 hj
      have hnot := not_on hr hall
      have h2 := wpOp_put hoj (hfree j oj hoj hji hjun hnot) (fun cs b => hsel i oi cs b hi) (fun cs b => hsel j oj cs b hoj) hQ hy h1
      have hfree' : ∀ k ok, ops[k]? = some ok → k ≠ i → (listed.setIfInBounds j true).getD k true = false →
          (∀ e ∈ ok.after, Region.binds md e = true → e.on ≠ i) → oi.apart ops ok = true := fun k ok hk hki hun hno => by
        refine hfree k ok hk hki ?_ hno
        by_cases hjk : j = k
        · subst hjk; exact hjun
        · rw [getD_set_ne true hjk] at hun; exact hun
      refine wpOp_mono (fun a' w' h3 => ?_) h2
      have hS' : (listed.setIfInBounds j true).getD st false = true ∨ S w' := by
        rcases h3.2.1 with e | e
        · left
          rw [Array.setIfInBounds_comm _ _ (Ne.symm hji), getD_set_ne false (Ne.symm hne)] at e
          exact e
        · exact .inr e
      refine ⟨hS', ih (listed.setIfInBounds j true) a' w' hfree' (ready_mono hr (Ne.symm hji)) h3.1 hS' ?_⟩
      rw [Array.setIfInBounds_comm _ _ hji]
      exact h3.2.2

theorem at_of_drop {i : Nat} {oi : Oper} {rest : List Oper} (h : ops.toList.drop i = oi :: rest) : ops[i]? = some oi := by
  have : ops.toList[i]? = some oi := by
    have h2 : (ops.toList.drop i)[0]? = some oi := by rw [h]; rfl
    simpa using h2
  simpa using this

/-- Take a load first. -/
theorem take_load {i : Nat} {oi : Oper} {rest : List Oper} {v : Value} {fuel : Nat} {listed : Array Bool} {a : Act} {w : World} (h0 : ops.toList.drop i = oi :: rest)
    (hs : Region.noSelect ops = true) (hf : Region.free md ops listed i = true) (hr : (Region.ready md ops listed).contains i = true) (hw : Region.waitsFor md ops st i = true) (hn : (st == i) = false) (hl : listed.getD st false = false)
    (hQ : ∀ c a w, Q (.panic c) (a.put oi.dst v) w → Q (.panic c) a w) (hS : S w) (hy : YieldsIf P ops S oi v a)
    (h : wpAnyU P md ops Q S st fuel (listed.setIfInBounds i true) (a.put oi.dst v) w) : wpAnyU P md ops Q S st (fuel + 1) listed a w :=
  wpAnyU_first (at_of_drop h0) (Region.noSelect_spec hs) hQ hw (by simpa using hn) fuel listed a w (Region.free_spec (at_of_drop h0) hf) (by simpa using hr) hy hl hS h

/-- Take first what yields in whatever world. -/
theorem take_any {i : Nat} {oi : Oper} {rest : List Oper} {v : Value} {fuel : Nat} {listed : Array Bool} {a : Act} {w : World} (h0 : ops.toList.drop i = oi :: rest)
    (hs : Region.noSelect ops = true) (hf : Region.free md ops listed i = true) (hr : (Region.ready md ops listed).contains i = true) (hn : (st == i) = false)
    (hQ : ∀ c a w, Q (.panic c) (a.put oi.dst v) w → Q (.panic c) a w) (hS : listed.getD st false = true ∨ S w) (hy : Yields P ops oi v a)
    (h : wpAnyU P md ops Q S st fuel (listed.setIfInBounds i true) (a.put oi.dst v) w) : wpAnyU P md ops Q S st (fuel + 1) listed a w :=
  wpAnyU_any (at_of_drop h0) (Region.noSelect_spec hs) hQ (by simpa using hn) fuel listed a w (Region.free_spec (at_of_drop h0) hf) (by simpa using hr) hy hS h

/-- One operation alone may come up. -/
theorem only {i : Nat} {oi : Oper} {rest : List Oper} {fuel : Nat} {listed : Array Bool} {a : Act} {w : World} (hr : Region.ready md ops listed = [i]) (h0 : ops.toList.drop i = oi :: rest)
    (h : ∀ K : Act → World → Prop, (∀ a' w', ((listed.setIfInBounds i true).getD st false = true ∨ S w') → wpAnyU P md ops Q S st fuel (listed.setIfInBounds i true) a' w' → K a' w') →
      if Region.wanted oi (yielded ops a.tmps) = true then Oper.wp P oi a w K Q else K (a.put oi.dst undef) w) :
    wpAnyU P md ops Q S st (fuel + 1) listed a w := by
  have hi := at_of_drop h0
  refine ⟨(fun h0 => by rw [hr] at h0; cases h0), fun j hj => ?_⟩
  rw [hr] at hj
  obtain rfl : j = i := by simpa using hj
  have := h (fun a' w' => ((listed.setIfInBounds j true).getD st false = true ∨ S w') ∧ wpAnyU P md ops Q S st fuel (listed.setIfInBounds j true) a' w') (fun a' w' h1 h2 => ⟨h1, h2⟩)
  unfold wpOp
  simp only [hi]
  split at this
  · rename_i hw; simp only [hw, if_true]; exact .inl this
  · rename_i hw; simp only [hw, Bool.false_eq_true, if_false]; exact this

theorem done {listed : Array Bool} {a : Act} {w : World} (hr : Region.ready md ops listed = []) (h : Q .normal a w) : ∀ fuel, wpAnyU P md ops Q S st fuel listed a w
  | 0 => ⟨hr, h⟩
  | _ + 1 => ⟨fun _ => h, by rw [hr]; simp⟩

theorem start {id : Nat} {a : Act} {w : World} (S : World → Prop) (st : Nat) (hm : P.follows .mixedOrders = true)
    (h : wpAnyU P .any ops Q S st ops.size (Array.replicate ops.size false) a w.drew) : (Code.region id ops true).wp P Q a w :=
  wp_region_any hm (wpAny_of_until _ _ _ _ h)
end
end Go.Proofs.Qxb6603471a.Until
