import Derived.Test.Qxb6603471aAtHist
namespace Go.Proofs.Qxb6603471a
open Go.RowKit Go.Maps
set_option linter.unusedSimpArgs false
set_option linter.unusedVariables false

theorem take_snoc (os : List Put) (i : Nat) (hi : i < os.length) : putL [] (os.take (i + 1)) = putE (putL [] (os.take i)) (os.getD i default) := by
  have e1 : os.getD i default = os[i] := by simp [List.getD, hi]
  rw [List.take_succ_eq_append_getElem hi, putL_snoc, e1]

theorem first_iff (os : List Put) (i : Nat) (hi : i < os.length) : isFirst os i = true ↔ findE (putL [] (os.take i)) (os.getD i default).key = none := by
  obtain ⟨k, hk⟩ : ∃ k, k = (os.getD i default).key := ⟨_, rfl⟩
  have l0 : lk [] k = none := by unfold lk findE; simp
  have e1 : lk (putL [] (os.take i)) k = (os.take i).foldl (stp k) none := by rw [lk_putL, l0]
  rw [← hk]
  have e2 : findE (putL [] (os.take i)) k = none ↔ lk (putL [] (os.take i)) k = none := by unfold lk; cases findE (putL [] (os.take i)) k <;> simp
  rw [e2, e1]
  unfold isFirst
  rw [decide_eq_true_eq]
  constructor
  · intro h
    refine fold_none k _ fun p hp => ?_
    obtain ⟨j, hj, rfl⟩ := List.mem_iff_getElem.1 hp
    have hji : j < i := by simp at hj; omega
    have := h j hji
    rw [← hk] at this
    simpa [List.getD, show j < os.length by omega] using this
  · intro h j hj hkj
    have hjl : j < os.length := by omega
    have := fold_some k (os.take i) none (.inr ⟨os[j], List.mem_iff_getElem.2 ⟨j, by simp; omega, by simp⟩, by rw [hk, ← hkj]; simp [List.getD, hjl]⟩)
    rw [h] at this; cases this

theorem first_step (os : List Put) (i : Nat) (hi : i < os.length) (h : isFirst os i = true) : putL [] (os.take (i + 1)) = putL [] (os.take i) ++ [fresh (os.getD i default)] := by
  rw [take_snoc os i hi]
  unfold putE
  rw [(first_iff os i hi).1 h]

theorem notfirst_step (os : List Put) (i : Nat) (hi : i < os.length) (h : isFirst os i = false) : (putL [] (os.take (i + 1))).map Ent.key = (putL [] (os.take i)).map Ent.key := by
  rw [take_snoc os i hi]
  unfold putE
  cases hf : findE (putL [] (os.take i)) (os.getD i default).key with
  | none => rw [(first_iff os i hi).2 hf] at h; cases h
  | some j =>
    obtain ⟨hj, _, _⟩ := findE_some hf
    exact set_keys _ j hj _ (by rw [merge_key]; simp [List.getD, hj])

theorem keys_pre (os : List Put) (i : Nat) : ∀ m, i ≤ m → m ≤ os.length → (putL [] (os.take i)).map Ent.key <+: (putL [] (os.take m)).map Ent.key
  | 0, h, _ => by
    obtain rfl : i = 0 := by omega
    exact List.prefix_refl _
  | m + 1, h, hm => by
    by_cases e : i = m + 1
    · subst e; exact List.prefix_refl _
    · have ih := keys_pre os i m (by omega) (by omega)
      cases hf : isFirst os m with
      | true =>
        rw [first_step os m (by omega) hf, List.map_append]
        exact ih.trans (List.prefix_append _ _)
      | false => rw [notfirst_step os m (by omega) hf]; exact ih

/-- A key's first put: its place, and what the set holds of it at the end. -/
theorem at_first (os : List Put) (i : Nat) (hi : i < os.length) (hf : isFirst os i = true) (hnd : ((putL [] os).map Ent.key).Nodup) :
    ∃ (d b : Nat), d = (putL [] (os.take i)).length ∧ d < (putL [] os).length ∧ findE (putL [] os) (os.getD i default).key = some d ∧ (kh os (os.getD i default).key os.length).1 = some b ∧
      (putL [] os).getD d default = ⟨(os.getD i default).key, (os.getD b default).ty, (os.getD b default).str, (os.getD b default).int, (os.getD b default).rank, (kh os (os.getD i default).key os.length).2⟩ := by
  have hp := keys_pre os (i + 1) os.length (by omega) (Nat.le_refl _)
  rw [List.take_length, first_step os i hi hf, List.map_append] at hp
  obtain ⟨t, ht⟩ := hp
  obtain ⟨d, hd⟩ : ∃ d, d = (putL [] (os.take i)).length := ⟨_, rfl⟩
  have hkd : ((putL [] os).map Ent.key)[d]? = some (os.getD i default).key := by
    rw [← ht, List.append_assoc, List.getElem?_append_right (by simp; omega)]
    simp [hd, fresh]
  have hdl : d < (putL [] os).length := by
    have := (List.getElem?_eq_some_iff.1 hkd).1
    simpa using this
  have hkd' : ((putL [] os).getD d default).key = (os.getD i default).key := by
    simp [hdl] at hkd
    simp [List.getD, hdl, hkd]
  have hfd : findE (putL [] os) (os.getD i default).key = some d := by
    refine findE_hit _ _ d hdl (fun j hj hkj => ?_) hkd'
    have := List.pairwise_iff_getElem.1 hnd j d (by simp; omega) (by simpa using hdl) hj
    apply this
    have e1 : (putL [] os).getD j default = (putL [] os)[j]'(by omega) := by simp [List.getD, show j < (putL [] os).length by omega]
    have e2 : (putL [] os).getD d default = (putL [] os)[d]'hdl := by simp [List.getD, hdl]
    rw [e1] at hkj
    rw [e2] at hkd'
    simp [hkj, hkd']
  have hlk := (kh_lk os (os.getD i default).key os.length (Nat.le_refl _)).1
  rw [List.take_length] at hlk
  unfold lk at hlk
  rw [hfd] at hlk
  cases hb : (kh os (os.getD i default).key os.length).1 with
  | none => rw [hb] at hlk; cases hlk
  | some b =>
    rw [hb] at hlk
    simp only [Option.map_some, Option.some.injEq] at hlk
    exact ⟨d, b, hd, hdl, hfd, rfl, hlk⟩

/-- what a put answers, by the history -/
theorem ans_ok (os : List Put) (i : Nat) (hi : i < os.length) : (ansOf os i).1 = (findE (putL [] (os.take i)) (os.getD i default).key).isSome ∧
    ((ansOf os i).2 = -1 ∧ leftE (putL [] (os.take i)) (os.getD i default) = vcells 0 ⟨#[]⟩ 0 ∨ ∃ f : Nat, (ansOf os i).2 = f ∧ f ≤ i ∧ leftE (putL [] (os.take i)) (os.getD i default) = (os.getD f default).val) := by
  have hlk := (kh_lk os (os.getD i default).key i (by omega)).1
  have hlt := kh_lt os (os.getD i default).key i
  unfold ansOf leftE
  unfold lk at hlk
  cases hb : (kh os (os.getD i default).key i).1 with
  | none =>
    rw [hb] at hlk
    cases hf : findE (putL [] (os.take i)) (os.getD i default).key with
    | some j => rw [hf] at hlk; cases hlk
    | none => exact ⟨rfl, .inl ⟨rfl, rfl⟩⟩
  | some b =>
    rw [hb] at hlk
    have hbi := hlt b hb
    cases hf : findE (putL [] (os.take i)) (os.getD i default).key with
    | none => rw [hf] at hlk; cases hlk
    | some j =>
      rw [hf] at hlk
      simp only [Option.map_some, Option.some.injEq] at hlk
      dsimp only
      rw [hlk]
      dsimp only
      by_cases hr : (os.getD i default).rank < (os.getD b default).rank
      · rw [if_pos hr]
        exact ⟨rfl, .inr ⟨i, rfl, Nat.le_refl _, by rw [if_pos hr]⟩⟩
      · rw [if_neg hr]
        exact ⟨rfl, .inr ⟨b, rfl, by omega, by rw [if_neg hr]; rfl⟩⟩
end Go.Proofs.Qxb6603471a
