import Derived.Test.Qxb6603471aAtGrow
namespace Go.Proofs.Qxb6603471a
open Go.RowKit Go.Maps
set_option linter.unusedSimpArgs false
set_option linter.unusedVariables false

theorem klit_key (k : ByteArray) : Go.WideAt.IsKeyLit (klit k) := by unfold klit; trivial

theorem idx_snoc {D : DataW Unit} {l : List Ent} {e : Ent} (h : IdxOk D l) (hnew : findE l e.key = none) : IdxOk (D.put (klit e.key) (.lit (.int .i64 (l.length : Nat)))) (l ++ [e]) := by
  refine ⟨h.1.put _ _, fun k => ?_⟩
  rw [findE_append]
  by_cases hk : e.key = k
  · subst hk
    rw [hnew, if_pos rfl]
    refine ⟨fun i hi => ?_, fun hi => by cases hi⟩
    obtain rfl : l.length = i := by simpa using hi
    exact ⟨Maps.has_put_same h.1 (klit_key _) _, fun z => Maps.atKey_put_same h.1 (klit_key _) _ z⟩
  · rw [if_neg hk]
    have hne : klit k ≠ klit e.key := fun e' => hk (klit_inj e').symm
    have e1 : (findE l k).or none = findE l k := by simp
    rw [e1]
    refine ⟨fun i hi => ?_, fun hi => ?_⟩
    · obtain ⟨h1, h2⟩ := (h.2 k).1 i hi
      exact ⟨by rw [Maps.has_put_other hne]; exact h1, fun z => by rw [Maps.atKey_put_other hne]; exact h2 z⟩
    · rw [Maps.has_put_other hne]; exact (h.2 k).2 hi

theorem idx_nil : IdxOk (.map [] : DataW Unit) [] := ⟨isMap_empty, fun k => ⟨fun i hi => by simp [findE] at hi, fun _ => rfl⟩⟩

theorem nodup_snoc {es : List Ent} {e : Ent} (h : (es.map Ent.key).Nodup) (hn : findE es e.key = none) : ((es ++ [e]).map Ent.key).Nodup := by
  rw [List.map_append, List.nodup_append]
  refine ⟨h, by simp, fun a ha b hb => ?_⟩
  simp at hb
  subst hb
  rintro rfl
  obtain ⟨x, hx, he⟩ := List.mem_map.1 ha
  obtain ⟨j, hj, rfl⟩ := List.mem_iff_getElem.1 hx
  exact findE_none hn j hj (by simpa [List.getD, hj] using he)

theorem take_new {es : List Ent} (h : (es.map Ent.key).Nodup) (k : Nat) (hk : k < es.length) : findE (es.take k) es[k].key = none := by
  refine findE_miss _ _ fun j hj => ?_
  have hjk : j < k := by simp at hj; omega
  have e : (es.take k).getD j default = es[j]'(by omega) := by simp [List.getD, hjk, show j < es.length by omega]
  rw [e]
  intro he
  have := List.pairwise_iff_getElem.1 h j k (by simp; omega) (by simpa using hk) hjk
  exact this (by simpa using he)

/-- 'm[k] = v' as one step of a region that draws. -/
theorem step_mapUpdate {P : Program} {ops : Array Oper} {o : Oper} {a : Act} {w : World} {K : Act → World → Prop} {Q : Exit → Act → World → Prop} {E : Prop} (hgd : o.guard = none) (m x v : Operand) (t : TypeId) (hop : o.op = Op.mapUpdate t m x v)
    (k e : TypeId) (K0 : Keyed P k) (ht : P.underlying t = some (.map k e)) (R : Value → Option (DataW Unit × List MemPlace)) (b n : Nat) (D : DataW Unit)
    (hm : a.eval m = .map (some b)) (hown : w.ownsMap P k R b n D) (hn : n < maxLen) (key val : Value) (kl : Lit) (hx : a.eval x = key) (hv : a.eval v = val) (hkey : keyOf P k key = some kl)
    (d : DataW Unit) (ps : List MemPlace) (hval : R val = some (d, ps))
    (h : ∀ w', w'.ownsMap P k R b (n + 1) (D.put kl d) → w.grownBy w' (some b) → K (a.put o.dst undef) w') : if Region.wanted o (yielded ops a.tmps) = true then Oper.wp P o a w K Q else E := by
  have hw : Region.wanted o (yielded ops a.tmps) = true := by simp [Region.wanted, hgd]
  rw [if_pos hw]
  obtain ⟨w', hrun, r1, r2⟩ := hown.update K0 ht hn hkey hval
  unfold Oper.wp
  simp [execOp, hop, hm, hx, hv, hrun, Result.andThen]
  exact h w' r1 r2
end Go.Proofs.Qxb6603471a
