import Derived.Test.Qxb6603471aAtPut
namespace Go.Proofs.Qxb6603471a
open Go.RowKit Go.Maps
set_option linter.unusedSimpArgs false
set_option linter.unusedVariables false

/-- 'ZZNewAttributeSet' -/
theorem new_any (w : World) : Calls Try.prog 28 #[] w fun e w' => e = .returned (.pointer (some ⟨w.heap.size, 0, none⟩)) ∧ w.alloc (.cells #[.slice none 0 0, .slice none 0 0, .map none] 88) = w' := by
  go_enter Try.func28, Try.ntmps28
  go_wp2
  go_ret
  exact ⟨rfl, rfl⟩

theorem setAt_new {w : World} {S B : Nat} (hrow : w.heap[S]? = some (.cells #[.slice none 0 0, .slice none 0 0, .map none] 88 (0, 0))) (hB : B ≤ w.heap.size) : SetAt w S B (.slice none 0 0) (.slice none 0 0) (.map none) [] none :=
  ⟨⟨hrow, World.ownsRow_nil _ _ _ _, World.ownsRow_nil _ _ _ _, .inl ⟨rfl, rfl⟩, hB⟩, List.nodup_nil, (fun e h => by cases h), .inl ⟨by simp, rfl⟩⟩

/-- 'ZZAttributeSetLen' -/
theorem len_any (S B : Nat) (av mv xv : Value) (es : List Ent) (xs : Option (Nat × Nat × DataW Unit)) (w : World) (h : Hid (SetAt w S B av mv xv es xs)) :
    Calls Try.prog 34 #[.pointer (some ⟨S, 0, none⟩)] w fun e w' => e = .returned (.int .i64 es.length) ∧ w = w' := by
  have c0 := h.out.c0
  obtain ⟨a, cap, rfl, _, _, _⟩ := own_form h.out.oa
  obtain ⟨n, hn⟩ : ∃ n, n = es.length := ⟨_, rfl⟩
  rw [← hn] at c0
  rw [← hn]
  clear hn
  go_enter Try.func34, Try.ntmps34
  go_wp2
  go_ret
  exact ⟨rfl, rfl⟩

/-- 'ZZAttributeSetPlace' -/
theorem zplace_any (S B : Nat) (av mv xv : Value) (es : List Ent) (xs : Option (Nat × Nat × DataW Unit)) (k : ByteArray) (w : World) (h : Hid (SetAt w S B av mv xv es xs)) (hk : k.size ≤ maxLen) (hn0 : Hid (es.length ≤ 1048576)) :
    Calls Try.prog 38 #[.pointer (some ⟨S, 0, none⟩), .string k] w fun e w' => PlacePost es k w e w' := by
  go_enter Try.func38, Try.ntmps38
  go_wp2_with fail
  refine (place_any S B av mv xv es xs k w h hk hn0).mono ?_
  rintro e w' ⟨rfl, rfl⟩
  obtain ⟨pl, hpl⟩ : ∃ pl, pl = findE es k := ⟨_, rfl⟩
  rw [← hpl]
  have HPL : Hid (pl = findE es k) := hpl
  clear hpl
  cases pl with
  | none =>
    go_wp2
    go_ret2
    exact place_miss HPL.out.symm
  | some i =>
    go_wp2
    go_ret2
    exact place_hit HPL.out.symm

theorem results_cell_one {P : Program} {fn : Func} {p : Tmp} {ty : TypeId} (h : fn.results = #[.cell p ty]) (tmps : Array Value) (w : World) (b o : Nat) (cs : List Value) (d : TypeDesc)
    (hp : tmps.getD p undef = .pointer (some ⟨b, o, none⟩)) (hc : w.rangeAt b o cs) (hu : P.underlying ty = some d) (hd : d.isRow = true) (hi : (P.info? ty).map (·.size) = some cs.length) :
    (results fn tmps).run P w = .ok (.agg cs.toArray) w := by
  have hp' : tmps[p]?.getD undef = .pointer (some ⟨b, o, none⟩) := by simpa using hp
  simp [results, h, hp', asAddr, run_loadVar_mid w b o ty cs d hc hu hd hi]

theorem results_at {P : Program} {fn : Func} {p q r s : Tmp} {ty : TypeId} (h : fn.results = #[.tmp q, .cell p ty, .tmp r, .tmp s]) (tmps : Array Value) (w : World) (b o : Nat) (cs : List Value) (d : TypeDesc)
    (hp : tmps.getD p undef = .pointer (some ⟨b, o, none⟩)) (hc : w.rangeAt b o cs) (hu : P.underlying ty = some d) (hd : d.isRow = true) (hi : (P.info? ty).map (·.size) = some cs.length) :
    (results fn tmps).run P w = .ok (.tuple #[tmps.getD q undef, .agg cs.toArray, tmps.getD r undef, tmps.getD s undef]) w := by
  have hp' : tmps[p]?.getD undef = .pointer (some ⟨b, o, none⟩) := by simpa using hp
  simp [results, h, hp', asAddr, run_loadVar_mid w b o ty cs d hc hu hd hi]

theorem below_of_grown {w w' w0 : World} {k : Nat} (h0 : Below w0.heap.size w0 w) (hg : w.grownBy w' (some k)) (hk : w0.heap.size ≤ k) : Below w0.heap.size w0 w' :=
  h0.grown hg h0.size (fun j e => by cases e; exact hk)

set_option maxRecDepth 100000 in
set_option maxHeartbeats 2000000 in
/-- 'kvOf' -/
theorem kvOf_any (p : Put) (pa : Array Value) (hpa : Hid (pa = p.cells.toArray)) (w : World) :
    Calls Try.prog 30 #[.agg pa] w fun e w' => e = .returned (.agg p.kv.toArray) ∧ Below w.heap.size w w' := by
  obtain ⟨pr, pk, pt, ps, pi⟩ := p
  obtain ⟨W0, hW0⟩ : ∃ W0, W0 = (w.alloc (.cells pa 53)).alloc (.cells zkv.toArray 55) := ⟨_, rfl⟩
  have HB : Hid (Below w.heap.size w W0) := by rw [hW0]; exact ((Below.refl _ _).alloc (Nat.le_refl _) _).alloc (by simp) _
  have e1 : W0.heap[w.heap.size]? = some (.cells pa 53 (0, 0)) := by rw [hW0]; exact heap_alloc2_old _ _ _
  have e2 : W0.heap[w.heap.size + 1]? = some (.cells zkv.toArray 55 (0, 0)) := by rw [hW0]; exact heap_alloc2_new _ _ _
  have hr : W0.rangeAt w.heap.size 0 (Put.cells ⟨pr, pk, pt, ps, pi⟩) := fun j v hv => by
    rw [cell_of_row W0 _ (0 + j) _ _ _ e1, hpa.out, Nat.zero_add, ← hv]; simp
  have g1 := put_c1 hr
  have g2 := put_c2 hr
  have g3 := put_c3 hr
  have g4 := put_c4 hr
  simp only [Nat.zero_add] at g1 g2 g3 g4
  have r2 : W0.rangeAt (w.heap.size + 1) 0 zkv := fun j v hv => by
    rw [cell_of_row W0 _ (0 + j) _ _ _ e2, Nat.zero_add, ← hv]; simp
  have HT : Hid (W0.there (w.heap.size + 1) 0 9) := fun j hj => ⟨r2.isSome j hj, frozen_of_row W0 _ _ _ _ e2⟩
  clear e1 e2 hr r2 hpa
  obtain ⟨kvl, hkvl⟩ : ∃ kvl, kvl = Put.kv ⟨pr, pk, pt, ps, pi⟩ := ⟨_, rfl⟩
  have HKL : Hid (kvl.length = 9 ∧ kvl.all (·.oneCell') = true) := by rw [hkvl]; exact ⟨rfl, rfl⟩
  rw [← hkvl]
  have HKS : Hid (kvl.toArray.size = 9) := by rw [hkvl]; exact rfl
  have HKE : Hid (Value.agg #[.string pk, .int .u8 pt, .string ps, .bool false, .int .i64 pi, .float .f64 0, .slice none 0 0, .slice none 0 0, .slice none 0 0] = Value.agg kvl.toArray) := by rw [hkvl]; exact rfl
  clear hkvl
  go_enter Try.func30, Try.ntmps30
  go_upto_region 1 with fail
  rw [show (w.alloc (.cells pa 53)).alloc (.cells #[.string ⟨#[]⟩, .int .u8 0, .string ⟨#[]⟩, .bool false, .int .i64 0, .float .f64 0, .slice none 0 0, .slice none 0 0, .slice none 0 0] 55) = W0 from hW0.symm]
  clear hW0
  go_wp2_with (refine wpList_store_mid rfl 55 _ _ rfl (w.heap.size + 1) 0 kvl.toArray rfl HKE.out (by rw [HKS.out]; exact HT.out) (by rw [HKS.out]; exact info55s) (by simpa using HKL.out.2) ?_)
  have hr := World.rangeAt_setCells_same W0 (w.heap.size + 1) 0 kvl (by rw [HKL.out.1]; exact HT.out)
  refine bodyPost_ret (results_cell_one (P := Try.prog) Try.results30 _ _ (w.heap.size + 1) 0 kvl _ rfl hr Try.underlying55 rfl (by rw [HKL.out.1]; exact info55s)) rfl ?_
  exact ⟨rfl, below_of_grown HB.out (grown_setCells _ _ _ _) (by omega)⟩

set_option maxRecDepth 100000 in
set_option maxHeartbeats 4000000 in
/-- 'ZZAttributeSetAt' -/
theorem at_any (S B : Nat) (av mv xv : Value) (es : List Ent) (xs : Option (Nat × Nat × DataW Unit)) (i : Nat) (w : World) (h : Hid (SetAt w S B av mv xv es xs)) (hi : i < es.length) (hn0 : Hid (es.length ≤ 1048576)) :
    Calls Try.prog 36 #[.pointer (some ⟨S, 0, none⟩), .int .i64 i] w fun e w' => e = .returned (.tuple #[.string es[i].key, .agg es[i].val.toArray, .int .u8 es[i].rank, .int .u8 es[i].held]) ∧ Below w.heap.size w w' := by
  obtain ⟨W0, hW0⟩ : ∃ W0, W0 = w.alloc (.cells (vcells 0 ⟨#[]⟩ 0).toArray 49) := ⟨_, rfl⟩
  have HB : Hid (Below w.heap.size w W0) := by rw [hW0]; exact (Below.refl _ _).alloc (Nat.le_refl _) _
  have HS : Hid (SetAt W0 S B av mv xv es xs) := h.out.below HB.out
  have HU := h.out.toSetMem.under
  have e2 : W0.heap[w.heap.size]? = some (.cells (vcells 0 ⟨#[]⟩ 0).toArray 49 (0, 0)) := by rw [hW0]; exact heap_alloc_new _ _
  have r2 : W0.rangeAt w.heap.size 0 (vcells 0 ⟨#[]⟩ 0) := fun j v hv => by
    rw [cell_of_row W0 _ (0 + j) _ _ _ e2, Nat.zero_add, ← hv]; simp
  have HTH : Hid (W0.drew.there w.heap.size 0 8) := (World.there_drew _ _ _ _).2 (fun j hj => ⟨r2.isSome j hj, frozen_of_row W0 _ _ _ _ e2⟩)
  clear e2 r2
  obtain ⟨aa, acap, hav, hac, ha0, ha1⟩ := own_form HS.out.oa
  obtain ⟨ma, mcap, hmv, hmc, hm0, hm1⟩ := own_form HS.out.om
  obtain ⟨A, rfl⟩ : ∃ A, aa = some ⟨A, 0, none⟩ := by
    cases aa with
    | none => have := (ha0 rfl).1; omega
    | some x => obtain ⟨g, rfl⟩ := ha1 x rfl; exact ⟨g, rfl⟩
  obtain ⟨M, rfl⟩ : ∃ A, ma = some ⟨A, 0, none⟩ := by
    cases ma with
    | none => have := (hm0 rfl).1; omega
    | some x => obtain ⟨g, rfl⟩ := hm1 x rfl; exact ⟨g, rfl⟩
  subst hav hmv
  have hAs : A < w.heap.size := HU.a A rfl
  have hMs : M < w.heap.size := HU.m M rfl
  have hSs : S < w.heap.size := HU.S
  obtain ⟨m1, m2, _⟩ := mark_at HS.out.toSetMem rfl (i := i) hi
  obtain ⟨v1, v2, _⟩ := vals_at HS.out.toSetMem rfl (i := i) hi
  have c0 := HS.out.c0
  have c1 := HS.out.c1
  obtain ⟨en, hen⟩ : ∃ en, en = es[i] := ⟨_, rfl⟩
  rw [← hen] at m1 m2 v1 v2
  rw [← hen]
  obtain ⟨n, hn⟩ : ∃ n, n = es.length := ⟨_, rfl⟩
  have hn' : n ≤ 1048576 := by rw [hn]; exact hn0.out
  rw [← hn] at hi c0 c1 hac hmc
  clear hen hn ha0 ha1 hm0 hm1 HU h HS
  obtain ⟨ek, et, es', ei, er, eh⟩ := en
  dsimp only [Ent.val] at *
  obtain ⟨ov, hov⟩ : ∃ ov, ov = vcells et es' ei := ⟨_, rfl⟩
  rw [← hov] at v2
  rw [← hov]
  have HOL : Hid (ov.length = 8 ∧ ov.all (·.oneCell') = true) := by rw [hov]; exact ⟨rfl, rfl⟩
  have HV : Hid (W0.rangeAt A (i * 9 + 1) ov) := v2
  have HOS : Hid (ov.toArray.size = 8) := by rw [hov]; exact rfl
  clear hov v2
  go_enter Try.func36, Try.ntmps36
  go_upto_region 1 with fail
  rw [show w.alloc (.cells #[.int .u8 0, .string ⟨#[]⟩, .bool false, .int .i64 0, .float .f64 0, .slice none 0 0, .slice none 0 0, .slice none 0 0] 49) = W0 from hW0.symm]
  clear hW0
  refine Until.start (fun w' => w'.cell? ⟨S, 0, none⟩ = some (.slice (some ⟨A, 0, none⟩) n acap) ∧ w'.cell? ⟨S, 1, none⟩ = some (.slice (some ⟨M, 0, none⟩) n mcap) ∧ w'.cell? ⟨A, i * 9, none⟩ = some (.string ek) ∧ w'.rangeAt A (i * 9 + 1) ov ∧ w'.cell? ⟨M, i * 2, none⟩ = some (.int .u8 er) ∧ w'.cell? ⟨M, i * 2 + 1, none⟩ = some (.int .u8 eh)) 35 (by kernel_rfl) ?_
  have hSW : W0.drew.cell? ⟨S, 0, none⟩ = some (.slice (some ⟨A, 0, none⟩) n acap) ∧ W0.drew.cell? ⟨S, 1, none⟩ = some (.slice (some ⟨M, 0, none⟩) n mcap) ∧ W0.drew.cell? ⟨A, i * 9, none⟩ = some (.string ek) ∧ W0.drew.rangeAt A (i * 9 + 1) ov ∧ W0.drew.cell? ⟨M, i * 2, none⟩ = some (.int .u8 er) ∧ W0.drew.cell? ⟨M, i * 2 + 1, none⟩ = some (.int .u8 eh) := ⟨c0, c1, v1, HV.out, m1, m2⟩
  refine Until.take_any (i := 0) (v := ?_) rfl (by kernel_rfl) (by kernel_rfl) (by kernel_rfl) (by kernel_rfl) (fun _ _ _ h => h) (.inr hSW) (Or.inl ⟨by rfl, ?_⟩) ?_
  rotate_left
  · intro w; go_simp; try with_reducible rfl
  simp only [Act.put, List.setIfInBounds_toArray, List.set_cons_zero, List.set_cons_succ]
  refine Until.take_any (i := 1) (v := ?_) rfl (by kernel_rfl) (by kernel_rfl) (by kernel_rfl) (by kernel_rfl) (fun _ _ _ h => h) (.inr hSW) (Or.inl ⟨by rfl, ?_⟩) ?_
  rotate_left
  · intro w; go_simp; try with_reducible rfl
  simp only [Act.put, List.setIfInBounds_toArray, List.set_cons_zero, List.set_cons_succ]
  refine Until.take_any (i := 2) (v := ?_) rfl (by kernel_rfl) (by kernel_rfl) (by kernel_rfl) (by kernel_rfl) (fun _ _ _ h => h) (.inr hSW) (Or.inl ⟨by rfl, ?_⟩) ?_
  rotate_left
  · intro w; go_simp; try with_reducible rfl
  simp only [Act.put, List.setIfInBounds_toArray, List.set_cons_zero, List.set_cons_succ]
  refine Until.take_load (i := 3) (v := ?_) rfl (by kernel_rfl) (by kernel_rfl) (by kernel_rfl) (by kernel_rfl) (by kernel_rfl) (by kernel_rfl) (fun _ _ _ h => h) hSW (Or.inl ⟨by rfl, ?_⟩) ?_
  rotate_left
  · intro w hw; obtain ⟨hw0, hw1, hw2, hw3, hw4, hw5⟩ := hw; go_simp; try with_reducible rfl
  simp only [Act.put, List.setIfInBounds_toArray, List.set_cons_zero, List.set_cons_succ]
  refine Until.take_any (i := 4) (v := ?_) rfl (by kernel_rfl) (by kernel_rfl) (by kernel_rfl) (by kernel_rfl) (fun _ _ _ h => h) (.inr hSW) (Or.inl ⟨by rfl, ?_⟩) ?_
  rotate_left
  · intro w; go_simp; try with_reducible rfl
  simp only [Act.put, List.setIfInBounds_toArray, List.set_cons_zero, List.set_cons_succ]
  refine Until.take_any (i := 5) (v := ?_) rfl (by kernel_rfl) (by kernel_rfl) (by kernel_rfl) (by kernel_rfl) (fun _ _ _ h => h) (.inr hSW) (Or.inl ⟨by rfl, ?_⟩) ?_
  rotate_left
  · intro w; go_simp; try with_reducible rfl
  simp only [Act.put, List.setIfInBounds_toArray, List.set_cons_zero, List.set_cons_succ]
  refine Until.take_any (i := 6) (v := ?_) rfl (by kernel_rfl) (by kernel_rfl) (by kernel_rfl) (by kernel_rfl) (fun _ _ _ h => h) (.inr hSW) (Or.inl ⟨by rfl, ?_⟩) ?_
  rotate_left
  · intro w; go_simp; try with_reducible rfl
  simp only [Act.put, List.setIfInBounds_toArray, List.set_cons_zero, List.set_cons_succ]
  refine Until.take_load (i := 7) (v := ?_) rfl (by kernel_rfl) (by kernel_rfl) (by kernel_rfl) (by kernel_rfl) (by kernel_rfl) (by kernel_rfl) (fun _ _ _ h => h) hSW (Or.inl ⟨by rfl, ?_⟩) ?_
  rotate_left
  · intro w hw; obtain ⟨hw0, hw1, hw2, hw3, hw4, hw5⟩ := hw; go_simp; try with_reducible rfl
  simp only [Act.put, List.setIfInBounds_toArray, List.set_cons_zero, List.set_cons_succ]
  refine Until.take_any (i := 8) (v := ?_) rfl (by kernel_rfl) (by kernel_rfl) (by kernel_rfl) (by kernel_rfl) (fun _ _ _ h => h) (.inr hSW) (Or.inl ⟨by rfl, ?_⟩) ?_
  rotate_left
  · intro w; go_simp; try with_reducible rfl
  simp only [Act.put, List.setIfInBounds_toArray, List.set_cons_zero, List.set_cons_succ]
  refine Until.take_any (i := 9) (v := ?_) rfl (by kernel_rfl) (by kernel_rfl) (by kernel_rfl) (by kernel_rfl) (fun _ _ _ h => h) (.inr hSW) (Or.inl ⟨by rfl, ?_⟩) ?_
  rotate_left
  · intro w; go_simp; try with_reducible rfl
  simp only [Act.put, List.setIfInBounds_toArray, List.set_cons_zero, List.set_cons_succ]
  refine Until.take_any (i := 10) (v := ?_) rfl (by kernel_rfl) (by kernel_rfl) (by kernel_rfl) (by kernel_rfl) (fun _ _ _ h => h) (.inr hSW) (Or.inl ⟨by rfl, ?_⟩) ?_
  rotate_left
  · intro w; go_simp; try with_reducible rfl
  simp only [Act.put, List.setIfInBounds_toArray, List.set_cons_zero, List.set_cons_succ]
  refine Until.take_load (i := 11) (v := ?_) rfl (by kernel_rfl) (by kernel_rfl) (by kernel_rfl) (by kernel_rfl) (by kernel_rfl) (by kernel_rfl) (fun _ _ _ h => h) hSW (Or.inl ⟨by rfl, ?_⟩) ?_
  rotate_left
  · intro w hw; obtain ⟨hw0, hw1, hw2, hw3, hw4, hw5⟩ := hw; go_simp; try with_reducible rfl
  simp only [Act.put, List.setIfInBounds_toArray, List.set_cons_zero, List.set_cons_succ]
  refine Until.take_any (i := 12) (v := ?_) rfl (by kernel_rfl) (by kernel_rfl) (by kernel_rfl) (by kernel_rfl) (fun _ _ _ h => h) (.inr hSW) (Or.inl ⟨by rfl, ?_⟩) ?_
  rotate_left
  · intro w; go_simp; try with_reducible rfl
  simp only [Act.put, List.setIfInBounds_toArray, List.set_cons_zero, List.set_cons_succ]
  refine Until.take_any (i := 13) (v := ?_) rfl (by kernel_rfl) (by kernel_rfl) (by kernel_rfl) (by kernel_rfl) (fun _ _ _ h => h) (.inr hSW) (Or.inl ⟨by rfl, ?_⟩) ?_
  rotate_left
  · intro w; go_simp; try with_reducible rfl
  simp only [Act.put, List.setIfInBounds_toArray, List.set_cons_zero, List.set_cons_succ]
  refine Until.take_any (i := 14) (v := ?_) rfl (by kernel_rfl) (by kernel_rfl) (by kernel_rfl) (by kernel_rfl) (fun _ _ _ h => h) (.inr hSW) (Or.inl ⟨by rfl, ?_⟩) ?_
  rotate_left
  · intro w; go_simp; try with_reducible rfl
  simp only [Act.put, List.setIfInBounds_toArray, List.set_cons_zero, List.set_cons_succ]
  refine Until.take_load (i := 15) (v := .agg ov.toArray) rfl (by kernel_rfl) (by kernel_rfl) (by kernel_rfl) (by kernel_rfl) (by kernel_rfl) (by kernel_rfl) (fun _ _ _ h => h) hSW (yieldsIf_load_mid (by rfl) 49 _ rfl A (i * 9 + 1) rfl ov _ (fun _ h => h.2.2.2.1) Try.underlying49 rfl (by rw [HOL.out.1]; exact info49s)) ?_
  simp only [Act.put, List.setIfInBounds_toArray, List.set_cons_zero, List.set_cons_succ]
  refine Until.take_any (i := 16) (v := ?_) rfl (by kernel_rfl) (by kernel_rfl) (by kernel_rfl) (by kernel_rfl) (fun _ _ _ h => h) (.inr hSW) (Or.inl ⟨by rfl, ?_⟩) ?_
  rotate_left
  · intro w; go_simp; try with_reducible rfl
  simp only [Act.put, List.setIfInBounds_toArray, List.set_cons_zero, List.set_cons_succ]
  refine Until.take_any (i := 17) (v := ?_) rfl (by kernel_rfl) (by kernel_rfl) (by kernel_rfl) (by kernel_rfl) (fun _ _ _ h => h) (.inr hSW) (Or.inl ⟨by rfl, ?_⟩) ?_
  rotate_left
  · intro w; go_simp; try with_reducible rfl
  simp only [Act.put, List.setIfInBounds_toArray, List.set_cons_zero, List.set_cons_succ]
  refine Until.take_any (i := 18) (v := ?_) rfl (by kernel_rfl) (by kernel_rfl) (by kernel_rfl) (by kernel_rfl) (fun _ _ _ h => h) (.inr hSW) (Or.inl ⟨by rfl, ?_⟩) ?_
  rotate_left
  · intro w; go_simp; try with_reducible rfl
  simp only [Act.put, List.setIfInBounds_toArray, List.set_cons_zero, List.set_cons_succ]
  refine Until.take_load (i := 19) (v := ?_) rfl (by kernel_rfl) (by kernel_rfl) (by kernel_rfl) (by kernel_rfl) (by kernel_rfl) (by kernel_rfl) (fun _ _ _ h => h) hSW (Or.inl ⟨by rfl, ?_⟩) ?_
  rotate_left
  · intro w hw; obtain ⟨hw0, hw1, hw2, hw3, hw4, hw5⟩ := hw; go_simp; try with_reducible rfl
  simp only [Act.put, List.setIfInBounds_toArray, List.set_cons_zero, List.set_cons_succ]
  refine Until.take_any (i := 20) (v := ?_) rfl (by kernel_rfl) (by kernel_rfl) (by kernel_rfl) (by kernel_rfl) (fun _ _ _ h => h) (.inr hSW) (Or.inl ⟨by rfl, ?_⟩) ?_
  rotate_left
  · intro w; go_simp; try with_reducible rfl
  simp only [Act.put, List.setIfInBounds_toArray, List.set_cons_zero, List.set_cons_succ]
  refine Until.take_any (i := 21) (v := ?_) rfl (by kernel_rfl) (by kernel_rfl) (by kernel_rfl) (by kernel_rfl) (fun _ _ _ h => h) (.inr hSW) (Or.inl ⟨by rfl, ?_⟩) ?_
  rotate_left
  · intro w; go_simp; try with_reducible rfl
  simp only [Act.put, List.setIfInBounds_toArray, List.set_cons_zero, List.set_cons_succ]
  refine Until.take_any (i := 22) (v := ?_) rfl (by kernel_rfl) (by kernel_rfl) (by kernel_rfl) (by kernel_rfl) (fun _ _ _ h => h) (.inr hSW) (Or.inl ⟨by rfl, ?_⟩) ?_
  rotate_left
  · intro w; go_simp; try with_reducible rfl
  simp only [Act.put, List.setIfInBounds_toArray, List.set_cons_zero, List.set_cons_succ]
  refine Until.take_load (i := 23) (v := ?_) rfl (by kernel_rfl) (by kernel_rfl) (by kernel_rfl) (by kernel_rfl) (by kernel_rfl) (by kernel_rfl) (fun _ _ _ h => h) hSW (Or.inl ⟨by rfl, ?_⟩) ?_
  rotate_left
  · intro w hw; obtain ⟨hw0, hw1, hw2, hw3, hw4, hw5⟩ := hw; go_simp; try with_reducible rfl
  simp only [Act.put, List.setIfInBounds_toArray, List.set_cons_zero, List.set_cons_succ]
  refine Until.take_any (i := 24) (v := ?_) rfl (by kernel_rfl) (by kernel_rfl) (by kernel_rfl) (by kernel_rfl) (fun _ _ _ h => h) (.inr hSW) (Or.inl ⟨by rfl, ?_⟩) ?_
  rotate_left
  · intro w; go_simp; try with_reducible rfl
  simp only [Act.put, List.setIfInBounds_toArray, List.set_cons_zero, List.set_cons_succ]
  refine Until.take_any (i := 25) (v := ?_) rfl (by kernel_rfl) (by kernel_rfl) (by kernel_rfl) (by kernel_rfl) (fun _ _ _ h => h) (.inr hSW) (Or.inl ⟨by rfl, ?_⟩) ?_
  rotate_left
  · intro w; go_simp; try with_reducible rfl
  simp only [Act.put, List.setIfInBounds_toArray, List.set_cons_zero, List.set_cons_succ]
  refine Until.take_any (i := 26) (v := ?_) rfl (by kernel_rfl) (by kernel_rfl) (by kernel_rfl) (by kernel_rfl) (fun _ _ _ h => h) (.inr hSW) (Or.inl ⟨by rfl, ?_⟩) ?_
  rotate_left
  · intro w; go_simp; try with_reducible rfl
  simp only [Act.put, List.setIfInBounds_toArray, List.set_cons_zero, List.set_cons_succ]
  refine Until.take_load (i := 27) (v := ?_) rfl (by kernel_rfl) (by kernel_rfl) (by kernel_rfl) (by kernel_rfl) (by kernel_rfl) (by kernel_rfl) (fun _ _ _ h => h) hSW (Or.inl ⟨by rfl, ?_⟩) ?_
  rotate_left
  · intro w hw; obtain ⟨hw0, hw1, hw2, hw3, hw4, hw5⟩ := hw; go_simp; try with_reducible rfl
  simp only [Act.put, List.setIfInBounds_toArray, List.set_cons_zero, List.set_cons_succ]
  refine Until.take_any (i := 28) (v := ?_) rfl (by kernel_rfl) (by kernel_rfl) (by kernel_rfl) (by kernel_rfl) (fun _ _ _ h => h) (.inr hSW) (Or.inl ⟨by rfl, ?_⟩) ?_
  rotate_left
  · intro w; go_simp; try with_reducible rfl
  simp only [Act.put, List.setIfInBounds_toArray, List.set_cons_zero, List.set_cons_succ]
  refine Until.take_any (i := 29) (v := ?_) rfl (by kernel_rfl) (by kernel_rfl) (by kernel_rfl) (by kernel_rfl) (fun _ _ _ h => h) (.inr hSW) (Or.inl ⟨by rfl, ?_⟩) ?_
  rotate_left
  · intro w; go_simp; try with_reducible rfl
  simp only [Act.put, List.setIfInBounds_toArray, List.set_cons_zero, List.set_cons_succ]
  refine Until.take_any (i := 30) (v := ?_) rfl (by kernel_rfl) (by kernel_rfl) (by kernel_rfl) (by kernel_rfl) (fun _ _ _ h => h) (.inr hSW) (Or.inl ⟨by rfl, ?_⟩) ?_
  rotate_left
  · intro w; go_simp; try with_reducible rfl
  simp only [Act.put, List.setIfInBounds_toArray, List.set_cons_zero, List.set_cons_succ]
  refine Until.take_load (i := 31) (v := ?_) rfl (by kernel_rfl) (by kernel_rfl) (by kernel_rfl) (by kernel_rfl) (by kernel_rfl) (by kernel_rfl) (fun _ _ _ h => h) hSW (Or.inl ⟨by rfl, ?_⟩) ?_
  rotate_left
  · intro w hw; obtain ⟨hw0, hw1, hw2, hw3, hw4, hw5⟩ := hw; go_simp; try with_reducible rfl
  simp only [Act.put, List.setIfInBounds_toArray, List.set_cons_zero, List.set_cons_succ]
  refine Until.only (i := 32) (by kernel_rfl) rfl (fun K hK => ?_)
  go_simp
  refine hK _ _ (.inr hSW) ?_
  clear hK K
  refine Until.only (i := 33) (by kernel_rfl) rfl (fun K hK => ?_)
  refine step_store_mid rfl 49 _ _ rfl w.heap.size 0 ov.toArray rfl rfl (by rw [HOS.out]; exact HTH.out) (by rw [HOS.out]; exact info49s) (by simpa using HOL.out.2) ?_
  obtain ⟨W2, hW2⟩ : ∃ W2, W2 = W0.drew.setCells w.heap.size 0 ov.toArray.toList := ⟨_, rfl⟩
  have HG2 : Hid (W0.drew.grownBy W2 (some w.heap.size)) := by rw [hW2]; exact grown_setCells _ _ _ _
  have HR2 : Hid (W2.rangeAt w.heap.size 0 ov) := by rw [hW2]; exact World.rangeAt_setCells_same _ _ _ _ (by rw [show ov.toArray.toList = ov from rfl, HOL.out.1]; exact HTH.out)
  rw [← hW2]
  clear hW2
  have hSW2 : W2.cell? ⟨S, 0, none⟩ = some (.slice (some ⟨A, 0, none⟩) n acap) ∧ W2.cell? ⟨S, 1, none⟩ = some (.slice (some ⟨M, 0, none⟩) n mcap) ∧ W2.cell? ⟨A, i * 9, none⟩ = some (.string ek) ∧ W2.rangeAt A (i * 9 + 1) ov ∧ W2.cell? ⟨M, i * 2, none⟩ = some (.int .u8 er) ∧ W2.cell? ⟨M, i * 2 + 1, none⟩ = some (.int .u8 eh) := ⟨HG2.out.cell hSW.1 (by simp; omega), HG2.out.cell hSW.2.1 (by simp; omega), HG2.out.cell hSW.2.2.1 (by simp; omega), rangeAt_grown hSW.2.2.2.1 HG2.out (by simp; omega), HG2.out.cell hSW.2.2.2.2.1 (by simp; omega), HG2.out.cell hSW.2.2.2.2.2 (by simp; omega)⟩
  refine hK _ _ (.inr hSW2) ?_
  clear hK K hSW
  simp only [Act.put, List.setIfInBounds_toArray, List.set_cons_zero, List.set_cons_succ]
  refine Until.only (i := 34) (by kernel_rfl) rfl (fun K hK => ?_)
  go_simp
  refine hK _ _ (.inr hSW2) ?_
  clear hK K
  refine Until.only (i := 35) (by kernel_rfl) rfl (fun K hK => ?_)
  go_simp
  refine hK _ _ (.inl (by kernel_rfl)) ?_
  clear hK K hSW2
  refine Until.done (by kernel_rfl) ?_ _
  go_wp2
  refine bodyPost_ret (results_at (P := Try.prog) Try.results36 _ _ w.heap.size 0 ov _ rfl HR2.out Try.underlying49 rfl (by rw [HOL.out.1]; exact info49s)) rfl ?_
  exact ⟨rfl, below_of_grown (w := W0.drew) HB.out.drew HG2.out (Nat.le_refl _)⟩

theorem SetMem.besideT {w w' : World} {S B k : Nat} {av mv xv : Value} {ea em : List Ent} {xs : Option (Nat × Nat × DataW Unit)} {cs : Array Value} {t : TypeId} {fr : Nat × Nat} (h : SetMem w S B av mv xv ea em xs) (hk : w.heap[k]? = some (.cells cs t fr)) (h1 : t ≠ 55) (h2 : t ≠ 92) (h3 : t ≠ 88) (hg : w.grownBy w' (some k)) : SetMem w' S B av mv xv ea em xs :=
  h.kept hg fun j e => by
    cases e
    refine .inr ⟨fun e => ?_, fun e => ?_, fun e => ?_, fun X c D e => ?_⟩
    · subst e; rw [h.row] at hk; cases hk; exact h3 rfl
    · obtain ⟨cur, hh, _⟩ := own_block h.oa e; rw [hk] at hh; cases hh; exact h1 rfl
    · obtain ⟨cur, hh, _⟩ := own_block h.om e; rw [hk] at hh; cases hh; exact h2 rfl
    · subst e; exact map_ne h.map.1 hk

theorem results_cell_tmp' {P : Program} {fn : Func} {p q : Tmp} {ty : TypeId} (h : fn.results = #[.cell p ty, .tmp q]) (tmps : Array Value) (w : World) (b o : Nat) (cs : List Value) (d : TypeDesc)
    (hp : tmps.getD p undef = .pointer (some ⟨b, o, none⟩)) (hc : w.rangeAt b o cs) (hu : P.underlying ty = some d) (hd : d.isRow = true) (hi : (P.info? ty).map (·.size) = some cs.length) :
    (results fn tmps).run P w = .ok (.tuple #[.agg cs.toArray, tmps.getD q undef]) w := results_cell_tmp h tmps w b o cs d hp hc hu hd hi

theorem left_facts (es : List Ent) (p : Put) : (leftE es p).length = 8 ∧ (leftE es p).all (·.oneCell') = true := by
  unfold leftE
  split
  · split <;> exact ⟨rfl, rfl⟩
  · exact ⟨rfl, rfl⟩

set_option maxRecDepth 100000 in
set_option maxHeartbeats 2000000 in
/-- 'ZZAttributeSetPut' -/
theorem zput_any (S B : Nat) (av mv xv : Value) (es : List Ent) (xs : Option (Nat × Nat × DataW Unit)) (p : Put) (ka : Array Value) (hka : Hid (ka = p.kv.toArray)) (w : World) (h : Hid (SetAt w S B av mv xv es xs)) (hp : p.ok) (hn0 : Hid (es.length ≤ 1048576)) :
    Calls Try.prog 29 #[.pointer (some ⟨S, 0, none⟩), .int .u8 p.rank, .agg ka] w fun e w' => PutPost S B (Owns av mv xs) es p w e w' := by
  obtain ⟨W0, hW0⟩ : ∃ W0, W0 = (w.alloc (.cells ka 55)).alloc (.cells (vcells 0 ⟨#[]⟩ 0).toArray 49) := ⟨_, rfl⟩
  have HB : Hid (Below w.heap.size w W0) := by rw [hW0]; exact ((Below.refl _ _).alloc (Nat.le_refl _) _).alloc (by simp) _
  have HSZ : Hid (W0.heap.size = w.heap.size + 2) := by unfold Hid; rw [hW0]; simp
  have e1 : W0.heap[w.heap.size]? = some (.cells ka 55 (0, 0)) := by rw [hW0]; exact heap_alloc2_old _ _ _
  have e2 : W0.heap[w.heap.size + 1]? = some (.cells (vcells 0 ⟨#[]⟩ 0).toArray 49 (0, 0)) := by rw [hW0]; exact heap_alloc2_new _ _ _
  have HE2 : Hid (W0.heap[w.heap.size + 1]? = some (.cells (vcells 0 ⟨#[]⟩ 0).toArray 49 (0, 0))) := e2
  have HS : Hid (SetAt W0 S B av mv xv es xs) := h.out.below HB.out
  have HU : Hid (Under w.heap.size S av mv xs) := h.out.toSetMem.under
  obtain ⟨kvl, hkvl⟩ : ∃ kvl, kvl = p.kv := ⟨_, rfl⟩
  have HKL : Hid (kvl.length = 9) := by rw [hkvl]; exact rfl
  have HKA : Hid (kvl.toArray = p.kv.toArray) := by rw [hkvl]; exact rfl
  have HR : Hid (W0.rangeAt w.heap.size 0 kvl) := fun j v hv => by
    rw [cell_of_row W0 _ (0 + j) _ _ _ e1, hka.out, Nat.zero_add, ← hv, hkvl]; simp
  clear e1 e2 hkvl
  obtain ⟨lv, hlv⟩ : ∃ lv, lv = leftE es p := ⟨_, rfl⟩
  have HLV : Hid (lv = leftE es p) := hlv
  have HLL : Hid (lv.length = 8 ∧ lv.all (·.oneCell') = true) := by rw [hlv]; exact left_facts es p
  have HLS : Hid (lv.toArray.size = 8) := by unfold Hid; rw [List.size_toArray]; exact HLL.out.1
  clear hlv
  obtain ⟨hb, hhb⟩ : ∃ hb, hb = (findE es p.key).isSome := ⟨_, rfl⟩
  have HHB : Hid (hb = (findE es p.key).isSome) := hhb
  clear hhb
  go_enter Try.func29, Try.ntmps29
  go_upto_region 1 with fail
  rw [show (w.alloc (.cells ka 55)).alloc (.cells #[.int .u8 0, .string ⟨#[]⟩, .bool false, .int .i64 0, .float .f64 0, .slice none 0 0, .slice none 0 0, .slice none 0 0] 49) = W0 from hW0.symm]
  clear hW0
  go_wp2_with (refine wpList_load_mid rfl 55 _ rfl w.heap.size 0 rfl kvl _ HR.out Try.underlying55 rfl (by rw [HKL.out]; exact info55s) ?_)
  refine (put_any S B av mv xv es xs p kvl.toArray HKA W0 HS hp hn0).mono ?_
  rintro e W1 ⟨av', mv', xv', xs', he, hset, hfr⟩
  rw [← HLV.out, ← HHB.out] at he
  subst he
  have hk1 : W1.heap[w.heap.size + 1]? = some (.cells (vcells 0 ⟨#[]⟩ 0).toArray 49 (0, 0)) := by
    rw [hfr.block (w.heap.size + 1) (by rw [HSZ.out]; omega) (by have := HU.out.S; omega) (by
      rintro (e | e | ⟨c, D, e⟩)
      · have := HU.out.a _ e; omega
      · have := HU.out.m _ e; omega
      · have := HU.out.x _ _ _ e; omega)]
    exact HE2.out
  have HTH : Hid (W1.there (w.heap.size + 1) 0 8) := by
    have r2 : W1.rangeAt (w.heap.size + 1) 0 (vcells 0 ⟨#[]⟩ 0) := fun j v hv => by
      rw [cell_of_row W1 _ (0 + j) _ _ _ hk1, Nat.zero_add, ← hv]; simp
    exact fun j hj => ⟨r2.isSome j hj, frozen_of_row W1 _ _ _ _ hk1⟩
  have HK1 : Hid (W1.heap[w.heap.size + 1]? = some (.cells (vcells 0 ⟨#[]⟩ 0).toArray 49 (0, 0))) := hk1
  have HSET : Hid (SetAt W1 S B av' mv' xv' (putE es p) xs') := hset
  have HFR : Hid (Frm S W0.heap.size (Owns av mv xs) W0 W1) := hfr
  clear hk1 hset hfr
  go_wp2_with (refine wpList_store_mid rfl 49 _ _ rfl (w.heap.size + 1) 0 lv.toArray rfl rfl (by rw [HLS.out]; exact HTH.out) (by rw [HLS.out]; exact info49s) (by simpa using HLL.out.2) ?_)
  have hg := grown_setCells (w.heap.size + 1) lv 0 W1
  have hr := World.rangeAt_setCells_same W1 (w.heap.size + 1) 0 lv (by rw [HLL.out.1]; exact HTH.out)
  refine bodyPost_ret (results_cell_tmp (P := Try.prog) Try.results29 _ _ (w.heap.size + 1) 0 lv _ rfl hr Try.underlying49 rfl (by rw [HLL.out.1]; exact info49s)) rfl ?_
  refine put_done HLV.out HHB.out (av := av') (mv := mv') (xv := xv') (xs := xs') ?_ rfl ?_
  · exact ⟨HSET.out.toSetMem.besideT HK1.out (by decide) (by decide) (by decide) hg, HSET.out.nd, HSET.out.ko, HSET.out.ix⟩
  · have f1 : Frm S w.heap.size (Owns av mv xs) w W0 := Frm.of_below HB.out (Nat.le_refl _)
    have f2 : Frm S w.heap.size (Owns av mv xs) W0 W1 := ⟨HFR.out.os, HFR.out.tape, HFR.out.output, HFR.out.size, fun k hk hS hO => HFR.out.block k (by rw [HSZ.out]; omega) hS hO⟩
    have f3 : Frm S w.heap.size (Owns av mv xs) W1 (W1.setCells (w.heap.size + 1) 0 lv) := Frm.of_grown hg (by have := HFR.out.size; have := HSZ.out; omega) (fun k e => by cases e; exact .inr (.inr (by omega)))
    exact (f1.trans f2).trans f3

/-- A put writes nothing below B but block S. -/
theorem PutPost.bel {S B : Nat} {av mv xv : Value} {es : List Ent} {xs : Option (Nat × Nat × DataW Unit)} {p : Put} {w w' : World} {e : Ending} (h : SetMem w S B av mv xv es es xs) (hp : PutPost S B (Owns av mv xs) es p w e w') : BelS S B w w' := by
  obtain ⟨_, _, _, _, _, _, hf⟩ := hp
  refine ⟨hf.os, hf.tape, hf.output, hf.size, fun k hk hS => hf.block k (Nat.lt_of_lt_of_le hk h.size) hS ?_⟩
  rintro (e | e | ⟨c, D, e⟩)
  · obtain ⟨_, _, hb⟩ := own_block h.oa e; omega
  · obtain ⟨_, _, hb⟩ := own_block h.om e; omega
  · subst e; have := h.map.2.1; omega
end Go.Proofs.Qxb6603471a
