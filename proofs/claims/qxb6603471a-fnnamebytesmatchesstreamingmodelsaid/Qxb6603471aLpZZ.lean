import Derived.Test.Qxb6603471aLpName
import Derived.Test.Qxb6603471aArg
import Derived.Laws.CopyOwn
namespace Go.Proofs.Qxb6603471a
open Go.RowKit
set_option linter.unusedSimpArgs false
set_option linter.unusedVariables false

/-- 'new' of a type whose zero value is known. -/
theorem wpList_alloc_zero {P : Program} {ops : Array Oper} {rest : List Oper} {o : Oper} {a : Act} {w : World} {Q : Exit → Act → World → Prop} (hgd : o.guard = none) (ty : TypeId) (ho : o.op = .alloc ty)
    (i : TypeInfo) (z : Value) (hi : P.info? ty = some i) (hz : i.zero = some z)
    (h : wpList P ops Q rest (a.put o.dst (.pointer (some ⟨w.heap.size, 0, none⟩))) (w.alloc (.cells z.cells ty))) : wpList P ops Q (o :: rest) a w := by
  refine wpList_plain hgd fun K hK => ?_
  unfold Oper.wp execOp
  have e1 : (zeroValue ty).run P w = .ok z w := by
    have e0 : (typeInfo ty).run P w = .ok i w := by simp [typeInfo, hi]
    simp only [zeroValue, Sem.run_bind, e0, Result.andThen_ok, hz, Sem.run_pure]
  have e2 : (Instr.alloc ty true (.tuple #[])).run P w = .ok (.pointer (some ⟨w.heap.size, 0, none⟩)) (w.alloc (.cells z.cells ty)) := by
    simp only [Instr.alloc, Sem.run_bind, e1, Result.andThen_ok, newVar, newRow, run_newObj, Sem.run_pure]
    rfl
  simp only [ho, Sem.run_bind, e2, Result.andThen_ok, Sem.run_pure]
  exact hK _ _ h

theorem info80 : (Try.prog.info? 80).map (fun i => (i.zero.map (·.cells.size), i.size)) = some (some 256, 256) := by kernel_rfl
theorem info80s : (Try.prog.info? 80).map (·.size) = some 256 := by kernel_rfl
theorem info31s : (Try.prog.info? 31).map (·.size) = some 256 := by kernel_rfl
theorem info80_parts : ∃ i z, Try.prog.info? 80 = some i ∧ i.zero = some z ∧ z.cells.size = 256 := by
  have h := info80
  cases hq : Try.prog.info? 80 with
  | none => rw [hq] at h; cases h
  | some i =>
    rw [hq] at h
    simp only [Option.map_some, Option.some.injEq, Prod.mk.injEq] at h
    cases hz : i.zero with
    | none => rw [hz] at h; cases h.1
    | some z => exact ⟨i, z, rfl, hz, by simpa [hz] using h.1⟩

/-- What a call of 'ZZNameBytes' is told. -/
structure ZPre (ao : Option Addr) (n c : Nat) (T0 : Option Nat) (ta : Option Addr) (tn tc : Nat) (zs : List Int) (Ea Da : Array Value) (E D : Int → Bool) (w : World) : Prop where
  own : OwnB w 0 (.slice ta 0 tc) []
  form : (ta = none ∧ tn = 0 ∧ tc = 0) ∨ ∃ T, ta = some ⟨T, 0, none⟩
  t0 : (Value.slice ta 0 tc).ownBlock = T0
  t0lt : ∀ T, T0 = some T → T < w.heap.size
  rd : Rd w ao n zs
  inT : ∀ b o, ao = some ⟨b, o, none⟩ → b < w.heap.size ∧ some b ≠ T0
  eA : ∀ x : Int, 0 ≤ x → x ≤ 255 → Ea[x.toNat]? = some (.bool (E x))
  dA : ∀ x : Int, 0 ≤ x → x ≤ 255 → Da[x.toNat]? = some (.bool (D x))
  bytes : ∀ k, 0 ≤ Json.at0 zs k ∧ Json.at0 zs k ≤ 255

/-- The world at the call of 'nameBytes'. -/
def atCall (w : World) (Ea Da zc row : Array Value) : World :=
  ((((((w.alloc (.cells Ea 31)).alloc (.cells Da 31)).alloc (.cells row 79)).alloc (.cells zc 80)).setRow (w.heap.size + 3) Ea).alloc (.cells zc 80)).setRow (w.heap.size + 4) Da

theorem atCall_below (w : World) (Ea Da zc row : Array Value) : Below w.heap.size w (atCall w Ea Da zc row) := by
  unfold atCall
  have b3 := (((Below.refl w.heap.size w).alloc (Nat.le_refl _) (.cells Ea 31)).alloc (by simp) (.cells Da 31)).alloc (by simp; omega) (.cells row 79)
  exact below_setRow ((below_setRow (b3.alloc (by simp; omega) (.cells zc 80)) (by omega) Ea).alloc (by simp; omega) _) (by omega) _

theorem atCall_size (w : World) (Ea Da zc row : Array Value) : (atCall w Ea Da zc row).heap.size = w.heap.size + 5 := by
  unfold atCall; simp

theorem atCall_row (w : World) (Ea Da zc row : Array Value) : (atCall w Ea Da zc row).heap[w.heap.size + 2]? = some (.cells row 79 (0, 0)) := by
  unfold atCall
  rw [setRow_other _ _ _ _ (by omega), Below.heap_alloc _ _ _ (by simp), setRow_other _ _ _ _ (by omega), Below.heap_alloc _ _ _ (by simp)]
  have := heap_alloc_new ((w.alloc (.cells Ea 31)).alloc (.cells Da 31)) (.cells row 79)
  simpa using this

theorem atCall_e (w : World) (Ea Da zc row : Array Value) : (atCall w Ea Da zc row).heap[w.heap.size + 3]? = some (.cells Ea 80 (0, 0)) := by
  unfold atCall
  rw [setRow_other _ _ _ _ (by omega), Below.heap_alloc _ _ _ (by simp)]
  have := heap_alloc_new (((w.alloc (.cells Ea 31)).alloc (.cells Da 31)).alloc (.cells row 79)) (.cells zc 80)
  exact setRow_heap _ _ zc _ 80 (0, 0) (by simpa using this)

theorem atCall_d (w : World) (Ea Da zc row : Array Value) : (atCall w Ea Da zc row).heap[w.heap.size + 4]? = some (.cells Da 80 (0, 0)) := by
  unfold atCall
  have := heap_alloc_new (((((w.alloc (.cells Ea 31)).alloc (.cells Da 31)).alloc (.cells row 79)).alloc (.cells zc 80)).setRow (w.heap.size + 3) Ea) (.cells zc 80)
  exact setRow_heap _ _ zc _ 80 (0, 0) (by simpa using this)

theorem ownB_below {w w' : World} {v : Value} {zs : List Int} (h : OwnB w 0 v zs) (hb : Below w.heap.size w w') : OwnB w' 0 v zs := by
  obtain ⟨h1, h2⟩ := h
  refine ⟨h1, h2.imp_right ?_⟩
  rintro ⟨g, cap, cur, e, h3, h4, h5⟩
  exact ⟨g, cap, cur, e, h3, (hb.block g (Array.getElem?_eq_some_iff.1 h4).1).trans h4, h5⟩

theorem ZPre.pre {ao : Option Addr} {n c : Nat} {T0 : Option Nat} {ta : Option Addr} {tn tc : Nat} {zs : List Int} {Ea Da : Array Value} {E D : Int → Bool} {w : World}
    (h : ZPre ao n c T0 ta tn tc zs Ea Da E D w) (pos : Nat) (zc : Array Value) :
    Pre (w.heap.size + 2) (w.heap.size + 3) (w.heap.size + 4) ao n c T0 ta tn tc pos zs E D (atCall w Ea Da zc #[.slice ao n c, .int .i64 pos, .int .i64 0, .slice ta tn tc, .map none]) := by
  have hT : ∀ k, w.heap.size ≤ k → some k ≠ T0 := fun k hk e => by have := h.t0lt k e.symm; omega
  refine ⟨atCall_row .., ownB_below h.own (atCall_below ..), h.form, h.t0, fun e => hT _ (by omega) e.symm, h.rd.below (atCall_below ..), fun b o e => ?_, ⟨by omega, hT _ (by omega), by rw [atCall_size]; omega⟩, ⟨by omega, hT _ (by omega), by rw [atCall_size]; omega⟩, fun x h0 h1 => ?_, fun x h0 h1 => ?_, h.bytes⟩
  · have := h.inT b o e
    exact ⟨by omega, this.2⟩
  · rw [cell_of_row _ _ _ Ea 80 (0, 0) (atCall_e ..)]; exact h.eA x h0 h1
  · rw [cell_of_row _ _ _ Da 80 (0, 0) (atCall_d ..)]; exact h.dA x h0 h1

def ZPost (T0 : Option Nat) (w : World) (r : List Int × Int × Nat) (e : Ending) (w' : World) : Prop :=
  ∃ (R : Nat) (a' : Option Addr) (l' c' : Nat), w.heap.size ≤ R ∧ e = .returned (.tuple #[.slice a' l' c', .int .u8 r.2.1, .int .i64 r.2.2]) ∧ Rd w' a' l' r.1 ∧ Fr R T0 w w'

set_option maxRecDepth 100000 in
set_option maxHeartbeats 1000000 in
/-- 'ZZNameBytes' -/
theorem zzname_any (ao : Option Addr) (n c : Nat) (T0 : Option Nat) (ta : Option Addr) (tn tc pos : Nat) (zs : List Int) (Ea Da : Array Value) (E D : Int → Bool) (w : World)
    (h : Hid (ZPre ao n c T0 ta tn tc zs Ea Da E D w)) (hEs : Hid (Ea.size = 256)) (hDs : Hid (Da.size = 256)) (hE1 : Ea.all (·.oneCell') = true) (hD1 : Da.all (·.oneCell') = true)
    (hp : pos ≤ n) (hnc : n ≤ c) (hn : n ≤ 1048576) (htc : tn ≤ tc) :
    Calls Try.prog 21 #[.slice ao n c, .int .i64 pos, .slice ta tn tc, .agg Ea, .agg Da] w fun e w' => ZPost T0 w (Lp.mda E D zs pos 0) e w' := by
  obtain ⟨i80, z80, hi80, hz80, hs80⟩ := info80_parts
  obtain ⟨r, hr⟩ : ∃ r, r = Lp.mda E D zs pos 0 := ⟨_, rfl⟩
  rw [← hr]
  have HR : Hid (r = Lp.mda E D zs pos 0) := hr
  clear hr
  have HP : Hid (Pre (w.heap.size + 2) (w.heap.size + 3) (w.heap.size + 4) ao n c T0 ta tn tc pos zs E D (atCall w Ea Da z80.cells #[.slice ao n c, .int .i64 pos, .int .i64 0, .slice ta tn tc, .map none])) := h.out.pre pos z80.cells
  have HB : Hid (Below w.heap.size w (atCall w Ea Da z80.cells #[.slice ao n c, .int .i64 pos, .int .i64 0, .slice ta tn tc, .map none])) := atCall_below ..
  obtain ⟨W4, hW4⟩ : ∃ W4, W4 = atCall w Ea Da z80.cells #[.slice ao n c, .int .i64 pos, .int .i64 0, .slice ta tn tc, .map none] := ⟨_, rfl⟩
  rw [← hW4] at HP HB
  have HW : Hid (W4 = atCall w Ea Da z80.cells #[.slice ao n c, .int .i64 pos, .int .i64 0, .slice ta tn tc, .map none]) := hW4
  clear hW4 h
  have HZ : Hid (z80.cells.size = 256) := hs80
  clear hs80
  obtain ⟨W2, hW2⟩ : ∃ W2, W2 = ((w.alloc (.cells Ea 31)).alloc (.cells Da 31)).alloc (.cells #[.slice ao n c, .int .i64 pos, .int .i64 0, .slice ta tn tc, .map none] 79) := ⟨_, rfl⟩
  have HS2 : Hid (W2.heap.size = w.heap.size + 3) := by rw [hW2]; simp [Hid]
  have HE2 : Hid (W2.heap[w.heap.size]? = some (.cells Ea 31 (0, 0))) := by
    unfold Hid
    rw [hW2, Below.heap_alloc _ _ _ (by simp; omega)]; exact heap_alloc2_old _ _ _
  have HD2 : Hid (W2.heap[w.heap.size + 1]? = some (.cells Da 31 (0, 0))) := by
    unfold Hid
    rw [hW2, Below.heap_alloc _ _ _ (by simp)]; exact heap_alloc2_new _ _ _
  have HW4 : Hid (W4 = (((W2.alloc (.cells z80.cells 80)).setRow W2.heap.size Ea).alloc (.cells z80.cells 80)).setRow (W2.heap.size + 1) Da) := by
    unfold Hid
    rw [HS2.out, HW.out, hW2]; rfl
  have HLT : Hid (w.heap.size < W2.heap.size ∧ w.heap.size + 1 < W2.heap.size) := ⟨by rw [HS2.out]; omega, by rw [HS2.out]; omega⟩
  clear HW
  go_enter Try.func21, Try.ntmps21
  go_upto_region 2 with fail
  rw [← hW2]
  clear hW2
  go_upto_region 3 with (first
    | (refine wpList_load_row rfl 31 _ rfl w.heap.size rfl 31 Ea (0, 0) _ HE2.out Try.underlying31 rfl (by rw [hEs.out]; exact info31s) ?_)
    | (refine wpList_alloc_zero rfl 80 rfl i80 z80 hi80 hz80 ?_)
    | (refine wpList_store_row rfl 80 _ _ rfl W2.heap.size Ea rfl rfl 80 z80.cells (heap_alloc_new _ _) (by rw [hEs.out]; exact info80s) (by rw [HZ.out, hEs.out]) hE1 ?_))
  obtain ⟨W3, hW3⟩ : ∃ W3, W3 = (W2.alloc (.cells z80.cells 80)).setRow W2.heap.size Ea := ⟨_, rfl⟩
  have HS3 : Hid (W3.heap.size = W2.heap.size + 1) := by rw [hW3]; simp [Hid]
  have HD3 : Hid (W3.heap[w.heap.size + 1]? = some (.cells Da 31 (0, 0))) := by
    unfold Hid
    rw [hW3, setRow_other _ _ _ _ (by have := HLT.out; omega), Below.heap_alloc _ _ _ HLT.out.2]; exact HD2.out
  rw [← hW3] at HW4
  rw [← hW3]
  clear hW3
  go_upto_region 4 with (first
    | (refine wpList_load_row rfl 31 _ rfl (w.heap.size + 1) rfl 31 Da (0, 0) _ HD3.out Try.underlying31 rfl (by rw [hDs.out]; exact info31s) ?_)
    | (refine wpList_alloc_zero rfl 80 rfl i80 z80 hi80 hz80 ?_)
    | (refine wpList_store_row rfl 80 _ _ rfl W3.heap.size Da rfl rfl 80 z80.cells (heap_alloc_new _ _) (by rw [hDs.out]; exact info80s) (by rw [HZ.out, hDs.out]) hD1 ?_))
  have HX : Hid ((W3.alloc (.cells z80.cells 80)).setRow W3.heap.size Da = W4) := by
    unfold Hid
    rw [HW4.out, HS3.out]
  rw [HX.out]
  obtain ⟨s3, hs3⟩ : ∃ s3, s3 = W2.heap.size := ⟨_, rfl⟩
  obtain ⟨s4, hs4⟩ : ∃ s4, s4 = W3.heap.size := ⟨_, rfl⟩
  rw [← hs3, ← hs4]
  have e3 : s3 = w.heap.size + 3 := by rw [hs3, HS2.out]
  have e4 : s4 = w.heap.size + 4 := by rw [hs4, HS3.out, HS2.out]
  subst e3 e4
  clear hs3 hs4 HX HW4 HS2 HS3 HE2 HD2 HD3 HLT HZ hi80 hz80
  go_wp2_with (go_at_call 43; refine (name_any _ _ _ ao n c T0 ta tn tc pos zs E D _ HP hp hnc hn htc).mono ?_)
  rintro e w1 ⟨a', l', c', he, hrd, hc1, hfr⟩
  rw [← HR.out] at he hrd hc1
  subst he
  have HRD : Hid (Rd w1 a' l' r.1) := hrd
  have HFR : Hid (Fr (w.heap.size + 2) T0 W4 w1) := hfr
  clear hrd hfr
  have g1 : w1.cell? ⟨w.heap.size + 1 + 1, 1, none⟩ = some (.int .i64 r.2.2) := hc1
  clear hc1
  go_wp2
  go_quiet (fail)
  go_wp2
  go_ret3
  refine ⟨w.heap.size + 2, a', l', c', by omega, rfl, HRD.out.drewN _, ?_⟩
  have hf := HFR.out
  have hb := HB.out
  exact ⟨hf.os.trans hb.os, hf.tape.trans hb.tape, hf.output.trans hb.output, Nat.le_trans hb.size hf.size, fun k hk hR hT => (hf.block k (Nat.lt_of_lt_of_le hk hb.size) hR hT).trans (hb.block k hk)⟩
end Go.Proofs.Qxb6603471a
