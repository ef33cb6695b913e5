import Derived.Test.Qxb6603471aAtDoors
import Derived.Test.Qxb6603471aAtSize
import Derived.OwnWalk
namespace Go.Proofs.Qxb6603471a.Until
section
variable {P : Program} {ops : Array Oper} {Q : Exit → Act → World → Prop} {md : Region.Mode} {S : World → Prop} {st : Nat}

/-- S holds behind EVERY operation (st is no operation's number): what yields under S is taken first. -/
theorem wpAnyU_held {i : Nat} {oi : Oper} {v : Value} (hi : ops[i]? = some oi) (hsel : ∀ (j : Nat) (o : Oper) cs b, ops[j]? = some o → o.op ≠ .select cs b)
    (hQ : ∀ c a w, Q (.panic c) (a.put oi.dst v) w → Q (.panic c) a w) (hout : ops.size ≤ st) :
    ∀ (fuel : Nat) (listed : Array Bool) (a : Act) (w : World),
      (∀ j oj, ops[j]? = some oj → j ≠ i → listed.getD j true = false → (∀ e ∈ oj.after, Region.binds md e = true → e.on ≠ i) → oi.apart ops oj = true) →
      i ∈ Region.ready md ops listed → YieldsIf P ops S oi v a → listed.getD st false = false → S w →
      wpAnyU P md ops Q S st fuel (listed.setIfInBounds i true) (a.put oi.dst v) w → wpAnyU P md ops Q S st (fuel + 1) listed a w := by
  have hne : st ≠ i := by have := (Array.getElem?_eq_some_iff.1 hi).1; omega
  intro fuel
  induction fuel with
  | zero =>
    intro listed a w _ hr hy _ hS H
    refine ⟨fun h => (by rw [h] at hr; cases hr), fun j hj => ?_⟩
    by_cases hji : j = i
    · subst hji; exact hy.wpOp hi hS ⟨.inr hS, H⟩
    · have := ready_mono hj hji
      rw [H.1] at this
      cases this
  | succ fuel ih =>
    intro listed a w hfree hr hy hst hS H
    refine ⟨fun h => (by rw [h] at hr; cases hr), fun j hj => ?_⟩
    by_cases hji : j = i
    · subst hji; exact hy.wpOp hi hS ⟨.inr hS, H⟩
    · have h1 := H.2 j (ready_mono hj hji)
      obtain ⟨hjun, oj, hoj, hall⟩ := mem_ready.1 hj
      have hnot := not_on hr hall
      have hjst : j ≠ st := by have := (Array.getElem?_eq_some_iff.1 hoj).1; omega
      have h2 := wpOp_putIf hoj (hfree j oj hoj hji hjun hnot) (fun cs b => hsel i oi cs b hi) (fun cs b => hsel j oj cs b hoj) hQ hy h1
      have hfree' : ∀ k ok, ops[k]? = some ok → k ≠ i → (listed.setIfInBounds j true).getD k true = false →
          (∀ e ∈ ok.after, Region.binds md e = true → e.on ≠ i) → oi.apart ops ok = true := fun k ok hk hki hun hno => by
        refine hfree k ok hk hki ?_ hno
        by_cases hjk : j = k
        · subst hjk; exact hjun
        · rw [getD_set_ne true hjk] at hun; exact hun
      have hst' : (listed.setIfInBounds j true).getD st false = false := by rw [getD_set_ne false hjst]; exact hst
      refine wpOp_mono (fun a' w' h3 => ?_) h2
      have hS' : S w' := by
        rcases h3.2.1 with e | e
        · rw [getD_set_ne false hjst, getD_set_ne false (Ne.symm hne), hst] at e; cases e
        · exact e
      refine ⟨.inr hS', ih (listed.setIfInBounds j true) a' w' hfree' (ready_mono hr (Ne.symm hji)) h3.1 hst' hS' ?_⟩
      rw [Array.setIfInBounds_comm _ _ hji]
      exact h3.2.2

theorem take_held {i : Nat} {oi : Oper} {rest : List Oper} {v : Value} {fuel : Nat} {listed : Array Bool} {a : Act} {w : World} (h0 : ops.toList.drop i = oi :: rest)
    (hs : Region.noSelect ops = true) (hf : Region.free md ops listed i = true) (hr : (Region.ready md ops listed).contains i = true) (hl : (decide (ops.size ≤ st) && !listed.getD st false) = true)
    (hQ : ∀ c a w, Q (.panic c) (a.put oi.dst v) w → Q (.panic c) a w) (hS : S w) (hy : YieldsIf P ops S oi v a)
    (h : wpAnyU P md ops Q S st fuel (listed.setIfInBounds i true) (a.put oi.dst v) w) : wpAnyU P md ops Q S st (fuel + 1) listed a w := by
  simp only [Bool.and_eq_true, decide_eq_true_eq, Bool.not_eq_true'] at hl
  exact wpAnyU_held (at_of_drop h0) (Region.noSelect_spec hs) hQ hl.1 fuel listed a w (Region.free_spec (at_of_drop h0) hf) (by simpa using hr) hy hl.2 hS h
end
end Go.Proofs.Qxb6603471a.Until

namespace Go.Proofs.Qxb6603471a
open Go.RowKit Go.Maps
set_option linter.unusedSimpArgs false
set_option linter.unusedVariables false

theorem info53s : (Try.prog.info? 53).map (·.size) = some 5 := by kernel_rfl
theorem Put.cells_length (p : Put) : p.cells.length = 5 := rfl
theorem Try.q38 : ∀ (w : World) (a : Option Addr) (n c n' c' : Nat), (binOp .eql 38 (.slice a n c) (.slice none n' c')).run Try.prog w = .ok (.bool a.isNone) w :=
  fun w a n c n' c' => Lib.run_eql_slice_nil w _ _ a n c n' c' Try.underlying38

/-- What 'cloneOps' gives. -/
def CloneO (w : World) (n : Nat) (os : List Put) (e : Ending) (w' : World) : Prop :=
  ∃ (ao : Option Addr) (c' : Nat), e = .returned (.slice ao n c') ∧ n ≤ c' ∧ RdO w' ao n os ∧ (∀ b o, ao = some ⟨b, o, none⟩ → w.heap.size ≤ b ∧ b < w'.heap.size) ∧ Below w.heap.size w w'

theorem rdO_of_owns {w : World} {B g n cap : Nat} {os : List Put} (h : w.ownsRow B 53 5 (.slice (some ⟨g, 0, none⟩) n cap) n (os.flatMap Put.cells)) (hn : os.length = n) : RdO w (some ⟨g, 0, none⟩) n os := by
  refine ⟨hn, .inr ⟨g, 0, rfl, fun i hi => ?_⟩⟩
  rw [Nat.zero_add]
  have := ownsRow_at Put.cells 5 Put.cells_length (by decide) h hn (i := i) (a := os.getD i default) (by simp [List.getD, show i < os.length by omega])
  exact this

set_option maxRecDepth 100000 in
set_option maxHeartbeats 1000000 in
/-- 'cloneOps' -/
theorem cloneOps_any (ao : Option Addr) (n c : Nat) (os : List Put) (w : World) (h : Hid (RdO w ao n os)) (hnil : ao = none → n = 0 ∧ c = 0) (hn : n ≤ 1048576) :
    Calls Try.prog 27 #[.slice ao n c] w fun e w' => CloneO w n os e w' := by
  have q := Try.q38
  cases ao with
  | none =>
    obtain ⟨rfl, rfl⟩ := hnil rfl
    clear hnil
    go_enter Try.func27, Try.ntmps27
    go_wp2
    go_ret
    exact ⟨none, 0, rfl, Nat.le_refl _, h.out, (fun b o e => by cases e), Below.refl _ _⟩
  | some ad =>
    clear hnil
    obtain ⟨i53, z53, hi53⟩ := info_wide Try.info53
    have HI : Hid (Try.prog.info? 53 = some i53 ∧ i53.zero = some z53 ∧ i53.size = 5 ∧ i53.bytes = 56 ∧ z53.cells.size = 5) := hi53
    clear hi53
    have hb2 : i53.bytes * n ≤ 281474976710656 := by rw [HI.out.2.2.2.1]; omega
    have hb3 : n ≤ maxLen := by unfold maxLen; omega
    go_enter Try.func27, Try.ntmps27
    go_wp2_with (at_make; refine wpList_make_full _ rfl _ _ 38 rfl w.heap.size 53 i53 z53 5 Try.underlying38 HI.out.1 HI.out.2.1 HI.out.2.2.1 _ _ _ _ n rfl rfl rfl rfl hb2 hb3 (Nat.le_refl _) ?_; intro w1 hown hgrow; obtain ⟨R0, HR0, HO1⟩ : ∃ R0 : List Value, Hid (R0.length = n * 5) ∧ Hid (w1.ownsRow w.heap.size 53 5 (.slice (some ⟨w.heap.size, 0, none⟩) n n) n R0) := ⟨_, by unfold Hid; simp [size_madeCells], hown⟩; have HGR : Hid (w.grownBy w1 none) := hgrow; clear hown hgrow HI hb2 hb3)
    have hb : Below w.heap.size w w1 := (Below.refl _ _).grown HGR.out (Nat.le_refl _) (by intro k hk; cases hk)
    go_loopw [4] (fun i wr => ∃ (k : Nat) (R : List Value), k ≤ n ∧ i = .int .i64 k ∧ Hid (wr.ownsRow w.heap.size 53 5 (.slice (some ⟨w.heap.size, 0, none⟩) n n) n ((os.take k).flatMap Put.cells ++ R)) ∧ Hid (R.length = (n - k) * 5) ∧ Below w.heap.size w wr) (fun i _ => n - (intOf i).toNat)
    case atStart => exact ⟨0, R0, Nat.zero_le _, rfl, (by unfold Hid; simpa using HO1.out), (by unfold Hid; simpa using HR0.out), hb⟩
    case round =>
      clear HO1 hb
      obtain ⟨k, R, hk, rfl, HO, HRL, hb⟩ := hrel
      by_cases hlt : k < n
      · obtain ⟨b, o, e, hc⟩ := h.out.2.resolve_left (by omega)
        obtain rfl := Option.some.inj e
        have hkl : k < os.length := by rw [h.out.1]; exact hlt
        have hr := hc k hlt
        obtain ⟨p, hp⟩ : ∃ p, p = os.getD k default := ⟨_, rfl⟩
        rw [← hp] at hr
        have hp2 : os[k]'hkl = p := by rw [hp]; simp [List.getD, hkl]
        have hbl := rangeAt_lt hr
        obtain ⟨pl, hpl⟩ : ∃ pl, pl = p.cells := ⟨_, rfl⟩
        rw [← hpl] at hr
        have HR : Hid (wr.rangeAt b (o + k * 5) pl) := rangeAt_below hr hb hbl
        have HPL : Hid (pl.length = 5 ∧ pl.all (·.oneCell') = true) := by rw [hpl]; exact ⟨rfl, rfl⟩
        have HPS : Hid (pl.toArray.size = 5) := by rw [hpl]; exact rfl
        have HTH : Hid (wr.there w.heap.size (k * 5) 5) := own_there HO.out _ _ (by omega)
        have HNX : Hid ((wr.setCells w.heap.size (k * 5) pl).ownsRow w.heap.size 53 5 (.slice (some ⟨w.heap.size, 0, none⟩) n n) n ((os.take (k + 1)).flatMap Put.cells ++ R.drop 5) ∧ wr.grownBy (wr.setCells w.heap.size (k * 5) pl) (some w.heap.size)) := by
          have ho := HO.out
          have hR5 : 5 ≤ R.length := by
            have := HRL.out
            have h2 : 1 ≤ n - k := by omega
            have := Nat.mul_le_mul_right 5 h2
            omega
          have e1 : (os.take k).flatMap Put.cells ++ R = (os.take k).flatMap Put.cells ++ R.take 5 ++ R.drop 5 := by rw [List.append_assoc, List.take_append_drop]
          rw [e1] at ho
          have := ownsRow_splice pl (R.take 5) ((os.take k).flatMap Put.cells) (R.drop 5) wr (by rw [HPL.out.1, List.length_take]; omega) ho
          rw [flatMap_len Put.cells 5 Put.cells_length, List.length_take_of_le (by omega)] at this
          rw [List.take_succ_eq_append_getElem hkl, hp2, List.flatMap_append]
          unfold Hid; simpa [hpl] using this
        have HR5 : Hid ((R.drop 5).length = (n - (k + 1)) * 5) := by
          unfold Hid
          rw [List.length_drop, HRL.out]
          have e5 : n - k = (n - (k + 1)) + 1 := by omega
          rw [e5, Nat.succ_mul]; omega
        clear hp hp2 hr hc e hpl
        go_wp2_with (first
          | (refine wpList_load_mid rfl 53 _ rfl b (o + k * 5) rfl pl _ HR.out Try.underlying53 rfl (by rw [HPL.out.1]; exact info53s) ?_)
          | (refine wpList_store_mid rfl 53 _ _ rfl w.heap.size (k * 5) pl.toArray rfl rfl (by rw [HPS.out]; exact HTH.out) (by rw [HPS.out]; exact info53s) (by simpa using HPL.out.2) ?_))
        go_roundw
        case rel => exact ⟨k + 1, R.drop 5, by omega, by go_num, HNX.out.1, HR5, below_of_grown hb HNX.out.2 (Nat.le_refl _)⟩
        case measure => simp [intOf]; omega
      · obtain rfl : k = n := by omega
        go_wp2
        go_ret
        have ho := HO.out
        have hR0 : R = [] := List.eq_nil_of_length_eq_zero (by have := HRL.out; simpa using this)
        rw [hR0, List.append_nil, List.take_of_length_le (by rw [h.out.1]; exact Nat.le_refl _)] at ho
        refine ⟨_, k, rfl, Nat.le_refl _, rdO_of_owns ho h.out.1, fun b o e => ?_, hb⟩
        simp only [Option.some.injEq, Addr.mk.injEq, and_true] at e
        obtain ⟨cur, hh, _⟩ := own_block ho (g := w.heap.size) rfl
        rw [← e.1]
        exact ⟨Nat.le_refl _, (Array.getElem?_eq_some_iff.1 hh).1⟩

/-- a script into a set -/
def putL (es : List Ent) (ops : List Put) : List Ent := ops.foldl putE es
theorem putL_snoc (es : List Ent) (ops : List Put) (p : Put) : putL es (ops ++ [p]) = putE (putL es ops) p := by simp [putL]

theorem putE_length (es : List Ent) (p : Put) : (putE es p).length ≤ es.length + 1 := by
  unfold putE
  split <;> simp

theorem putL_length : ∀ (ops : List Put) (es : List Ent), (putL es ops).length ≤ es.length + ops.length
  | [], es => by simp [putL]
  | p :: r, es => by
    have h1 := putL_length r (putE es p)
    have h2 := putE_length es p
    have e : putL es (p :: r) = putL (putE es p) r := rfl
    rw [e]
    simp; omega

/-- What 'putAll' gives. -/
def AllPost (S B : Nat) (es : List Ent) (ops : List Put) (w : World) (e : Ending) (w' : World) : Prop :=
  ∃ av' mv' xv' xs', e = .returned (.tuple #[]) ∧ SetAt w' S B av' mv' xv' (putL es ops) xs' ∧ BelS S B w w'

theorem RdO.bel {w w' : World} {S B : Nat} {ao : Option Addr} {n : Nat} {os : List Put} (h : RdO w ao n os) (hb : BelS S B w w') (hi : ∀ b o, ao = some ⟨b, o, none⟩ → b < B ∧ b ≠ S) : RdO w' ao n os := by
  refine ⟨h.1, h.2.imp_right ?_⟩
  rintro ⟨b, o, rfl, hc⟩
  obtain ⟨h1, h2⟩ := hi b o rfl
  refine ⟨b, o, rfl, fun i hl j v hv => ?_⟩
  rw [World.cell?_of_block (w := w) (hb.block b h1 h2)]
  exact hc i hl j v hv

set_option maxRecDepth 100000 in
set_option maxHeartbeats 2000000 in
/-- 'putAll' -/
theorem putAll_any (S B : Nat) (av mv xv : Value) (es : List Ent) (xs : Option (Nat × Nat × DataW Unit)) (ao : Option Addr) (n c : Nat) (os : List Put) (w : World) (h : Hid (SetAt w S B av mv xv es xs)) (hr : Hid (RdO w ao n os)) (hi : Hid (∀ b o, ao = some ⟨b, o, none⟩ → b < B ∧ b ≠ S)) (hok : Hid (∀ p ∈ os, p.ok))
    (hn : n ≤ 1048576) (hn0 : Hid (es.length + n ≤ 1048576)) :
    Calls Try.prog 40 #[.pointer (some ⟨S, 0, none⟩), .slice ao n c] w fun e w' => AllPost S B es os w e w' := by
  go_enter Try.func40, Try.ntmps40
  go_wp2
  go_loopw [4] (fun i wr => ∃ (k : Nat) (av mv xv : Value) (xs : Option (Nat × Nat × DataW Unit)), k ≤ n ∧ i = .int .i64 k ∧ Hid (SetAt wr S B av mv xv (putL es (os.take k)) xs) ∧ Hid (BelS S B w wr)) (fun i _ => n - (intOf i).toNat)
  case atStart => exact ⟨0, av, mv, xv, xs, Nat.zero_le _, rfl, (by unfold Hid; simpa [putL] using h.out), BelS.refl _ _ _⟩
  case round =>
    clear h
    obtain ⟨k, av, mv, xv, xs, hk, rfl, HSr, HBr⟩ := hrel
    by_cases hlt : k < n
    · obtain ⟨b, o, rfl, hc⟩ := (hr.out.bel HBr.out hi.out).2.resolve_left (by omega)
      have hkl : k < os.length := by rw [hr.out.1]; exact hlt
      obtain ⟨p, hp⟩ : ∃ p, p = os.getD k default := ⟨_, rfl⟩
      have hp2 : os[k]'hkl = p := by rw [hp]; simp [List.getD, hkl]
      have hpr := hc k hlt
      rw [← hp] at hpr
      have HPK : Hid (p.ok) := hok.out p (by rw [← hp2]; exact List.getElem_mem hkl)
      have HTK : Hid (putL es (os.take (k + 1)) = putE (putL es (os.take k)) p) := by unfold Hid; rw [List.take_succ_eq_append_getElem hkl, putL_snoc, hp2]
      have HEL : Hid ((putL es (os.take k)).length ≤ 1048576) := by
        have h1 := putL_length (os.take k) es
        have h2 := hn0.out
        simp at h1
        unfold Hid
        omega
      obtain ⟨es', hes'⟩ : ∃ es', es' = putL es (os.take k) := ⟨_, rfl⟩
      rw [← hes'] at HSr HTK HEL
      clear hes'
      have HPB : Hid (b < wr.heap.size) := rangeAt_lt hpr
      obtain ⟨pr, pk, pt, ps, pi⟩ := p
      obtain ⟨pl, hpl⟩ : ∃ pl, pl = Put.cells ⟨pr, pk, pt, ps, pi⟩ := ⟨_, rfl⟩
      rw [← hpl] at hpr
      have HPR : Hid (wr.rangeAt b (o + k * 5) pl) := hpr
      have HP0 : Hid (pl[0]? = some (.int .u8 pr)) := by rw [hpl]; exact rfl
      have HPL : Hid (pl.length = 5) := by rw [hpl]; exact rfl
      have HPA : Hid (pl.toArray = (Put.cells ⟨pr, pk, pt, ps, pi⟩).toArray) := by rw [hpl]; exact rfl
      clear hp hp2 hpr hc hpl hkl
      have hkn : (k : Int) < (n : Int) := by omega
      go_upto_region 3 with fail
      refine Until.start (fun w' => w'.rangeAt b (o + k * 5) pl) 12 (by kernel_rfl) ?_
      have hSW : wr.drew.rangeAt b (o + k * 5) pl := HPR.out
      have hc5 : ∀ w' : World, w'.rangeAt b (o + k * 5) pl → w'.cell? ⟨b, o + k * 5, none⟩ = some (.int .u8 pr) := fun w' h => h 0 _ HP0.out
      refine Until.take_any (i := 0) (v := ?_) rfl (by kernel_rfl) (by kernel_rfl) (by kernel_rfl) (by kernel_rfl) (fun _ _ _ h => h) (.inr hSW) (Or.inl ⟨by rfl, ?_⟩) ?_
      rotate_left
      · intro w; go_simp; try with_reducible rfl
      simp only [Act.put, List.setIfInBounds_toArray, List.set_cons_zero, List.set_cons_succ]
      refine Until.take_any (i := 1) (v := ?_) rfl (by kernel_rfl) (by kernel_rfl) (by kernel_rfl) (by kernel_rfl) (fun _ _ _ h => h) (.inr hSW) (Or.inl ⟨by rfl, ?_⟩) ?_
      rotate_left
      · intro w; go_simp; try with_reducible rfl
      simp only [Act.put, List.setIfInBounds_toArray, List.set_cons_zero, List.set_cons_succ]
      refine Until.take_any (i := 2) (v := ?_) rfl (by kernel_rfl) (by kernel_rfl) (by kernel_rfl) (by kernel_rfl) (fun _ _ _ h => h) (.inr hSW) (Or.inl ⟨by rfl, ?_⟩) ?_
      rotate_left
      · intro w; go_simp; try with_reducible rfl
      simp only [Act.put, List.setIfInBounds_toArray, List.set_cons_zero, List.set_cons_succ]
      refine Until.take_any (i := 3) (v := ?_) rfl (by kernel_rfl) (by kernel_rfl) (by kernel_rfl) (by kernel_rfl) (fun _ _ _ h => h) (.inr hSW) (Or.inl ⟨by rfl, ?_⟩) ?_
      rotate_left
      · intro w; go_simp; try with_reducible rfl
      simp only [Act.put, List.setIfInBounds_toArray, List.set_cons_zero, List.set_cons_succ]
      refine Until.take_any (i := 4) (v := ?_) rfl (by kernel_rfl) (by kernel_rfl) (by kernel_rfl) (by kernel_rfl) (fun _ _ _ h => h) (.inr hSW) (Or.inl ⟨by rfl, ?_⟩) ?_
      rotate_left
      · intro w; go_simp; try with_reducible rfl
      simp only [Act.put, List.setIfInBounds_toArray, List.set_cons_zero, List.set_cons_succ]
      refine Until.take_held (i := 5) (v := ?_) rfl (by kernel_rfl) (by kernel_rfl) (by kernel_rfl) (by kernel_rfl) (fun _ _ _ h => h) hSW (Or.inl ⟨by rfl, ?_⟩) ?_
      rotate_left
      · intro w hw; have hw0 := hc5 w hw; go_simp; try with_reducible rfl
      simp only [Act.put, List.setIfInBounds_toArray, List.set_cons_zero, List.set_cons_succ]
      refine Until.take_any (i := 6) (v := ?_) rfl (by kernel_rfl) (by kernel_rfl) (by kernel_rfl) (by kernel_rfl) (fun _ _ _ h => h) (.inr hSW) (Or.inl ⟨by rfl, ?_⟩) ?_
      rotate_left
      · intro w; go_simp; try with_reducible rfl
      simp only [Act.put, List.setIfInBounds_toArray, List.set_cons_zero, List.set_cons_succ]
      refine Until.take_any (i := 7) (v := ?_) rfl (by kernel_rfl) (by kernel_rfl) (by kernel_rfl) (by kernel_rfl) (fun _ _ _ h => h) (.inr hSW) (Or.inl ⟨by rfl, ?_⟩) ?_
      rotate_left
      · intro w; go_simp; try with_reducible rfl
      simp only [Act.put, List.setIfInBounds_toArray, List.set_cons_zero, List.set_cons_succ]
      refine Until.take_any (i := 8) (v := ?_) rfl (by kernel_rfl) (by kernel_rfl) (by kernel_rfl) (by kernel_rfl) (fun _ _ _ h => h) (.inr hSW) (Or.inl ⟨by rfl, ?_⟩) ?_
      rotate_left
      · intro w; go_simp; try with_reducible rfl
      simp only [Act.put, List.setIfInBounds_toArray, List.set_cons_zero, List.set_cons_succ]
      refine Until.take_held (i := 9) (v := .agg pl.toArray) rfl (by kernel_rfl) (by kernel_rfl) (by kernel_rfl) (by kernel_rfl) (fun _ _ _ h => h) hSW (yieldsIf_load_mid (by rfl) 53 _ rfl b (o + k * 5) rfl pl _ (fun _ h => h) Try.underlying53 rfl (by rw [HPL.out]; exact info53s)) ?_
      simp only [Act.put, List.setIfInBounds_toArray, List.set_cons_zero, List.set_cons_succ]
      refine Until.only (i := 10) (by kernel_rfl) rfl (fun K hK => ?_)
      go_simp
      refine (kvOf_any ⟨pr, pk, pt, ps, pi⟩ pl.toArray HPA _).mono ?_
      rintro e w2 ⟨rfl, hb2⟩
      have hSW2 : w2.rangeAt b (o + k * 5) pl := rangeAt_below hSW hb2 (by have := HPB.out; exact this)
      have HB2 : Hid (Below wr.drew.heap.size wr.drew w2) := hb2
      clear hb2
      refine hK _ _ (.inr hSW2) ?_
      clear hK K hSW
      refine Until.only (i := 11) (by kernel_rfl) rfl (fun K hK => ?_)
      go_simp
      have HS2 : Hid (SetAt w2 S B av mv xv es' xs) := SetAt.below (w := wr.drew) ⟨HSr.out.toSetMem.drewN 1, HSr.out.nd, HSr.out.ko, HSr.out.ix⟩ HB2.out
      refine (zput_any S B av mv xv es' xs ⟨pr, pk, pt, ps, pi⟩ _ rfl w2 HS2 HPK.out HEL.out).mono ?_
      rintro e w3 hpost
      have hbel := hpost.bel HS2.out.toSetMem
      obtain ⟨av', mv', xv', xs', rfl, hset, _⟩ := hpost
      have HS3 : Hid (SetAt w3 S B av' mv' xv' (putE es' ⟨pr, pk, pt, ps, pi⟩) xs') := hset
      have HB3 : Hid (BelS S B w w3) := (((HBr.out.drewN 1).trans (BelS.of_below HB2.out HSr.out.size))).trans hbel
      have hSW3 : w3.rangeAt b (o + k * 5) pl := fun j v hv => by
        rw [World.cell?_of_block (w := w2) (hbel.block b (hi.out b o rfl).1 (hi.out b o rfl).2)]
        exact hSW2 j v hv
      clear hset hbel
      refine hK _ _ (.inr hSW3) ?_
      clear hK K hSW2
      refine Until.done (by kernel_rfl) ?_ _
      go_wp2
      go_roundw
      case rel => exact ⟨k + 1, av', mv', xv', xs', by omega, by go_num, by unfold Hid; rw [HTK.out]; exact HS3.out, HB3⟩
      case measure => simp [intOf]; omega
    · obtain rfl : k = n := by omega
      go_wp2
      go_end0
      have hs := HSr.out
      rw [List.take_of_length_le (by rw [hr.out.1]; exact Nat.le_refl _)] at hs
      exact ⟨av, mv, xv, xs, rfl, hs, HBr.out⟩
end Go.Proofs.Qxb6603471a
