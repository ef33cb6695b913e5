import Derived.Test.Qxb6603471aAtStep
import Derived.Test.Qxb6603471aAtIdx
import Derived.Deep.CutBlock
import Derived.Deep.DeepCutAuto
namespace Go.Proofs.Qxb6603471a
open Go.RowKit Go.Maps
set_option linter.unusedSimpArgs false
set_option linter.unusedVariables false

theorem info49s : (Try.prog.info? 49).map (·.size) = some 8 := by kernel_rfl
theorem info55s : (Try.prog.info? 55).map (·.size) = some 9 := by kernel_rfl

theorem SetAt.below {w w' : World} {S B : Nat} {av mv xv : Value} {es : List Ent} {xs : Option (Nat × Nat × DataW Unit)} (h : SetAt w S B av mv xv es xs) (hb : Below w.heap.size w w') : SetAt w' S B av mv xv es xs :=
  ⟨h.toSetMem.below hb, h.nd, h.ko, h.ix⟩

/-- Two local blocks: the attribute that came in, and the answer's value. -/
structure Loc (s : Nat) (kv ans : List Value) (w : World) : Prop where
  kv : w.rangeAt s 0 kv
  ans : w.rangeAt (s + 1) 0 ans
  there : w.there (s + 1) 0 8

theorem Loc.grown {s : Nat} {kv ans : List Value} {w w' : World} {k : Nat} (h : Loc s kv ans w) (hg : w.grownBy w' (some k)) (hk : k < s ∨ s + 2 ≤ k) : Loc s kv ans w' :=
  ⟨rangeAt_grown h.kv hg (by simp; omega), rangeAt_grown h.ans hg (by simp; omega), there_grown h.there hg (by simp; omega)⟩

theorem Loc.grownO {s : Nat} {kv ans : List Value} {w w' : World} {row : Option Nat} (h : Loc s kv ans w) (hg : w.grownBy w' row) (hk : ∀ k, row = some k → k < s ∨ s + 2 ≤ k) : Loc s kv ans w' :=
  ⟨rangeAt_grown h.kv hg (fun e => by have := hk _ e.symm; omega), rangeAt_grown h.ans hg (fun e => by have := hk _ e.symm; omega), there_grown h.there hg (fun e => by have := hk _ e.symm; omega)⟩

theorem Loc.below {s : Nat} {kv ans : List Value} {w w' : World} (h : Loc s kv ans w) (hb : Below w.heap.size w w') (_ : s + 2 ≤ w.heap.size) : Loc s kv ans w' := h.grownO (grown_of_below hb) (fun k e => by cases e)

theorem Loc.put {s : Nat} {kv ans vs : List Value} {w : World} (h : Loc s kv ans w) (hl : vs.length = 8) : Loc s kv vs (w.setCells (s + 1) 0 vs) :=
  ⟨rangeAt_grown h.kv (grown_setCells (s + 1) vs 0 w) (by simp), World.rangeAt_setCells_same w (s + 1) 0 vs (by rw [hl]; exact h.there), World.there_setCells h.there _ _ _⟩

/-- A store of many cells, as one step of a region that draws. -/
theorem step_store_mid {P : Program} {ops : Array Oper} {o : Oper} {a : Act} {w : World} {K : Act → World → Prop} {Q : Exit → Act → World → Prop} {E : Prop} (hgd : o.guard = none) (ty : TypeId) (x y : Operand) (ho : o.op = .store ty x y)
    (b off : Nat) (cells : Array Value) (hx : a.eval x = .pointer (some ⟨b, off, none⟩)) (hy : a.eval y = .agg cells)
    (ht : w.there b off cells.size) (hi : (P.info? ty).map (·.size) = some cells.size) (h1 : cells.all (·.oneCell') = true)
    (h : K (a.put o.dst undef) (w.setCells b off cells.toList)) : if Region.wanted o (yielded ops a.tmps) = true then Oper.wp P o a w K Q else E := by
  have hw : Region.wanted o (yielded ops a.tmps) = true := by simp [Region.wanted, hgd]
  rw [if_pos hw]
  exact wp_store_mid ty x y ho b off cells hx hy ht hi h1 h

theorem results_cell_tmp {P : Program} {fn : Func} {p q : Tmp} {ty : TypeId} (h : fn.results = #[.cell p ty, .tmp q]) (tmps : Array Value) (w : World) (b o : Nat) (cs : List Value) (d : TypeDesc)
    (hp : tmps.getD p undef = .pointer (some ⟨b, o, none⟩)) (hc : w.rangeAt b o cs) (hu : P.underlying ty = some d) (hd : d.isRow = true) (hi : (P.info? ty).map (·.size) = some cs.length) :
    (results fn tmps).run P w = .ok (.tuple #[.agg cs.toArray, tmps.getD q undef]) w := by
  have hp' : tmps[p]?.getD undef = .pointer (some ⟨b, o, none⟩) := by simpa using hp
  simp [results, h, hp', asAddr, run_loadVar_mid w b o ty cs d hc hu hd hi]

theorem SetMem.same_kv {w : World} {S B : Nat} {av mv xv : Value} {ea em : List Ent} {xs : Option (Nat × Nat × DataW Unit)} (h : SetMem w S B av mv xv ea em xs) (i : Nat) (hi : i < ea.length) (e' : Ent) (he : e'.kv = ea[i].kv) : SetMem w S B av mv xv (ea.set i e') em xs := by
  refine ⟨h.row, ?_, h.om, h.ox, h.size⟩
  rw [flatMap_set Ent.kv ea i hi e', he, ← flatMap_split Ent.kv ea i hi, List.length_set]
  exact h.oa

theorem SetAt.set {w w' : World} {S B : Nat} {av mv xv : Value} {es : List Ent} {xs : Option (Nat × Nat × DataW Unit)} (h : SetAt w S B av mv xv es xs) (i : Nat) (hi : i < es.length) (e' : Ent) (he : e'.key = es[i].key)
    (hm : SetMem w' S B av mv xv (es.set i e') (es.set i e') xs) : SetAt w' S B av mv xv (es.set i e') xs := by
  have hko : ∀ e ∈ es.set i e', e.key.size ≤ maxLen := fun e hm => by
    rcases List.mem_or_eq_of_mem_set hm with h1 | rfl
    · exact h.ko e h1
    · rw [he]; exact h.ko _ (List.getElem_mem hi)
  refine ⟨hm, by rw [set_keys es i hi e' he]; exact h.nd, hko, ?_⟩
  rw [List.length_set]
  rcases h.ix with h1 | ⟨h1, X, D, e1, h2⟩
  · exact .inl h1
  · exact .inr ⟨h1, X, D, e1, h2.keys (set_keys es i hi e' he).symm⟩

theorem own_there {w : World} {B e c g n cap : Nat} {xs : List Value} (h : w.ownsRow B e c (.slice (some ⟨g, 0, none⟩) n cap) n xs) (o k : Nat) (hk : o + k ≤ n * c) : w.there g o k := fun j hj =>
  ⟨by rw [h.cellAt (o + j) (by omega)]; simp [h.1, show o + j < n * c by omega], h.frozenAt _⟩

/-- the zero attribute -/
def zkv : List Value := [.string ⟨#[]⟩, .int .u8 0, .string ⟨#[]⟩, .bool false, .int .i64 0, .float .f64 0, .slice none 0 0, .slice none 0 0, .slice none 0 0]

/-- The set's own blocks, but for its struct. -/
def Owns (av mv : Value) (xs : Option (Nat × Nat × DataW Unit)) (k : Nat) : Prop := av.ownBlock = some k ∨ mv.ownBlock = some k ∨ ∃ c D, xs = some (k, c, D)

/-- All below s but block S and the blocks OW is as it was. -/
structure Frm (S s : Nat) (OW : Nat → Prop) (w w' : World) : Prop where
  os : w'.os = w.os
  tape : w'.tape = w.tape
  output : w'.output = w.output
  size : w.heap.size ≤ w'.heap.size
  block : ∀ k, k < s → k ≠ S → ¬ OW k → w'.heap[k]? = w.heap[k]?

theorem Frm.trans {S s : Nat} {OW : Nat → Prop} {a b c : World} (h : Frm S s OW a b) (k : Frm S s OW b c) : Frm S s OW a c :=
  ⟨k.os.trans h.os, k.tape.trans h.tape, k.output.trans h.output, Nat.le_trans h.size k.size, fun i hi hS hO => (k.block i hi hS hO).trans (h.block i hi hS hO)⟩
theorem Frm.of_grown {S s : Nat} {OW : Nat → Prop} {a b : World} {row : Option Nat} (h : a.grownBy b row) (hs : s ≤ a.heap.size) (hr : ∀ k, row = some k → k = S ∨ OW k ∨ s ≤ k) : Frm S s OW a b :=
  ⟨h.os, h.tape, h.output, h.size, fun k hk hS hO => h.block k (Nat.lt_of_lt_of_le hk hs) (fun e => by
    rcases hr k e.symm with h | h | h
    · exact hS h
    · exact hO h
    · omega)⟩
theorem Frm.of_below {S s : Nat} {OW : Nat → Prop} {a b : World} (h : Below a.heap.size a b) (hs : s ≤ a.heap.size) : Frm S s OW a b :=
  ⟨h.os, h.tape, h.output, h.size, fun k hk _ _ => h.block k (Nat.lt_of_lt_of_le hk hs)⟩
theorem Frm.drewN {S s : Nat} {OW : Nat → Prop} {a b : World} (h : Frm S s OW a b) (m : Nat) : Frm S s OW a (b.drewN m) := ⟨h.os, h.tape, h.output, h.size, h.block⟩

theorem Loc.lt {s : Nat} {kv ans : List Value} {w : World} (h : Loc s kv ans w) : s + 2 ≤ w.heap.size := by
  obtain ⟨u, hu⟩ := Option.isSome_iff_exists.1 (h.there 0 (by decide)).1
  exact World.block_lt_of_cell? w _ hu

/-- What 'put' gives. -/
def PutPost (S B : Nat) (OW : Nat → Prop) (es : List Ent) (p : Put) (w : World) (e : Ending) (w' : World) : Prop :=
  ∃ av' mv' xv' xs', e = .returned (.tuple #[.agg (leftE es p).toArray, .bool (findE es p.key).isSome]) ∧ SetAt w' S B av' mv' xv' (putE es p) xs' ∧ Frm S w.heap.size OW w w'

theorem put_done {S B s : Nat} {OW : Nat → Prop} {es : List Ent} {p : Put} {w w' : World} {av mv xv : Value} {xs : Option (Nat × Nat × DataW Unit)} {l : List Value} {b : Bool} (hl : l = leftE es p) (hb : b = (findE es p.key).isSome) (h : SetAt w' S B av mv xv (putE es p) xs) (hs : s = w.heap.size) (hw : Frm S s OW w w') :
    PutPost S B OW es p w (.returned (.tuple #[.agg l.toArray, .bool b])) w' := ⟨av, mv, xv, xs, by rw [hl, hb], h, hs ▸ hw⟩

theorem zv_info : (Try.prog.info? 49).map (·.size) = some (vcells 0 ⟨#[]⟩ 0).toArray.size := info49s
theorem zv_one : (vcells 0 ⟨#[]⟩ 0).toArray.all (·.oneCell') = true := by rw [List.all_toArray]; rfl

/-- a key that is new -/
theorem put_new {s S B : Nat} {OW : Nat → Prop} {es : List Ent} {p : Put} {w wn : World} {av mv xv : Value} {xs : Option (Nat × Nat × DataW Unit)} (hf : findE es p.key = none) (h : SetMem wn S B av mv xv (es ++ [fresh p]) (es ++ [fresh p]) xs) (ho : Off s S av mv xs) (hnd : ((es ++ [fresh p]).map Ent.key).Nodup) (hko : ∀ e ∈ es ++ [fresh p], e.key.size ≤ maxLen)
    (hix : (es.length + 1 ≤ 16 ∧ xs = none) ∨ (16 < es.length + 1 ∧ ∃ X D, xs = some (X, es.length + 1, D) ∧ IdxOk D (es ++ [fresh p]))) (hb : Frm S s OW w wn) (hs : s = w.heap.size) (hsz : s + 2 ≤ wn.heap.size) :
    PutPost S B OW es p w (.returned (.tuple #[.agg (vcells 0 ⟨#[]⟩ 0).toArray, .bool false])) (wn.setCells (s + 1) 0 (vcells 0 ⟨#[]⟩ 0)) := by
  have hg := grown_setCells (s + 1) (vcells 0 ⟨#[]⟩ 0) 0 wn
  have e1 : putE es p = es ++ [fresh p] := by unfold putE; rw [hf]
  refine put_done (by unfold leftE; rw [hf]) (by rw [hf]; rfl) (av := av) (mv := mv) (xv := xv) (xs := xs) ?_ hs (hb.trans (Frm.of_grown hg (by omega) (fun k e => by cases e; exact .inr (.inr (by omega)))))
  rw [e1]
  exact ⟨h.besideOff ho (by omega) hg, hnd, hko, by simpa using hix⟩

set_option maxRecDepth 100000 in
set_option maxHeartbeats 2000000 in
theorem put_any (S B : Nat) (av mv xv : Value) (es : List Ent) (xs : Option (Nat × Nat × DataW Unit)) (p : Put) (ka : Array Value) (hka : Hid (ka = p.kv.toArray)) (w : World) (h : Hid (SetAt w S B av mv xv es xs)) (hp : p.ok) (hn0 : Hid (es.length ≤ 1048576)) :
    Calls Try.prog 45 #[.pointer (some ⟨S, 0, none⟩), .int .u8 p.rank, .agg ka] w fun e w' => PutPost S B (Owns av mv xs) es p w e w' := by
  obtain ⟨OW, hOW⟩ : ∃ OW, OW = Owns av mv xs := ⟨_, rfl⟩
  rw [← hOW]
  have OWA : Hid (∀ k, av.ownBlock = some k → OW k) := fun k e => by rw [hOW]; exact .inl e
  have OWM : Hid (∀ k, mv.ownBlock = some k → OW k) := fun k e => by rw [hOW]; exact .inr (.inl e)
  have OWX : Hid (∀ X c D, xs = some (X, c, D) → OW X) := fun X c D e => by rw [hOW]; exact .inr (.inr ⟨c, D, e⟩)
  clear hOW
  obtain ⟨pr, pk, pt, ps, pi⟩ := p
  obtain ⟨⟨r0, r1⟩, hk, _⟩ := hp
  dsimp only at *
  obtain ⟨W0, hW0⟩ : ∃ W0, W0 = (w.alloc (.cells ka 55)).alloc (.cells #[.int .u8 0, .string ⟨#[]⟩, .bool false, .int .i64 0, .float .f64 0, .slice none 0 0, .slice none 0 0, .slice none 0 0] 49) := ⟨_, rfl⟩
  have HB : Hid (Below w.heap.size w W0) := by rw [hW0]; exact ((Below.refl _ _).alloc (Nat.le_refl _) _).alloc (by simp) _
  have HU : Hid (Under w.heap.size S av mv xs) := h.out.toSetMem.under
  have HSZ : Hid (W0.heap.size = w.heap.size + 2) := by unfold Hid; rw [hW0]; simp
  have HL : Hid (Loc w.heap.size (Put.kv ⟨pr, pk, pt, ps, pi⟩) (vcells 0 ⟨#[]⟩ 0) W0) := by
    have e1 : W0.heap[w.heap.size]? = some (.cells ka 55 (0, 0)) := by rw [hW0]; exact heap_alloc2_old _ _ _
    have e2 : W0.heap[w.heap.size + 1]? = some (.cells #[.int .u8 0, .string ⟨#[]⟩, .bool false, .int .i64 0, .float .f64 0, .slice none 0 0, .slice none 0 0, .slice none 0 0] 49 (0, 0)) := by rw [hW0]; exact heap_alloc2_new _ _ _
    have r2 : W0.rangeAt (w.heap.size + 1) 0 (vcells 0 ⟨#[]⟩ 0) := fun j v hv => by
      rw [cell_of_row W0 _ (0 + j) _ _ _ e2, ← hv, Nat.zero_add, show vcells 0 ⟨#[]⟩ 0 = (#[.int .u8 0, .string ⟨#[]⟩, .bool false, .int .i64 0, .float .f64 0, .slice none 0 0, .slice none 0 0, .slice none 0 0] : Array Value).toList from rfl]; simp
    refine ⟨fun j v hv => ?_, r2, fun j hj => ⟨r2.isSome j hj, frozen_of_row W0 _ _ _ _ e2⟩⟩
    rw [cell_of_row W0 _ (0 + j) _ _ _ e1, hka.out, Nat.zero_add, ← hv]; simp
  have HS : Hid (SetAt W0 S B av mv xv es xs) := h.out.below HB.out
  have HBW : Hid (B ≤ w.heap.size) := h.out.size
  have gk : W0.cell? ⟨w.heap.size, 0, none⟩ = some (.string pk) := HL.out.kv 0 _ rfl
  go_enter Try.func45, Try.ntmps45
  go_upto_region 1 with fail
  rw [← hW0]
  clear hW0 h hka
  obtain ⟨s, hs⟩ : ∃ s, s = w.heap.size := ⟨_, rfl⟩
  rw [← hs] at HU HSZ HL gk
  rw [← hs]
  have HSS : Hid (s = w.heap.size) := hs
  clear hs
  go_wp2_with fail
  refine (place_any S B av mv xv es xs pk W0 HS hk hn0).mono ?_
  rintro e w' ⟨rfl, rfl⟩
  have c0 := HS.out.c0
  have c1 := HS.out.c1
  have c2 := HS.out.c2
  cases hf : findE es pk with
  | some i =>
    obtain ⟨hi, hki, _⟩ := findE_some hf
    simp only [Option.getD_some, Option.isSome_some]
    obtain ⟨aa, acap, hav, hac, ha0, ha1⟩ := own_form HS.out.oa
    obtain ⟨ma, mcap, hmv, hmc, hm0, hm1⟩ := own_form HS.out.om
    obtain ⟨n, hn⟩ : ∃ n, n = es.length := ⟨_, rfl⟩
    rw [← hn] at hi hav hmv hac hmc
    obtain ⟨A, rfl⟩ : ∃ A, aa = some ⟨A, 0, none⟩ := by
      cases aa with
      | none => have := (ha0 rfl).1; omega
      | some x => obtain ⟨g, rfl⟩ := ha1 x rfl; exact ⟨g, rfl⟩
    obtain ⟨M, rfl⟩ : ∃ A, ma = some ⟨A, 0, none⟩ := by
      cases ma with
      | none => have := (hm0 rfl).1; omega
      | some x => obtain ⟨g, rfl⟩ := hm1 x rfl; exact ⟨g, rfl⟩
    subst hav hmv
    obtain ⟨m1, m2, m3⟩ := mark_at HS.out.toSetMem rfl (i := i) (by omega)
    have m3' := m3 (i * 2 + 1)
    obtain ⟨en, hen⟩ : ∃ en, en = es[i]'(by omega) := ⟨_, rfl⟩
    rw [← hen] at m1 m2
    obtain ⟨⟨ek, et, es', ei, er, eh⟩, rfl⟩ : ∃ q : Ent, q = en := ⟨_, rfl⟩
    dsimp only at m1 m2
    clear ha0 ha1 hm0 hm1 m3
    have HF : Hid (findE es pk = some i) := hf
    have HI : Hid (i < es.length) := by unfold Hid; omega
    have HEN : Hid (es[i]'HI.out = ⟨ek, et, es', ei, er, eh⟩) := hen.symm
    have HNL : Hid (n = es.length) := hn
    have HKI : Hid (ek = pk) := by
      have : (es.getD i default) = es[i]'HI.out := by simp [List.getD, HI.out]
      rw [this, HEN.out] at hki; exact hki
    obtain ⟨V1, V2, V3⟩ := vals_at HS.out.toSetMem rfl (i := i) HI.out
    have hAs : A < s := HU.out.a A rfl
    have hMs : M < s := HU.out.m M rfl
    have hAM : A ≠ M := fun e => HS.out.toSetMem.neAM (g := A) rfl (by rw [e]; rfl)
    have hSs : S < s := HU.out.S
    have hSA : A ≠ S := fun e => HS.out.toSetMem.neAS (by rw [← e]; rfl)
    have hSM : M ≠ S := fun e => HS.out.toSetMem.neMS (by rw [← e]; rfl)
    have hBA : B ≤ A := (own_block HS.out.oa (g := A) rfl).choose_spec.2
    have hBM : B ≤ M := (own_block HS.out.om (g := M) rfl).choose_spec.2
    have HBs : Hid (B ≤ s) := by
      have := hBA; unfold Hid; omega
    rw [HEN.out] at V2
    have HV2 : Hid (W0.rangeAt A (i * 9 + 1) (vcells et es' ei)) := V2
    have HV3 : Hid (W0.there A (i * 9 + 1) 8) := V3
    clear hn hen hki V1 V2 V3 hf
    obtain ⟨pv, hpv⟩ : ∃ pv, pv = vcells pt ps pi := ⟨_, rfl⟩
    have HPL : Hid (pv.length = 8 ∧ pv.all (·.oneCell') = true) := by rw [hpv]; exact ⟨rfl, rfl⟩
    have HPV0 : Hid (W0.rangeAt s 1 pv) := by
      rw [hpv]
      intro j v hv
      have := HL.out.kv (j + 1) v (by simpa [Put.kv, Put.val] using hv)
      rw [← this]; congr 2; omega
    have HPVE : Hid (pv = vcells pt ps pi) := hpv
    clear hpv
    obtain ⟨H, hH⟩ : ∃ H, H = bits BinOp.or IntKind.u8 eh (2 ^ min pr.toNat 8 % 256) := ⟨_, rfl⟩
    have HM1 := HS.out.toSetMem.mark i HI.out ⟨ek, et, es', ei, er, H⟩ 1 (.int .u8 H) (.inr ⟨rfl, by rw [HEN.out], rfl⟩)
    have HX1 : Hid (SetMem (W0.setCell ⟨M, i * 2 + 1, none⟩ (.int .u8 H)) S B (.slice (some ⟨A, 0, none⟩) n acap) (.slice (some ⟨M, 0, none⟩) n mcap) xv es (es.set i ⟨ek, et, es', ei, er, H⟩) xs) := HM1.1
    have HG1 : Hid (W0.grownBy (W0.setCell ⟨M, i * 2 + 1, none⟩ (.int .u8 H)) (some M)) := HM1.2
    clear HM1
    go_upto_region 5 with fail
    rw [← hH]
    have HHH : Hid (H = bor eh (bitOf pr)) := hH
    clear hH
    obtain ⟨W1, hW1⟩ : ∃ W1, W1 = W0.setCell ⟨M, i * 2 + 1, none⟩ (.int .u8 H) := ⟨_, rfl⟩
    rw [← hW1] at HX1 HG1
    rw [← hW1]
    clear hW1
    have m1 : W1.cell? ⟨M, i * 2, none⟩ = some (.int .u8 er) := by
      have := (mark_at HX1.out rfl (i := i) (by simpa using HI.out)).1
      simpa using this
    have f1 := (mark_at HX1.out rfl (i := i) (by simpa using HI.out)).2.2 (i * 2)
    have c0 := HX1.out.c0
    have HL1 : Hid (Loc s (Put.kv ⟨pr, pk, pt, ps, pi⟩) (vcells 0 ⟨#[]⟩ 0) W1) := HL.out.grown HG1.out (.inl hMs)
    have HPV : Hid (W1.rangeAt s 1 pv) := rangeAt_grown HPV0.out HG1.out (by simp; omega)
    have HBW : Hid (Frm S s OW w W1) := (Frm.of_below HB.out (by have := HSS.out; omega)).trans (Frm.of_grown HG1.out (by have := HSZ.out; omega) (fun k e => by cases e; exact .inr (.inl (OWM.out M rfl))))
    by_cases hlt : pr < er
    · as_aux_lemma =>
        go_wp2_with (first
          | (refine wpList_load_mid rfl 49 _ rfl s 1 rfl pv _ HPV.out Try.underlying49 rfl (by rw [HPL.out.1]; exact info49s) ?_)
          | (refine wpList_store_mid rfl 49 _ _ rfl (s + 1) 0 pv.toArray rfl rfl (by rw [List.size_toArray, HPL.out.1]; exact HL1.out.there) (by rw [List.size_toArray, HPL.out.1]; exact info49s) (by simpa using HPL.out.2) ?_))
        have HL2 := HL1.out.put (vs := pv) HPL.out.1
        have hg2 := grown_setCells (s + 1) pv 0 W1
        have hM2 := HX1.out.beside HU.out (by omega) hg2
        refine bodyPost_ret (results_cell_tmp (P := Try.prog) Try.results45 _ _ (s + 1) 0 pv _ rfl HL2.ans Try.underlying49 rfl (by rw [HPL.out.1]; exact info49s)) rfl ?_
        have hge : es.getD i default = ⟨ek, et, es', ei, er, eh⟩ := by rw [← HEN.out]; simp [List.getD, HI.out]
        have e1 : putE es ⟨pr, pk, pt, ps, pi⟩ = es.set i ⟨ek, et, es', ei, er, H⟩ := by
          unfold putE; rw [HF.out]; dsimp only; rw [hge]; unfold merge; rw [if_pos hlt, HHH.out]
        refine put_done ?_ (by rw [HF.out]; rfl) (av := .slice (some ⟨A, 0, none⟩) n acap) (mv := .slice (some ⟨M, 0, none⟩) n mcap) (xv := xv) (xs := xs) ?_ HSS.out (HBW.out.trans (Frm.of_grown hg2 (by have := HL1.out.lt; omega) (fun k e => by cases e; exact .inr (.inr (by omega)))))
        · unfold leftE; rw [HF.out]; dsimp only; rw [hge, if_pos hlt, HPVE.out]; rfl
        · rw [e1]
          exact HS.out.set i HI.out _ (by rw [HEN.out]) (hM2.same_kv i HI.out _ (by rw [HEN.out]; rfl))
    · as_aux_lemma =>
        obtain ⟨ov, hov⟩ : ∃ ov, ov = vcells et es' ei := ⟨_, rfl⟩
        have HOL : Hid (ov.length = 8 ∧ ov.all (·.oneCell') = true) := by rw [hov]; exact ⟨rfl, rfl⟩
        have HV1 : Hid (W1.rangeAt A (i * 9 + 1) ov) := by rw [hov]; exact rangeAt_grown HV2.out HG1.out (by simpa using hAM)
        have HVT : Hid (W1.there A (i * 9 + 1) 8) := there_grown HV3.out HG1.out (by simpa using hAM)
        have HOV : Hid (ov = vcells et es' ei) := hov
        clear hov
        have HI8 : Hid ((Try.prog.info? 49).map (·.size) = some pv.length) := by unfold Hid; rw [HPL.out.1]; exact info49s
        have HI8' : Hid ((Try.prog.info? 49).map (·.size) = some pv.toArray.size) := by unfold Hid; rw [List.size_toArray, HPL.out.1]; exact info49s
        have HP1 : Hid (pv.toArray.all (·.oneCell') = true) := by unfold Hid; simpa using HPL.out.2
        go_upto_region 8 with (first
          | (refine wpList_load_mid rfl 49 _ rfl A (i * 9 + 1) rfl ov _ HV1.out Try.underlying49 rfl (by rw [HOL.out.1]; exact info49s) ?_)
          | (refine wpList_store_mid rfl 49 _ _ rfl (s + 1) 0 ov.toArray rfl rfl (by rw [List.size_toArray, HOL.out.1]; exact HL1.out.there) (by rw [List.size_toArray, HOL.out.1]; exact info49s) (by simpa using HOL.out.2) ?_))
        obtain ⟨W2, hW2⟩ : ∃ W2, W2 = W1.setCells (s + 1) 0 ov := ⟨_, rfl⟩
        have hW2' : W1.setCells (s + 1) 0 ov.toArray.toList = W2 := by rw [hW2]
        rw [hW2']
        have HG2 : Hid (W1.grownBy W2 (some (s + 1))) := by rw [hW2]; exact grown_setCells (s + 1) ov 0 W1
        have HL2 : Hid (Loc s (Put.kv ⟨pr, pk, pt, ps, pi⟩) ov W2) := by rw [hW2]; exact HL1.out.put (vs := ov) HOL.out.1
        have HX2 : Hid (SetMem W2 S B (.slice (some ⟨A, 0, none⟩) n acap) (.slice (some ⟨M, 0, none⟩) n mcap) xv es (es.set i ⟨ek, et, es', ei, er, H⟩) xs) := HX1.out.beside HU.out (by omega) HG2.out
        have k0 : W2.cell? ⟨S, 0, none⟩ = some (.slice (some ⟨A, 0, none⟩) n acap) := HX2.out.c0
        have HPV2 : Hid (W2.rangeAt s 1 pv) := rangeAt_grown HPV.out HG2.out (by simp)
        have HTH : Hid (W2.drew.there A (i * 9 + 1) pv.toArray.size) := by
          unfold Hid
          rw [List.size_toArray, HPL.out.1]
          exact (World.there_drew _ _ _ _).2 (there_grown HVT.out HG2.out (by simp; omega))
        have HX3 := (HX2.out.drewN 1).vals i HI.out (e' := ⟨ek, pt, ps, pi, pr, H⟩) (by rw [HEN.out])
        have HX3' : Hid (SetMem (W2.drew.setCells A (i * 9 + 1) pv.toArray.toList) S B (.slice (some ⟨A, 0, none⟩) n acap) (.slice (some ⟨M, 0, none⟩) n mcap) xv (es.set i ⟨ek, pt, ps, pi, pr, H⟩) (es.set i ⟨ek, et, es', ei, er, H⟩) xs) := by
          unfold Hid; rw [HPVE.out]; exact HX3.1
        have HG3 : Hid (W2.grownBy (W2.drew.setCells A (i * 9 + 1) pv.toArray.toList) (some A)) := by
          unfold Hid; rw [HPVE.out]; exact ⟨HX3.2.os, HX3.2.tape, HX3.2.output, HX3.2.size, HX3.2.block⟩
        have KM : Hid ((W2.drew.setCells A (i * 9 + 1) pv.toArray.toList).cell? ⟨M, i * 2, none⟩ = some (.int .u8 er) ∧ (W2.drew.setCells A (i * 9 + 1) pv.toArray.toList).frozen? ⟨M, i * 2, none⟩ = false) := by
          obtain ⟨q1, _, q3⟩ := mark_at HX3'.out rfl (i := i) (by simpa using HI.out)
          exact ⟨by simpa using q1, q3 _⟩
        clear hW2 hW2' HX3 m1 f1
        go_upto_region 9 with fail
        refine Until.start (fun w' => w'.cell? ⟨S, 0, none⟩ = some (.slice (some ⟨A, 0, none⟩) n acap) ∧ w'.rangeAt s 1 pv) 11 (by kernel_rfl) ?_
        have hSW : W2.drew.cell? ⟨S, 0, none⟩ = some (.slice (some ⟨A, 0, none⟩) n acap) ∧ W2.drew.rangeAt s 1 pv := ⟨k0, HPV2.out⟩
        refine Until.take_any (i := 0) (v := ?_) rfl (by kernel_rfl) (by kernel_rfl) (by kernel_rfl) (by kernel_rfl) (fun _ _ _ h => h) (.inr hSW) (Or.inl ⟨by rfl, ?_⟩) ?_
        rotate_left
        · intro w; go_simp; try with_reducible rfl
        simp only [Act.put, List.setIfInBounds_toArray, List.set_cons_zero, List.set_cons_succ]
        refine Until.take_any (i := 1) (v := ?_) rfl (by kernel_rfl) (by kernel_rfl) (by kernel_rfl) (by kernel_rfl) (fun _ _ _ h => h) (.inr hSW) (Or.inl ⟨by rfl, ?_⟩) ?_
        rotate_left
        · intro w; go_simp; try with_reducible rfl
        simp only [Act.put, List.setIfInBounds_toArray, List.set_cons_zero, List.set_cons_succ]
        refine Until.take_any (i := 2) (v := ?_) rfl (by kernel_rfl) (by kernel_rfl) (by kernel_rfl) (by kernel_rfl) (fun _ _ _ h => h) (.inr hSW) (Or.inl ⟨by rfl, ?_⟩) ?_
        rotate_left
        · intro w; go_simp; try with_reducible rfl
        simp only [Act.put, List.setIfInBounds_toArray, List.set_cons_zero, List.set_cons_succ]
        refine Until.take_load (i := 3) (v := ?_) rfl (by kernel_rfl) (by kernel_rfl) (by kernel_rfl) (by kernel_rfl) (by kernel_rfl) (by kernel_rfl) (fun _ _ _ h => h) hSW (Or.inl ⟨by rfl, ?_⟩) ?_
        rotate_left
        · intro w hw; obtain ⟨hw0, hw1⟩ := hw; go_simp; try with_reducible rfl
        simp only [Act.put, List.setIfInBounds_toArray, List.set_cons_zero, List.set_cons_succ]
        refine Until.take_any (i := 4) (v := ?_) rfl (by kernel_rfl) (by kernel_rfl) (by kernel_rfl) (by kernel_rfl) (fun _ _ _ h => h) (.inr hSW) (Or.inl ⟨by rfl, ?_⟩) ?_
        rotate_left
        · intro w; go_simp; try with_reducible rfl
        simp only [Act.put, List.setIfInBounds_toArray, List.set_cons_zero, List.set_cons_succ]
        refine Until.take_any (i := 5) (v := ?_) rfl (by kernel_rfl) (by kernel_rfl) (by kernel_rfl) (by kernel_rfl) (fun _ _ _ h => h) (.inr hSW) (Or.inl ⟨by rfl, ?_⟩) ?_
        rotate_left
        · intro w; go_simp; try with_reducible rfl
        simp only [Act.put, List.setIfInBounds_toArray, List.set_cons_zero, List.set_cons_succ]
        refine Until.take_any (i := 6) (v := ?_) rfl (by kernel_rfl) (by kernel_rfl) (by kernel_rfl) (by kernel_rfl) (fun _ _ _ h => h) (.inr hSW) (Or.inl ⟨by rfl, ?_⟩) ?_
        rotate_left
        · intro w; go_simp; try with_reducible rfl
        simp only [Act.put, List.setIfInBounds_toArray, List.set_cons_zero, List.set_cons_succ]
        refine Until.take_load (i := 7) (v := .agg pv.toArray) rfl (by kernel_rfl) (by kernel_rfl) (by kernel_rfl) (by kernel_rfl) (by kernel_rfl) (by kernel_rfl) (fun _ _ _ h => h) hSW (yieldsIf_load_mid (by rfl) 49 _ rfl s 1 rfl pv _ (fun _ h => h.2) Try.underlying49 rfl HI8.out) ?_
        simp only [Act.put, List.setIfInBounds_toArray, List.set_cons_zero, List.set_cons_succ]
        refine Until.take_any (i := 8) (v := ?_) rfl (by kernel_rfl) (by kernel_rfl) (by kernel_rfl) (by kernel_rfl) (fun _ _ _ h => h) (.inr hSW) (Or.inl ⟨by rfl, ?_⟩) ?_
        rotate_left
        · intro w; go_simp; try with_reducible rfl
        simp only [Act.put, List.setIfInBounds_toArray, List.set_cons_zero, List.set_cons_succ]
        refine Until.take_any (i := 9) (v := ?_) rfl (by kernel_rfl) (by kernel_rfl) (by kernel_rfl) (by kernel_rfl) (fun _ _ _ h => h) (.inr hSW) (Or.inl ⟨by rfl, ?_⟩) ?_
        rotate_left
        · intro w; go_simp; try with_reducible rfl
        simp only [Act.put, List.setIfInBounds_toArray, List.set_cons_zero, List.set_cons_succ]
        refine Until.take_any (i := 10) (v := ?_) rfl (by kernel_rfl) (by kernel_rfl) (by kernel_rfl) (by kernel_rfl) (fun _ _ _ h => h) (.inr hSW) (Or.inl ⟨by rfl, ?_⟩) ?_
        rotate_left
        · intro w; go_simp; try with_reducible rfl
        simp only [Act.put, List.setIfInBounds_toArray, List.set_cons_zero, List.set_cons_succ]
        refine Until.only (i := 11) (by kernel_rfl) rfl (fun K hK => ?_)
        refine step_store_mid rfl 49 _ _ rfl A (i * 9 + 1) pv.toArray rfl rfl HTH.out HI8'.out HP1.out ?_
        refine hK _ _ (.inl (by kernel_rfl)) ?_
        clear hK K hSW
        simp only [Act.put, List.setIfInBounds_toArray, List.set_cons_zero, List.set_cons_succ]
        obtain ⟨W3, hW3⟩ : ∃ W3, W3 = W2.drew.setCells A (i * 9 + 1) pv.toArray.toList := ⟨_, rfl⟩
        rw [← hW3]
        have HW3 : Hid (W3 = W2.drew.setCells A (i * 9 + 1) pv.toArray.toList) := hW3
        clear hW3
        have k1 : W3.cell? ⟨M, i * 2, none⟩ = some (.int .u8 er) := by rw [HW3.out]; exact KM.out.1
        have k2 : W3.frozen? ⟨M, i * 2, none⟩ = false := by rw [HW3.out]; exact KM.out.2
        refine Until.take_any (i := 12) (v := ?_) rfl (by kernel_rfl) (by kernel_rfl) (by kernel_rfl) (by kernel_rfl) (fun _ _ _ h => h) (.inl (by kernel_rfl)) (Or.inl ⟨by rfl, ?_⟩) ?_
        rotate_left
        · intro w; go_simp; try with_reducible rfl
        simp only [Act.put, List.setIfInBounds_toArray, List.set_cons_zero, List.set_cons_succ]
        refine Until.take_any (i := 13) (v := ?_) rfl (by kernel_rfl) (by kernel_rfl) (by kernel_rfl) (by kernel_rfl) (fun _ _ _ h => h) (.inl (by kernel_rfl)) (Or.inl ⟨by rfl, ?_⟩) ?_
        rotate_left
        · intro w; go_simp; try with_reducible rfl
        simp only [Act.put, List.setIfInBounds_toArray, List.set_cons_zero, List.set_cons_succ]
        refine Until.only (i := 14) (by kernel_rfl) rfl (fun K hK => ?_)
        go_simp
        refine hK _ _ (.inl (by kernel_rfl)) ?_
        clear hK K
        refine Until.done (by kernel_rfl) ?_ _
        rw [← HW3.out] at HX3' HG3
        have HX4 := HX3'.out.mark i (by simpa using HI.out) ⟨ek, pt, ps, pi, pr, H⟩ 0 (.int .u8 pr) (.inl ⟨rfl, by simp, rfl⟩)
        obtain ⟨W4, hW4⟩ : ∃ W4, W4 = W3.setCell ⟨M, i * 2, none⟩ (.int .u8 pr) := ⟨_, rfl⟩
        rw [Nat.add_zero, ← hW4, List.set_set] at HX4
        rw [← hW4]
        have HX5 : Hid (SetMem W4 S B (.slice (some ⟨A, 0, none⟩) n acap) (.slice (some ⟨M, 0, none⟩) n mcap) xv (es.set i ⟨ek, pt, ps, pi, pr, H⟩) (es.set i ⟨ek, pt, ps, pi, pr, H⟩) xs) := HX4.1
        have HG4 : Hid (W3.grownBy W4 (some M)) := HX4.2
        have HL4 : Hid (Loc s (Put.kv ⟨pr, pk, pt, ps, pi⟩) ov W4) := (HL2.out.grown HG3.out (.inl hAs)).grown HG4.out (.inl hMs)
        clear HX4 hW4 k1 k2
        go_wp2_with (first
          | (refine wpList_load_mid rfl 49 _ rfl (s + 1) 0 rfl ov _ HL4.out.ans Try.underlying49 rfl (by rw [HOL.out.1]; exact info49s) ?_)
          | (refine wpList_store_mid rfl 49 _ _ rfl (s + 1) 0 ov.toArray rfl rfl (by rw [List.size_toArray, HOL.out.1]; exact HL4.out.there) (by rw [List.size_toArray, HOL.out.1]; exact info49s) (by simpa using HOL.out.2) ?_))
        have HL5 := HL4.out.put (vs := ov) HOL.out.1
        have hg5 := grown_setCells (s + 1) ov 0 W4
        have hM5 := HX5.out.beside HU.out (by omega) hg5
        refine bodyPost_ret (results_cell_tmp (P := Try.prog) Try.results45 _ _ (s + 1) 0 ov _ rfl HL5.ans Try.underlying49 rfl (by rw [HOL.out.1]; exact info49s)) rfl ?_
        have hge : es.getD i default = ⟨ek, et, es', ei, er, eh⟩ := by rw [← HEN.out]; simp [List.getD, HI.out]
        have hnl : ¬ pr < er := by omega
        have e1 : putE es ⟨pr, pk, pt, ps, pi⟩ = es.set i ⟨ek, pt, ps, pi, pr, H⟩ := by
          unfold putE; rw [HF.out]; dsimp only; rw [hge]; unfold merge; rw [if_neg hnl, HHH.out]
        have hB1 : s ≤ W1.heap.size := by have := HL1.out.lt; omega
        have hB2 : s ≤ W2.heap.size := Nat.le_trans hB1 HG2.out.size
        have hB3 : s ≤ W3.heap.size := Nat.le_trans hB2 HG3.out.size
        have hB4 : s ≤ W4.heap.size := Nat.le_trans hB3 HG4.out.size
        have t2 : Frm S s OW W1 W2 := Frm.of_grown HG2.out hB1 (fun k e => by cases e; exact .inr (.inr (by omega)))
        have t3 : Frm S s OW W2 W3 := Frm.of_grown HG3.out hB2 (fun k e => by cases e; exact .inr (.inl (OWA.out A rfl)))
        have t4 : Frm S s OW W3 W4 := Frm.of_grown HG4.out hB3 (fun k e => by cases e; exact .inr (.inl (OWM.out M rfl)))
        have t5 := Frm.of_grown (S := S) (s := s) (OW := OW) hg5 hB4 (fun k e => by cases e; exact .inr (.inr (by omega)))
        refine put_done ?_ (by rw [HF.out]; rfl) (av := .slice (some ⟨A, 0, none⟩) n acap) (mv := .slice (some ⟨M, 0, none⟩) n mcap) (xv := xv) (xs := xs) ?_ HSS.out ((((HBW.out.trans t2).trans t3).trans t4).trans t5)
        · unfold leftE; rw [HF.out]; dsimp only; rw [hge, if_neg hnl, HOV.out]; rfl
        · rw [e1]
          exact HS.out.set i HI.out _ (by rw [HEN.out]) hM5
  | none =>
    have HF : Hid (findE es pk = none) := hf
    clear hf
    simp only [Option.getD_none, Option.isSome_none]
    obtain ⟨a, acap, hav, hac, ha0, ha1⟩ := own_form HS.out.oa
    obtain ⟨n, hn⟩ : ∃ n, n = es.length := ⟨_, rfl⟩
    rw [← hn] at hav hac ha0
    subst hav
    have HNL : Hid (n = es.length) := hn
    have hn2 : n ≤ 1048576 := by rw [hn]; exact hn0.out
    clear hn
    obtain ⟨kvl, hkvl⟩ : ∃ kvl, kvl = Put.kv ⟨pr, pk, pt, ps, pi⟩ := ⟨_, rfl⟩
    rw [← hkvl] at HL
    have HKL : Hid (kvl.length = 9 ∧ kvl.all (·.oneCell') = true) := by rw [hkvl]; exact ⟨rfl, rfl⟩
    have HKE : Hid (kvl = Put.kv ⟨pr, pk, pt, ps, pi⟩) := hkvl
    clear hkvl
    have HKR : Hid (W0.rangeAt s 0 kvl) := HL.out.kv
    have HI9 : Hid ((Try.prog.info? 55).map (·.size) = some kvl.length) := by unfold Hid; rw [HKL.out.1]; exact info55s
    obtain ⟨i55, z55, hi55⟩ := info_wide Try.info55
    have HIP : Hid (Try.prog.info? 55 = some i55 ∧ i55.zero = some z55 ∧ i55.size = 9 ∧ i55.bytes = 136 ∧ z55.cells.size = 9) := hi55
    clear hi55
    have HBs : Hid (B ≤ w.heap.size) := HBW.out
    go_upto_region 10 with fail
    go_cut [] (fun wx => ∃ A c', Hid (SetMem wx S B (.slice (some ⟨A, 0, none⟩) (n + 1) c') mv xv (es ++ [fresh ⟨pr, pk, pt, ps, pi⟩]) es xs) ∧ n + 1 ≤ c' ∧ Hid (A < s ∨ s + 2 ≤ A) ∧ Hid (Frm S s OW w wx) ∧ Hid (Loc s kvl (vcells 0 ⟨#[]⟩ 0) wx))
    case first =>
      refine Until.start (fun w' => w'.cell? ⟨S, 0, none⟩ = some (.slice a n acap) ∧ w'.rangeAt s 0 kvl) 7 (by kernel_rfl) ?_
      have hSW : W0.drew.cell? ⟨S, 0, none⟩ = some (.slice a n acap) ∧ W0.drew.rangeAt s 0 kvl := ⟨c0, HKR.out⟩
      refine Until.take_any (i := 0) (v := ?_) rfl (by kernel_rfl) (by kernel_rfl) (by kernel_rfl) (by kernel_rfl) (fun _ _ _ h => h) (.inr hSW) (Or.inl ⟨by rfl, ?_⟩) ?_
      rotate_left
      · intro w; go_simp; try with_reducible rfl
      simp only [Act.put, List.setIfInBounds_toArray, List.set_cons_zero, List.set_cons_succ]
      refine Until.take_any (i := 1) (v := ?_) rfl (by kernel_rfl) (by kernel_rfl) (by kernel_rfl) (by kernel_rfl) (fun _ _ _ h => h) (.inr hSW) (Or.inl ⟨by rfl, ?_⟩) ?_
      rotate_left
      · intro w; go_simp; try with_reducible rfl
      simp only [Act.put, List.setIfInBounds_toArray, List.set_cons_zero, List.set_cons_succ]
      refine Until.take_any (i := 2) (v := ?_) rfl (by kernel_rfl) (by kernel_rfl) (by kernel_rfl) (by kernel_rfl) (fun _ _ _ h => h) (.inr hSW) (Or.inl ⟨by rfl, ?_⟩) ?_
      rotate_left
      · intro w; go_simp; try with_reducible rfl
      simp only [Act.put, List.setIfInBounds_toArray, List.set_cons_zero, List.set_cons_succ]
      refine Until.take_load (i := 3) (v := ?_) rfl (by kernel_rfl) (by kernel_rfl) (by kernel_rfl) (by kernel_rfl) (by kernel_rfl) (by kernel_rfl) (fun _ _ _ h => h) hSW (Or.inl ⟨by rfl, ?_⟩) ?_
      rotate_left
      · intro w hw; obtain ⟨hw0, hw1⟩ := hw; go_simp; try with_reducible rfl
      simp only [Act.put, List.setIfInBounds_toArray, List.set_cons_zero, List.set_cons_succ]
      refine Until.take_load (i := 4) (v := .agg kvl.toArray) rfl (by kernel_rfl) (by kernel_rfl) (by kernel_rfl) (by kernel_rfl) (by kernel_rfl) (by kernel_rfl) (fun _ _ _ h => h) hSW (yieldsIf_load_mid (by rfl) 55 _ rfl s 0 rfl kvl _ (fun _ h => h.2) Try.underlying55 rfl HI9.out) ?_
      simp only [Act.put, List.setIfInBounds_toArray, List.set_cons_zero, List.set_cons_succ]
      refine Until.take_any (i := 5) (v := ?_) rfl (by kernel_rfl) (by kernel_rfl) (by kernel_rfl) (by kernel_rfl) (fun _ _ _ h => h) (.inr hSW) (Or.inl ⟨by rfl, ?_⟩) ?_
      rotate_left
      · intro w; go_simp; try with_reducible rfl
      simp only [Act.put, List.setIfInBounds_toArray, List.set_cons_zero, List.set_cons_succ]
      refine Until.only (i := 6) (by kernel_rfl) rfl (fun K hK => ?_)
      go_simp
      obtain ⟨Wz, hWz⟩ : ∃ Wz, Wz = (W0.alloc (.cells zkv.toArray 55)).drew := ⟨_, rfl⟩
      have hWz' : (W0.alloc (.cells #[.string ⟨#[]⟩, .int .u8 0, .string ⟨#[]⟩, .bool false, .int .i64 0, .float .f64 0, .slice none 0 0, .slice none 0 0, .slice none 0 0] 55)).drew = Wz := hWz.symm
      rw [hWz']
      have HBz : Hid (Below W0.heap.size W0 Wz) := by rw [hWz]; exact ((Below.refl _ _).alloc (Nat.le_refl _) _).drew
      have HZR : Hid (∀ j u, zkv[j]? = some u → Wz.cell? ((⟨W0.heap.size, 0, none⟩ : Addr).add j) = some u) := by
        intro j u hj
        have e1 : Wz.heap[W0.heap.size]? = some (.cells zkv.toArray 55 (0, 0)) := by rw [hWz]; exact heap_alloc_new _ _
        rw [Addr.add_lit, cell_of_row Wz _ _ _ _ _ e1, Nat.zero_add, ← hj]; simp
      have HSz : Hid (SetMem Wz S B (.slice a n acap) mv xv es es xs) := HS.out.toSetMem.below HBz.out
      have HOz : Hid (Wz.ownsRow B 55 9 (.slice a n acap) n (es.flatMap Ent.kv)) := by have := HSz.out.oa; rw [← HNL.out] at this; exact this
      have hSW1 : Wz.cell? ⟨S, 0, none⟩ = some (.slice a n acap) ∧ Wz.rangeAt s 0 kvl := ⟨HSz.out.c0, rangeAt_below HKR.out HBz.out (by have := HSZ.out; omega)⟩
      have HBelz : Hid (Frm S s OW w Wz) := (Frm.of_below HB.out (by have := HSS.out; omega)).trans (Frm.of_below HBz.out (by have := HSZ.out; omega))
      clear hWz hWz'
      refine hK _ _ (.inr hSW1) ?_
      clear hK K hSW
      refine Until.only (i := 7) (by kernel_rfl) rfl (fun K hK => ?_)
      refine step_append_wide Wz B rfl _ _ 47 rfl 55 i55 z55 9 136 Try.underlying47 HIP.out.1 HIP.out.2.1 HIP.out.2.2.1 HIP.out.2.2.2.1 HIP.out.2.2.2.2 (by decide) _ n _ rfl HOz.out ⟨W0.heap.size, 0, none⟩ 1 zkv rfl rfl HZR.out (by decide) (by unfold maxLen; omega) (by omega) HSz.out.size ?_
      intro A c' w1 hown' hgrow hat hc'
      refine hK _ _ (.inl (by kernel_rfl)) ?_
      clear hK K hSW1
      simp only [Act.put, List.setIfInBounds_toArray, List.set_cons_zero, List.set_cons_succ]
      have HG1 : Hid (Wz.grownBy w1 (Value.slice a n acap).ownBlock) := hgrow
      have HO1 : Hid (w1.ownsRow B 55 9 (.slice (some ⟨A, 0, none⟩) (n + 1) c') (n + 1) (es.flatMap Ent.kv ++ zkv)) := hown'
      have HAT : Hid ((Value.slice a n acap).ownBlock = some A ∨ A = Wz.heap.size) := hat
      have HAA := HSz.out.appA HG1.out (A := A) (c' := c') (z := zkv) rfl (by rw [← HNL.out]; exact HO1.out) HAT.out (fresh ⟨pr, pk, pt, ps, pi⟩)
      rw [← HNL.out] at HAA
      have HKF : Hid ((fresh ⟨pr, pk, pt, ps, pi⟩).kv = kvl.toArray.toList) := by unfold Hid; rw [HKE.out]; rfl
      rw [HKF.out] at HAA
      obtain ⟨⟨hA1, hA2⟩, hAS, hS1, hMA⟩ := HAA
      have HA1 := hA1; have HA1 : Hid (SetMem ((w1.setCells A (n * 9) kvl.toArray.toList).setCell ⟨S, 0, none⟩ (.slice (some ⟨A, 0, none⟩) (n + 1) c')) S B (.slice (some ⟨A, 0, none⟩) (n + 1) c') mv xv (es ++ [fresh ⟨pr, pk, pt, ps, pi⟩]) es xs) := hA1
      have HA2 : Hid (SetMem ((w1.setCell ⟨S, 0, none⟩ (.slice (some ⟨A, 0, none⟩) (n + 1) c')).setCells A (n * 9) kvl.toArray.toList) S B (.slice (some ⟨A, 0, none⟩) (n + 1) c') mv xv (es ++ [fresh ⟨pr, pk, pt, ps, pi⟩]) es xs) := hA2
      have HS1 : Hid (w1.heap[S]? = some (.cells #[.slice a n acap, mv, xv] 88 (0, 0))) := hS1
      have HTH1 : Hid (w1.there A (n * 9) 9) := own_there HO1.out _ _ (by omega)
      have HAs : Hid (A < s ∨ s + 2 ≤ A) := by
        rcases HAT.out with e | e
        · exact .inl (HU.out.a A e)
        · right; have := HBz.out.size; have := HSZ.out; omega
      have HBA : Hid (B ≤ A) := (own_block HO1.out (g := A) rfl).choose_spec.2
      have hrow : ∀ k, (Value.slice a n acap).ownBlock = some k → k < s ∧ B ≤ k := fun k e => ⟨HU.out.a k e, (own_block HS.out.oa (by exact e)).choose_spec.2⟩
      have HL1 : Hid (Loc s kvl (vcells 0 ⟨#[]⟩ 0) w1) := by
        have hz : Loc s kvl (vcells 0 ⟨#[]⟩ 0) Wz := HL.out.below HBz.out (by have := HSZ.out; omega)
        exact hz.grownO HG1.out (fun k e => .inl (hrow k e).1)
      have HAO : Hid (OW A ∨ s ≤ A) := by
        rcases HAT.out with e | e
        · exact .inl (OWA.out A e)
        · right; have := HBz.out.size; have := HSZ.out; omega
      have HB1 : Hid (Frm S s OW w w1) := HBelz.out.trans (Frm.of_grown HG1.out (by have := HBz.out.size; have := HSZ.out; omega) (fun k e => .inr (.inl (OWA.out k e))))
      have HBs1 : Hid (s ≤ w1.heap.size) := by have := HL1.out.lt; unfold Hid; omega
      clear hown' hgrow hat hA1 hA2 hS1 hMA hrow
      have hlt : (n : Int) < (n : Int) + 1 := by omega
      refine Until.take_any (i := 8) (v := ?_) rfl (by kernel_rfl) (by kernel_rfl) (by kernel_rfl) (by kernel_rfl) (fun _ _ _ h => h) (.inl (by kernel_rfl)) (Or.inl ⟨by rfl, ?_⟩) ?_
      rotate_left
      · intro w; go_simp; try with_reducible rfl
      simp only [Act.put, List.setIfInBounds_toArray, List.set_cons_zero, List.set_cons_succ]
      refine Until.take_any (i := 10) (v := ?_) rfl (by kernel_rfl) (by kernel_rfl) (by kernel_rfl) (by kernel_rfl) (fun _ _ _ h => h) (.inl (by kernel_rfl)) (Or.inl ⟨by rfl, ?_⟩) ?_
      rotate_left
      · intro w; go_simp; try with_reducible rfl
      simp only [Act.put, List.setIfInBounds_toArray, List.set_cons_zero, List.set_cons_succ]
      refine Until.take_any (i := 11) (v := ?_) rfl (by kernel_rfl) (by kernel_rfl) (by kernel_rfl) (by kernel_rfl) (fun _ _ _ h => h) (.inl (by kernel_rfl)) (Or.inl ⟨by rfl, ?_⟩) ?_
      rotate_left
      · intro w; go_simp; try with_reducible rfl
      simp only [Act.put, List.setIfInBounds_toArray, List.set_cons_zero, List.set_cons_succ]
      refine Until.pair (i := 9) (j := 12) (by kernel_rfl) rfl rfl (fun K hK => ?_) (fun K hK => ?_)
      · refine step_store_mid rfl 55 _ _ rfl A (n * 9) kvl.toArray rfl rfl (by rw [List.size_toArray, HKL.out.1]; exact HTH1.out) (by rw [List.size_toArray]; exact HI9.out) (by simpa using HKL.out.2) ?_
        refine hK _ _ (.inl (by kernel_rfl)) ?_
        clear hK K
        simp only [Act.put, List.setIfInBounds_toArray, List.set_cons_zero, List.set_cons_succ]
        obtain ⟨W3, hW3⟩ : ∃ W3, W3 = w1.setCells A (n * 9) kvl.toArray.toList := ⟨_, rfl⟩
        have hg3 : w1.grownBy W3 (some A) := by rw [hW3]; exact grown_setCells A _ _ _
        rw [← hW3] at HA1
        rw [← hW3]
        have k3 : W3.heap[S]? = some (.cells #[.slice a n acap, mv, xv] 88 (0, 0)) := (hg3.block S (Array.getElem?_eq_some_iff.1 HS1.out).1 (by simpa using Ne.symm hAS)).trans HS1.out
        have HG3 : Hid (w1.grownBy W3 (some A)) := hg3
        have k1 : W3.cell? ⟨S, 0, none⟩ = some (.slice a n acap) := by rw [cell_of_row W3 S 0 _ _ _ k3]; rfl
        have k2 : W3.frozen? ⟨S, 0, none⟩ = false := frozen_of_row W3 S 0 _ _ k3
        clear hW3 hg3 k3
        refine Until.only (i := 12) (by kernel_rfl) rfl (fun K hK => ?_)
        go_simp
        refine hK _ _ (.inl (by kernel_rfl)) ?_
        clear hK K
        refine Until.done (by kernel_rfl) ?_ _
        go_wp2
        go_meet
        case rel =>
          refine ⟨A, c', HA1, hc', HAs, ?_, ?_⟩
          · exact (HB1.out.trans (Frm.of_grown HG3.out HBs1.out (fun k e => by cases e; exact .inr HAO.out))).trans (Frm.of_grown (grown_setCell _ _ _ _) (Nat.le_trans HBs1.out HG3.out.size) (fun k e => by cases e; exact .inl rfl))
          · exact (HL1.out.grown HG3.out HAs.out).grown (grown_setCell _ _ _ _) (.inl HU.out.S)
      · have k1 : w1.cell? ⟨S, 0, none⟩ = some (.slice a n acap) := by rw [cell_of_row w1 S 0 _ _ _ HS1.out]; rfl
        have k2 : w1.frozen? ⟨S, 0, none⟩ = false := frozen_of_row w1 S 0 _ _ HS1.out
        go_simp
        refine hK _ _ (.inl (by kernel_rfl)) ?_
        clear hK K
        obtain ⟨W3, hW3⟩ : ∃ W3, W3 = w1.setCell ⟨S, 0, none⟩ (.slice (some ⟨A, 0, none⟩) (n + 1) c') := ⟨_, rfl⟩
        have HG3 : Hid (w1.grownBy W3 (some S)) := by rw [hW3]; exact grown_setCell _ _ _ _
        rw [← hW3] at HA2
        rw [← hW3]
        have HTH3 : Hid (W3.there A (n * 9) 9) := there_grown HTH1.out HG3.out (by simpa using hAS)
        clear hW3 k1 k2
        refine Until.only (i := 9) (by kernel_rfl) rfl (fun K hK => ?_)
        refine step_store_mid rfl 55 _ _ rfl A (n * 9) kvl.toArray rfl rfl (by rw [List.size_toArray, HKL.out.1]; exact HTH3.out) (by rw [List.size_toArray]; exact HI9.out) (by simpa using HKL.out.2) ?_
        refine hK _ _ (.inl (by kernel_rfl)) ?_
        clear hK K
        simp only [Act.put, List.setIfInBounds_toArray, List.set_cons_zero, List.set_cons_succ]
        refine Until.done (by kernel_rfl) ?_ _
        obtain ⟨W5, hW5⟩ : ∃ W5, W5 = W3.setCells A (n * 9) kvl.toArray.toList := ⟨_, rfl⟩
        have HG5 : Hid (W3.grownBy W5 (some A)) := by rw [hW5]; exact grown_setCells A _ _ _
        rw [← hW5] at HA2
        rw [← hW5]
        clear hW5
        go_wp2
        go_meet
        case rel =>
          refine ⟨A, c', HA2, hc', HAs, ?_, ?_⟩
          · exact (HB1.out.trans (Frm.of_grown HG3.out HBs1.out (fun k e => by cases e; exact .inl rfl))).trans (Frm.of_grown HG5.out (Nat.le_trans HBs1.out HG3.out.size) (fun k e => by cases e; exact .inr HAO.out))
          · exact (HL1.out.grown HG3.out (.inl HU.out.S)).grown HG5.out HAs.out
    case rest =>
      obtain ⟨A, c', HX, hc', HAs, HBel, HLx⟩ := hcut
      clear c0 c1 c2 gk HKR ha0 ha1 HIP
      have c1 := HX.out.c1
      have f1 := HX.out.fz 1
      obtain ⟨i92, z92, hi92⟩ := info_wide Try.info92
      have HIM : Hid (Try.prog.info? 92 = some i92 ∧ i92.zero = some z92 ∧ i92.size = 2 ∧ i92.bytes = 2 ∧ z92.cells.size = 2) := hi92
      clear hi92
      obtain ⟨mk, hmk⟩ : ∃ mk, mk = (fresh ⟨pr, pk, pt, ps, pi⟩).mark := ⟨_, rfl⟩
      have HMK : Hid (mk = (fresh ⟨pr, pk, pt, ps, pi⟩).mark) := hmk
      have HMB : Hid (Below wc.heap.size wc (wc.alloc (.cells #[.int .u8 pr, .int .u8 (2 ^ min pr.toNat 8 % 256)] 92))) := (Below.refl _ _).alloc (Nat.le_refl _) _
      have HXb : Hid (SetMem (wc.alloc (.cells #[.int .u8 pr, .int .u8 (2 ^ min pr.toNat 8 % 256)] 92)) S B (.slice (some ⟨A, 0, none⟩) (n + 1) c') mv xv (es ++ [fresh ⟨pr, pk, pt, ps, pi⟩]) es xs) := HX.out.below HMB.out
      have HMR : Hid (∀ j u, mk[j]? = some u → (wc.alloc (.cells #[.int .u8 pr, .int .u8 (2 ^ min pr.toNat 8 % 256)] 92)).cell? ((⟨wc.heap.size, 0, none⟩ : Addr).add j) = some u) := by
        intro j u hj
        rw [Addr.add_lit, cell_of_row _ _ _ _ _ _ (heap_alloc_new wc _), Nat.zero_add, ← hj, hmk]
        simp [fresh, Ent.mark, bitOf]
      have HM1 : Hid (mk.length = 2 ∧ ∀ u ∈ mk, u.oneCell' = true) := by
        rw [hmk]; exact ⟨rfl, by intro u hu; simp [fresh, Ent.mark] at hu; rcases hu with rfl | rfl <;> rfl⟩
      have HOb : Hid ((wc.alloc (.cells #[.int .u8 pr, .int .u8 (2 ^ min pr.toNat 8 % 256)] 92)).ownsRow B 92 2 mv n (es.flatMap Ent.mark)) := by have := HXb.out.om; rw [← HNL.out] at this; exact this
      clear hmk
      have hm63 : n + 1 ≤ maxLen := by unfold maxLen; omega
      have hm64 : (n + 1) * 2 ≤ 140737488355328 := by omega
      go_upto_region 12 with (refine wpList_append_wide _ B rfl _ _ 85 rfl 92 i92 z92 2 2 Try.underlying85 HIM.out.1 HIM.out.2.1 HIM.out.2.2.1 HIM.out.2.2.2.1 HIM.out.2.2.2.2 (by decide) mv n _ rfl HOb.out ⟨wc.heap.size, 0, none⟩ 1 mk rfl HM1.out.1 HMR.out HM1.out.2 hm63 hm64 HXb.out.size ?_; intro M mc w1 hown hgrow hat hmc; have HQ := HXb.out.appM hgrow (M := M) (c' := mc) (fresh ⟨pr, pk, pt, ps, pi⟩) (by rw [← HNL.out, ← HMK.out]; exact hown) hat; rw [← HNL.out] at HQ; have HQ1 : Hid (SetMem (w1.setCell ⟨S, 1, none⟩ (.slice (some ⟨M, 0, none⟩) (n + 1) mc)) S B (.slice (some ⟨A, 0, none⟩) (n + 1) c') (.slice (some ⟨M, 0, none⟩) (n + 1) mc) xv (es ++ [fresh ⟨pr, pk, pt, ps, pi⟩]) (es ++ [fresh ⟨pr, pk, pt, ps, pi⟩]) xs) := HQ.1; have k1 : w1.cell? ⟨S, 1, none⟩ = some mv := (by rw [cell_of_row w1 S 1 _ _ _ HQ.2]; rfl); have k2 : w1.frozen? ⟨S, 1, none⟩ = false := frozen_of_row w1 S 1 _ _ HQ.2; have HOM1 : Hid (w1.ownsRow B 92 2 (.slice (some ⟨M, 0, none⟩) (n + 1) mc) (n + 1) (es.flatMap Ent.mark ++ mk)) := hown; have HGM : Hid ((wc.alloc (.cells #[.int .u8 pr, .int .u8 (2 ^ min pr.toNat 8 % 256)] 92)).grownBy w1 mv.ownBlock) := hgrow; have HATM : Hid (mv.ownBlock = some M ∨ M = (wc.alloc (.cells #[.int .u8 pr, .int .u8 (2 ^ min pr.toNat 8 % 256)] 92)).heap.size) := hat; clear HQ hown hgrow hat)
      obtain ⟨W6, hW6⟩ : ∃ W6, W6 = w1.setCell ⟨S, 1, none⟩ (.slice (some ⟨M, 0, none⟩) (n + 1) mc) := ⟨_, rfl⟩
      have hG6 : w1.grownBy W6 (some S) := by rw [hW6]; exact grown_setCell _ _ _ _
      rw [← hW6] at HQ1
      rw [← hW6]
      have hs2 : s + 2 ≤ wc.heap.size := World.block_lt_of_cell? wc _ (HLx.out.ans 0 _ rfl)
      have HMs : Hid (M < s ∨ s + 2 ≤ M) := by
        rcases HATM.out with e | e
        · exact .inl (HU.out.m M e)
        · right; rw [e]; simp; omega
      have hrowM : ∀ k, mv.ownBlock = some k → k < s ∧ B ≤ k := fun k e => ⟨HU.out.m k e, (own_block HS.out.om e).choose_spec.2⟩
      have hBb : s ≤ (wc.alloc (.cells #[.int .u8 pr, .int .u8 (2 ^ min pr.toNat 8 % 256)] 92)).heap.size := by simp; omega
      have hB1 : s ≤ w1.heap.size := Nat.le_trans hBb HGM.out.size
      have HB6 : Hid (Frm S s OW w W6) := ((HBel.out.trans (Frm.of_below HMB.out (by omega))).trans (Frm.of_grown HGM.out hBb (fun k e => .inr (.inl (OWM.out k e))))).trans (Frm.of_grown hG6 hB1 (fun k e => by cases e; exact .inl rfl))
      have HL6 : Hid (Loc s kvl (vcells 0 ⟨#[]⟩ 0) W6) := ((HLx.out.below HMB.out hs2).grownO HGM.out (fun k e => .inl (hrowM k e).1)).grown hG6 (.inl HU.out.S)
      have HOF : Hid (Off s S (.slice (some ⟨A, 0, none⟩) (n + 1) c') (.slice (some ⟨M, 0, none⟩) (n + 1) mc) xs) := ⟨HU.out.S, fun g e => by cases e; exact HAs.out, fun g e => by cases e; exact HMs.out, fun X c D e => .inl (HU.out.x X c D e)⟩
      have HND : Hid (((es ++ [fresh ⟨pr, pk, pt, ps, pi⟩]).map Ent.key).Nodup) := nodup_snoc HS.out.nd HF.out
      have HKO : Hid (∀ e ∈ es ++ [fresh ⟨pr, pk, pt, ps, pi⟩], e.key.size ≤ maxLen) := fun e he => by
        rcases List.mem_append.1 he with h1 | h1
        · exact HS.out.ko e h1
        · simp at h1; subst h1; exact hk
      have HIX : Hid ((es.length ≤ 16 ∧ xs = none) ∨ (16 < es.length ∧ ∃ X D, xs = some (X, es.length, D) ∧ IdxOk D es)) := HS.out.ix
      have HOX : Hid ((xs = none ∧ xv = .map none) ∨ ∃ X c D, xs = some (X, c, D) ∧ xv = .map (some X) ∧ B ≤ X ∧ W6.ownsMap Try.prog 9 (plainElem Try.prog 3) X c D) := HQ1.out.ox
      clear hW6 hG6 hs2 hrowM hBb hB1 HXb HMB HMR HOb HGM HATM HOM1 HBel HLx HX k1 k2 c1 f1 HL HS HB
      have c0 := HQ1.out.c0
      have c2 := HQ1.out.c2
      have f2 := HQ1.out.fz 2
      rcases Nat.lt_trichotomy n 16 with h16 | h16 | h16
      · have hq1 : ((n : Int) + 1 == 17) = false := by simp; omega
        have hq2 : (n : Int) + 1 ≤ 17 := by omega
        have HNX : Hid ((es.length + 1 ≤ 16 ∧ xs = none) ∨ (16 < es.length + 1 ∧ ∃ X D, xs = some (X, es.length + 1, D) ∧ IdxOk D (es ++ [fresh ⟨pr, pk, pt, ps, pi⟩]))) := by
          rcases HIX.out with h1 | h1
          · exact .inl ⟨by have := HNL.out; omega, h1.2⟩
          · have := HNL.out; omega
        clear c2 f2 HOX HIX
        go_wp2_with (refine wpList_store_mid rfl 49 _ _ rfl (s + 1) 0 (vcells 0 ⟨#[]⟩ 0).toArray rfl rfl HL6.out.there zv_info zv_one ?_)
        have hlf := HL6.out.put (vs := vcells 0 ⟨#[]⟩ 0) rfl
        refine bodyPost_ret (results_cell_tmp (P := Try.prog) Try.results45 _ _ (s + 1) 0 (vcells 0 ⟨#[]⟩ 0) _ rfl hlf.ans Try.underlying49 rfl info49s) rfl ?_
        exact put_new HF.out HQ1.out HOF.out HND.out HKO.out HNX.out HB6.out HSS.out HL6.out.lt
      · subst h16
        obtain ⟨hxs, hxv⟩ : xs = none ∧ xv = .map none := by
          rcases HIX.out with ⟨_, e⟩ | ⟨h1, _⟩
          · rcases HOX.out with h2 | ⟨X, c, D, e2, _⟩
            · exact h2
            · rw [e] at e2; cases e2
          · have := HNL.out; omega
        subst hxs hxv
        have HL17 : Hid (es.length = 16) := HNL.out.symm
        have hmm := @run_makeMap Try.prog
        have q86 : ∀ (w : World) (r : Option Nat), (binOp .eql 86 (.map r) (.map none)).run Try.prog w = .ok (.bool r.isNone) w := fun w r => run_eql_map_nil w _ _ _ r Try.underlying86
        have hsW : s + 2 ≤ W6.heap.size := World.block_lt_of_cell? W6 _ (HL6.out.ans 0 _ rfl)
        have HX7 := HQ1.out.makeX
        have HG7a := World.grownBy_alloc W6 (.map #[] 0) none
        have HG7b := grown_setCell (W6.alloc (.map #[] 0)) S 2 (.map (some W6.heap.size))
        have c2' : (W6.alloc (.map #[] 0)).cell? ⟨S, 2, none⟩ = some (.map none) := HG7a.cell c2 (by simp)
        have f2' : (W6.alloc (.map #[] 0)).frozen? ⟨S, 2, none⟩ = false := by
          rw [World.frozen?_of_block (w := W6) (HG7a.block S HQ1.out.lt (by simp))]; exact f2
        have HB7 : Hid (Frm S s OW w ((W6.alloc (.map #[] 0)).setCell ⟨S, 2, none⟩ (.map (some W6.heap.size)))) := (HB6.out.trans (Frm.of_grown HG7a (by omega) (fun k e => by cases e))).trans (Frm.of_grown HG7b (Nat.le_trans (by omega) HG7a.size) (fun k e => by cases e; exact .inl rfl))
        have HL7 : Hid (Loc s kvl (vcells 0 ⟨#[]⟩ 0) ((W6.alloc (.map #[] 0)).setCell ⟨S, 2, none⟩ (.map (some W6.heap.size)))) := (HL6.out.grownO HG7a (fun k e => by cases e)).grown HG7b (.inl HU.out.S)
        have HX7' : Hid (SetMem ((W6.alloc (.map #[] 0)).setCell ⟨S, 2, none⟩ (.map (some W6.heap.size))) S B (.slice (some ⟨A, 0, none⟩) 17 c') (.slice (some ⟨M, 0, none⟩) 17 mc) (.map (some W6.heap.size)) (es ++ [fresh ⟨pr, pk, pt, ps, pi⟩]) (es ++ [fresh ⟨pr, pk, pt, ps, pi⟩]) (some (W6.heap.size, 0, .map []))) := HX7
        clear HX7 HG7a HG7b
        go_upto_region 16 with fail
        obtain ⟨W7, hW7⟩ : ∃ W7, W7 = (W6.alloc (.map #[] 0)).setCell ⟨S, 2, none⟩ (.map (some W6.heap.size)) := ⟨_, rfl⟩
        rw [← hW7] at HB7 HL7 HX7'
        rw [← hW7]
        obtain ⟨X, hX⟩ : ∃ X, X = W6.heap.size := ⟨_, rfl⟩
        rw [← hX] at HX7' hsW
        have HXs : Hid (s + 2 ≤ X) := hsW
        have HBX : Hid (B ≤ X) := by rw [hX]; exact HQ1.out.size
        clear hW7 hX c2' f2' c2 f2 c0 HQ1 HB6 HL6 hsW hmm q86
        have c0 := HX7'.out.c0
        have HEL : Hid ((es ++ [fresh ⟨pr, pk, pt, ps, pi⟩]).length = 17) := by unfold Hid; rw [List.length_append, HL17.out]; rfl
        have HAS : Hid (Off s S (.slice (some ⟨A, 0, none⟩) 17 c') (.slice (some ⟨M, 0, none⟩) 17 mc) none) := HOF.out
        go_wp2
        go_loopw [111] (fun i wr => ∃ (k : Nat) (D : DataW Unit), k ≤ 17 ∧ i = .int .i64 k ∧ Hid (SetMem wr S B (.slice (some ⟨A, 0, none⟩) 17 c') (.slice (some ⟨M, 0, none⟩) 17 mc) (.map (some X)) (es ++ [fresh ⟨pr, pk, pt, ps, pi⟩]) (es ++ [fresh ⟨pr, pk, pt, ps, pi⟩]) (some (X, k, D))) ∧ Hid (IdxOk D ((es ++ [fresh ⟨pr, pk, pt, ps, pi⟩]).take k)) ∧ Hid (Loc s kvl (vcells 0 ⟨#[]⟩ 0) wr) ∧ Hid (Frm S s OW w wr)) (fun i _ => 17 - (intOf i).toNat)
        case atStart => exact ⟨0, .map [], by omega, rfl, HX7', idx_nil, HL7, HB7⟩
        case round =>
          obtain ⟨k, D, hk17, rfl, HXr, HOKr, HLr, HBr⟩ := hrel
          clear HX7' HL7 HB7 c0
          by_cases hlt : k < 17
          · have d0 := HXr.out.c0
            have d2 := HXr.out.c2
            have hkl : k < (es ++ [fresh ⟨pr, pk, pt, ps, pi⟩]).length := by rw [HEL.out]; exact hlt
            have dk := (vals_at HXr.out rfl (i := k) hkl).1
            obtain ⟨en, hen⟩ : ∃ en, en = (es ++ [fresh ⟨pr, pk, pt, ps, pi⟩])[k]'hkl := ⟨_, rfl⟩
            rw [← hen] at dk
            obtain ⟨ky, hky⟩ : ∃ ky, ky = en.key := ⟨_, rfl⟩
            rw [← hky] at dk
            have hkey : keyOf Try.prog 9 (.string ky) = some (klit ky) := key9 (by rw [hky, hen]; exact HKO.out _ (List.getElem_mem hkl))
            have HIS : Hid (IdxOk (D.put (klit ky) (.lit (.int .i64 k))) ((es ++ [fresh ⟨pr, pk, pt, ps, pi⟩]).take (k + 1))) := by
              have h1 := idx_snoc (e := en) HOKr.out (by rw [hen]; exact take_new HND.out k hkl)
              rw [← hky, List.length_take_of_le (by omega), hen, ← List.take_succ_eq_append_getElem hkl] at h1
              exact h1
            have HOW : Hid (wr.ownsMap Try.prog 9 (plainElem Try.prog 3) X k D) := HXr.out.map.1
            have hm62 : k < maxLen := by unfold maxLen; omega
            have hwn : (Lit.int .i64 (k : Int)).wf = true := WalkArith.wf_i64 (by omega)
            clear hkl hen hky
            go_upto_region 19 with fail
            refine Until.start (fun w' => w'.cell? ⟨S, 2, none⟩ = some (.map (some X)) ∧ w'.cell? ⟨S, 0, none⟩ = some (.slice (some ⟨A, 0, none⟩) 17 c') ∧ w'.cell? ⟨A, k * 9, none⟩ = some (.string ky)) 13 (by kernel_rfl) ?_
            have hSW : wr.drew.cell? ⟨S, 2, none⟩ = some (.map (some X)) ∧ wr.drew.cell? ⟨S, 0, none⟩ = some (.slice (some ⟨A, 0, none⟩) 17 c') ∧ wr.drew.cell? ⟨A, k * 9, none⟩ = some (.string ky) := ⟨d2, d0, dk⟩
            refine Until.take_any (i := 0) (v := ?_) rfl (by kernel_rfl) (by kernel_rfl) (by kernel_rfl) (by kernel_rfl) (fun _ _ _ h => h) (.inr hSW) (Or.inl ⟨by rfl, ?_⟩) ?_
            rotate_left
            · intro w; go_simp; try with_reducible rfl
            simp only [Act.put, List.setIfInBounds_toArray, List.set_cons_zero, List.set_cons_succ]
            refine Until.take_any (i := 1) (v := ?_) rfl (by kernel_rfl) (by kernel_rfl) (by kernel_rfl) (by kernel_rfl) (fun _ _ _ h => h) (.inr hSW) (Or.inl ⟨by rfl, ?_⟩) ?_
            rotate_left
            · intro w; go_simp; try with_reducible rfl
            simp only [Act.put, List.setIfInBounds_toArray, List.set_cons_zero, List.set_cons_succ]
            refine Until.take_any (i := 2) (v := ?_) rfl (by kernel_rfl) (by kernel_rfl) (by kernel_rfl) (by kernel_rfl) (fun _ _ _ h => h) (.inr hSW) (Or.inl ⟨by rfl, ?_⟩) ?_
            rotate_left
            · intro w; go_simp; try with_reducible rfl
            simp only [Act.put, List.setIfInBounds_toArray, List.set_cons_zero, List.set_cons_succ]
            refine Until.take_load (i := 3) (v := ?_) rfl (by kernel_rfl) (by kernel_rfl) (by kernel_rfl) (by kernel_rfl) (by kernel_rfl) (by kernel_rfl) (fun _ _ _ h => h) hSW (Or.inl ⟨by rfl, ?_⟩) ?_
            rotate_left
            · intro w hw; obtain ⟨hw0, hw1, hw2⟩ := hw; go_simp; try with_reducible rfl
            simp only [Act.put, List.setIfInBounds_toArray, List.set_cons_zero, List.set_cons_succ]
            refine Until.take_any (i := 4) (v := ?_) rfl (by kernel_rfl) (by kernel_rfl) (by kernel_rfl) (by kernel_rfl) (fun _ _ _ h => h) (.inr hSW) (Or.inl ⟨by rfl, ?_⟩) ?_
            rotate_left
            · intro w; go_simp; try with_reducible rfl
            simp only [Act.put, List.setIfInBounds_toArray, List.set_cons_zero, List.set_cons_succ]
            refine Until.take_any (i := 5) (v := ?_) rfl (by kernel_rfl) (by kernel_rfl) (by kernel_rfl) (by kernel_rfl) (fun _ _ _ h => h) (.inr hSW) (Or.inl ⟨by rfl, ?_⟩) ?_
            rotate_left
            · intro w; go_simp; try with_reducible rfl
            simp only [Act.put, List.setIfInBounds_toArray, List.set_cons_zero, List.set_cons_succ]
            refine Until.take_any (i := 6) (v := ?_) rfl (by kernel_rfl) (by kernel_rfl) (by kernel_rfl) (by kernel_rfl) (fun _ _ _ h => h) (.inr hSW) (Or.inl ⟨by rfl, ?_⟩) ?_
            rotate_left
            · intro w; go_simp; try with_reducible rfl
            simp only [Act.put, List.setIfInBounds_toArray, List.set_cons_zero, List.set_cons_succ]
            refine Until.take_load (i := 7) (v := ?_) rfl (by kernel_rfl) (by kernel_rfl) (by kernel_rfl) (by kernel_rfl) (by kernel_rfl) (by kernel_rfl) (fun _ _ _ h => h) hSW (Or.inl ⟨by rfl, ?_⟩) ?_
            rotate_left
            · intro w hw; obtain ⟨hw0, hw1, hw2⟩ := hw; go_simp; try with_reducible rfl
            simp only [Act.put, List.setIfInBounds_toArray, List.set_cons_zero, List.set_cons_succ]
            refine Until.take_any (i := 8) (v := ?_) rfl (by kernel_rfl) (by kernel_rfl) (by kernel_rfl) (by kernel_rfl) (fun _ _ _ h => h) (.inr hSW) (Or.inl ⟨by rfl, ?_⟩) ?_
            rotate_left
            · intro w; go_simp; try with_reducible rfl
            simp only [Act.put, List.setIfInBounds_toArray, List.set_cons_zero, List.set_cons_succ]
            refine Until.take_any (i := 9) (v := ?_) rfl (by kernel_rfl) (by kernel_rfl) (by kernel_rfl) (by kernel_rfl) (fun _ _ _ h => h) (.inr hSW) (Or.inl ⟨by rfl, ?_⟩) ?_
            rotate_left
            · intro w; go_simp; try with_reducible rfl
            simp only [Act.put, List.setIfInBounds_toArray, List.set_cons_zero, List.set_cons_succ]
            refine Until.take_any (i := 10) (v := ?_) rfl (by kernel_rfl) (by kernel_rfl) (by kernel_rfl) (by kernel_rfl) (fun _ _ _ h => h) (.inr hSW) (Or.inl ⟨by rfl, ?_⟩) ?_
            rotate_left
            · intro w; go_simp; try with_reducible rfl
            simp only [Act.put, List.setIfInBounds_toArray, List.set_cons_zero, List.set_cons_succ]
            refine Until.take_load (i := 11) (v := ?_) rfl (by kernel_rfl) (by kernel_rfl) (by kernel_rfl) (by kernel_rfl) (by kernel_rfl) (by kernel_rfl) (fun _ _ _ h => h) hSW (Or.inl ⟨by rfl, ?_⟩) ?_
            rotate_left
            · intro w hw; obtain ⟨hw0, hw1, hw2⟩ := hw; go_simp; try with_reducible rfl
            simp only [Act.put, List.setIfInBounds_toArray, List.set_cons_zero, List.set_cons_succ]
            refine Until.take_any (i := 12) (v := ?_) rfl (by kernel_rfl) (by kernel_rfl) (by kernel_rfl) (by kernel_rfl) (fun _ _ _ h => h) (.inr hSW) (Or.inl ⟨by rfl, ?_⟩) ?_
            rotate_left
            · intro w; go_simp; try with_reducible rfl
            simp only [Act.put, List.setIfInBounds_toArray, List.set_cons_zero, List.set_cons_succ]
            refine Until.only (i := 13) (by kernel_rfl) rfl (fun K hK => ?_)
            refine step_mapUpdate rfl _ _ _ 86 rfl 9 3 law9 Try.underlying86 (plainElem Try.prog 3) X k D rfl HOW.out.drew hm62 _ _ _ rfl rfl hkey (.lit (.int .i64 k)) [] (plainElem_int Try.underlying3 hwn) ?_
            intro w8 ho8 hg8
            refine hK _ _ (.inl (by kernel_rfl)) ?_
            clear hK K hSW
            refine Until.done (by kernel_rfl) ?_ _
            simp only [Act.put, List.setIfInBounds_toArray, List.set_cons_zero, List.set_cons_succ]
            have HX8 : Hid (SetMem w8 S B (.slice (some ⟨A, 0, none⟩) 17 c') (.slice (some ⟨M, 0, none⟩) 17 mc) (.map (some X)) (es ++ [fresh ⟨pr, pk, pt, ps, pi⟩]) (es ++ [fresh ⟨pr, pk, pt, ps, pi⟩]) (some (X, k + 1, D.put (klit ky) (.lit (.int .i64 k))))) := (HXr.out.drewN 1).putX hg8 ho8
            have HL8 : Hid (Loc s kvl (vcells 0 ⟨#[]⟩ 0) w8) := HLr.out.grown (w' := w8) ⟨hg8.os, hg8.tape, hg8.output, hg8.size, hg8.block⟩ (.inr HXs.out)
            have HB8 : Hid (Frm S s OW w w8) := (HBr.out.drewN 1).trans (Frm.of_grown hg8 (by have := (HLr.out).lt; exact Nat.le_trans (by omega) (Nat.le_refl wr.heap.size)) (fun j e => by cases e; exact .inr (.inr (by have := HXs.out; omega))))
            clear hg8 ho8 d0 d2 dk
            go_wp2
            go_roundw
            case rel => exact ⟨k + 1, _, by omega, by go_num, HX8, HIS, HL8, HB8⟩
            case measure => simp [intOf]; omega
          · obtain rfl : k = 17 := by omega
            have HNX : Hid ((es.length + 1 ≤ 16 ∧ some (X, 17, D) = none) ∨ (16 < es.length + 1 ∧ ∃ X' D', some (X, 17, D) = some (X', es.length + 1, D') ∧ IdxOk D' (es ++ [fresh ⟨pr, pk, pt, ps, pi⟩]))) := by
              refine .inr ⟨by rw [HL17.out]; omega, X, D, by rw [HL17.out], ?_⟩
              have := HOKr.out
              rw [List.take_of_length_le (by rw [HEL.out]; exact Nat.le_refl _)] at this
              exact this
            have HOF8 : Hid (Off s S (.slice (some ⟨A, 0, none⟩) 17 c') (.slice (some ⟨M, 0, none⟩) 17 mc) (some (X, 17, D))) := ⟨HAS.out.S, HAS.out.a, HAS.out.m, fun X' c2 D2 e => by simp only [Option.some.injEq, Prod.mk.injEq] at e; rw [← e.1]; exact .inr HXs.out⟩
            go_wp2_with (refine wpList_store_mid rfl 49 _ _ rfl (s + 1) 0 (vcells 0 ⟨#[]⟩ 0).toArray rfl rfl HLr.out.there zv_info zv_one ?_)
            have hlf := HLr.out.put (vs := vcells 0 ⟨#[]⟩ 0) rfl
            refine bodyPost_ret (results_cell_tmp (P := Try.prog) Try.results45 _ _ (s + 1) 0 (vcells 0 ⟨#[]⟩ 0) _ rfl hlf.ans Try.underlying49 rfl info49s) rfl ?_
            exact put_new HF.out HXr.out HOF8.out HND.out HKO.out HNX.out HBr.out HSS.out HLr.out.lt
      · obtain ⟨X, D, hxs, hok⟩ : ∃ X D, xs = some (X, n, D) ∧ IdxOk D es := by
          rcases HIX.out with h1 | ⟨_, X, D, e1, h2⟩
          · have := HNL.out; omega
          · exact ⟨X, D, by rw [HNL.out]; exact e1, h2⟩
        subst hxs
        obtain ⟨_, hbad⟩ | ⟨X', c1, D1, e1, e2, h3, h4⟩ := HOX.out
        · rename_i hno; cases hno
        simp only [Option.some.injEq, Prod.mk.injEq] at e1
        obtain ⟨rfl, rfl, rfl⟩ := e1
        subst e2
        have HOW : Hid (W6.ownsMap Try.prog 9 (plainElem Try.prog 3) X n D) := h4
        have HOK : Hid (IdxOk D es) := hok
        have gk : W6.cell? ⟨s, 0, none⟩ = some (.string pk) := HL6.out.kv 0 _ (by rw [HKE.out]; rfl)
        have hkey := key9 hk
        have hm62 : n < maxLen := by unfold maxLen; omega
        have hwn : (Lit.int .i64 (n : Int)).wf = true := WalkArith.wf_i64 (by omega)
        have hq1 : ((n : Int) + 1 == 17) = false := by simp; omega
        have hq2 : 17 < (n : Int) + 1 := by omega
        have HXs : Hid (X < s ∨ s + 2 ≤ X) := HOF.out.x X n D rfl
        have HBX : Hid (B ≤ X) := h3
        clear h4 hok HIX HOX h3
        go_upto_region 22 with fail
        refine Until.start (fun w' => w'.cell? ⟨S, 2, none⟩ = some (.map (some X)) ∧ w'.cell? ⟨s, 0, none⟩ = some (.string pk)) 8 (by kernel_rfl) ?_
        have hSW : W6.drew.cell? ⟨S, 2, none⟩ = some (.map (some X)) ∧ W6.drew.cell? ⟨s, 0, none⟩ = some (.string pk) := ⟨c2, gk⟩
        refine Until.take_any (i := 0) (v := ?_) rfl (by kernel_rfl) (by kernel_rfl) (by kernel_rfl) (by kernel_rfl) (fun _ _ _ h => h) (.inr hSW) (Or.inl ⟨by rfl, ?_⟩) ?_
        rotate_left
        · intro w; go_simp; try with_reducible rfl
        simp only [Act.put, List.setIfInBounds_toArray, List.set_cons_zero, List.set_cons_succ]
        refine Until.take_any (i := 1) (v := ?_) rfl (by kernel_rfl) (by kernel_rfl) (by kernel_rfl) (by kernel_rfl) (fun _ _ _ h => h) (.inr hSW) (Or.inl ⟨by rfl, ?_⟩) ?_
        rotate_left
        · intro w; go_simp; try with_reducible rfl
        simp only [Act.put, List.setIfInBounds_toArray, List.set_cons_zero, List.set_cons_succ]
        refine Until.take_any (i := 2) (v := ?_) rfl (by kernel_rfl) (by kernel_rfl) (by kernel_rfl) (by kernel_rfl) (fun _ _ _ h => h) (.inr hSW) (Or.inl ⟨by rfl, ?_⟩) ?_
        rotate_left
        · intro w; go_simp; try with_reducible rfl
        simp only [Act.put, List.setIfInBounds_toArray, List.set_cons_zero, List.set_cons_succ]
        refine Until.take_load (i := 3) (v := ?_) rfl (by kernel_rfl) (by kernel_rfl) (by kernel_rfl) (by kernel_rfl) (by kernel_rfl) (by kernel_rfl) (fun _ _ _ h => h) hSW (Or.inl ⟨by rfl, ?_⟩) ?_
        rotate_left
        · intro w hw; obtain ⟨hw0, hw1⟩ := hw; go_simp; try with_reducible rfl
        simp only [Act.put, List.setIfInBounds_toArray, List.set_cons_zero, List.set_cons_succ]
        refine Until.take_any (i := 4) (v := ?_) rfl (by kernel_rfl) (by kernel_rfl) (by kernel_rfl) (by kernel_rfl) (fun _ _ _ h => h) (.inr hSW) (Or.inl ⟨by rfl, ?_⟩) ?_
        rotate_left
        · intro w; go_simp; try with_reducible rfl
        simp only [Act.put, List.setIfInBounds_toArray, List.set_cons_zero, List.set_cons_succ]
        refine Until.take_load (i := 5) (v := ?_) rfl (by kernel_rfl) (by kernel_rfl) (by kernel_rfl) (by kernel_rfl) (by kernel_rfl) (by kernel_rfl) (fun _ _ _ h => h) hSW (Or.inl ⟨by rfl, ?_⟩) ?_
        rotate_left
        · intro w hw; obtain ⟨hw0, hw1⟩ := hw; go_simp; try with_reducible rfl
        simp only [Act.put, List.setIfInBounds_toArray, List.set_cons_zero, List.set_cons_succ]
        refine Until.take_any (i := 6) (v := ?_) rfl (by kernel_rfl) (by kernel_rfl) (by kernel_rfl) (by kernel_rfl) (fun _ _ _ h => h) (.inr hSW) (Or.inl ⟨by rfl, ?_⟩) ?_
        rotate_left
        · intro w; go_simp; try with_reducible rfl
        simp only [Act.put, List.setIfInBounds_toArray, List.set_cons_zero, List.set_cons_succ]
        refine Until.take_any (i := 7) (v := .int .i64 (n : Int)) rfl (by kernel_rfl) (by kernel_rfl) (by kernel_rfl) (by kernel_rfl) (fun _ _ _ h => h) (.inr hSW) (Or.inl ⟨by rfl, ?_⟩) ?_
        · intro w; go_simp; exact IntWalk.i64_in _ (by omega)
        simp only [Act.put, List.setIfInBounds_toArray, List.set_cons_zero, List.set_cons_succ]
        refine Until.only (i := 8) (by kernel_rfl) rfl (fun K hK => ?_)
        refine step_mapUpdate rfl _ _ _ 86 rfl 9 3 law9 Try.underlying86 (plainElem Try.prog 3) X n D rfl HOW.out.drew hm62 _ _ _ rfl rfl hkey (.lit (.int .i64 n)) [] (plainElem_int Try.underlying3 hwn) ?_
        intro w8 ho8 hg8
        refine hK _ _ (.inl (by kernel_rfl)) ?_
        clear hK K hSW
        refine Until.done (by kernel_rfl) ?_ _
        simp only [Act.put, List.setIfInBounds_toArray, List.set_cons_zero, List.set_cons_succ]
        have HX8 : Hid (SetMem w8 S B (.slice (some ⟨A, 0, none⟩) (n + 1) c') (.slice (some ⟨M, 0, none⟩) (n + 1) mc) (.map (some X)) (es ++ [fresh ⟨pr, pk, pt, ps, pi⟩]) (es ++ [fresh ⟨pr, pk, pt, ps, pi⟩]) (some (X, n + 1, D.put (klit pk) (.lit (.int .i64 n))))) := (HQ1.out.drewN 1).putX hg8 ho8
        have HL8 : Hid (Loc s kvl (vcells 0 ⟨#[]⟩ 0) w8) := HL6.out.grown (w' := w8) ⟨hg8.os, hg8.tape, hg8.output, hg8.size, hg8.block⟩ HXs.out
        have HB8 : Hid (Frm S s OW w w8) := (HB6.out.drewN 1).trans (Frm.of_grown hg8 (by have := HL6.out.lt; exact Nat.le_trans (by omega) (Nat.le_refl W6.heap.size)) (fun k e => by cases e; exact .inr (.inl (OWX.out X n D rfl))))
        have HOF8 : Hid (Off s S (.slice (some ⟨A, 0, none⟩) (n + 1) c') (.slice (some ⟨M, 0, none⟩) (n + 1) mc) (some (X, n + 1, D.put (klit pk) (.lit (.int .i64 n))))) := ⟨HOF.out.S, HOF.out.a, HOF.out.m, fun X' c2 D2 e => by simp only [Option.some.injEq, Prod.mk.injEq] at e; rw [← e.1]; exact HXs.out⟩
        have HNX : Hid ((es.length + 1 ≤ 16 ∧ some (X, n + 1, D.put (klit pk) (.lit (.int .i64 n))) = none) ∨ (16 < es.length + 1 ∧ ∃ X' D', some (X, n + 1, D.put (klit pk) (.lit (.int .i64 n))) = some (X', es.length + 1, D') ∧ IdxOk D' (es ++ [fresh ⟨pr, pk, pt, ps, pi⟩]))) := by
          refine .inr ⟨by have := HNL.out; omega, X, _, by rw [← HNL.out], ?_⟩
          have := idx_snoc (e := fresh ⟨pr, pk, pt, ps, pi⟩) HOK.out HF.out
          rw [← HNL.out] at this
          exact this
        clear hg8 ho8 c2 f2 gk c0
        go_wp2_with (refine wpList_store_mid rfl 49 _ _ rfl (s + 1) 0 (vcells 0 ⟨#[]⟩ 0).toArray rfl rfl HL8.out.there zv_info zv_one ?_)
        have hlf := HL8.out.put (vs := vcells 0 ⟨#[]⟩ 0) rfl
        refine bodyPost_ret (results_cell_tmp (P := Try.prog) Try.results45 _ _ (s + 1) 0 (vcells 0 ⟨#[]⟩ 0) _ rfl hlf.ans Try.underlying49 rfl info49s) rfl ?_
        exact put_new HF.out HX8.out HOF8.out HND.out HKO.out HNX.out HB8.out HSS.out HL8.out.lt
end Go.Proofs.Qxb6603471a
