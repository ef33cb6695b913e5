/-
  THE PROOF OF 'Rows.FnAttributeSetPutMatchesHistoryModelSaid': the shell that the kit's tool wrote for a fellow statement, turned to this function.
-/
import Derived.Test.Qxb6603471aRows
import Derived.Test.Qxb6603471aAtLaw5
import Derived.WalkKit
import Derived.ProofKit
import Derived.OpenShut
import Derived.ShutString
import Derived.ChangeOld
import Derived.Below
namespace Go.Proofs.Qxb6603471a.fnAttributeSetPutMatchesHistoryModel
open Go.ChangeShapes Go.WideShapes Go.ChangeAt Go.RowKit
open Go.ChangeMaps (open_string shut_string)
set_option linter.unusedVariables false

theorem own : ownKnob Try.prog.godebug = none := by kernel_rfl
theorem laidOut : laidOutB Try.prog = true := by kernel_rfl

/-- A []AttrPut that came in, opened. -/
theorem open_ops {H : Type} {enc : TypeId × Value → H} {w : World} {base : Nat} {spare : Nat → Bool} {held : Bool} {a : Option Addr} {len cap : Nat} {d : DataW H} {ps : List MemPlace} (h : DataW.Trod enc Try.prog w base spare held 38 (.slice a len cap) d ps) :
    ∃ os, ArgO w a len cap os ∧ len ≤ 9223372036854775807 := by
  obtain ⟨fuel, hf⟩ := h
  rcases DataW.trod_slice Try.underlying38 hf with ⟨h0, _⟩ | ⟨x, l, c, elems, rest, n, _, hcs, _, hb, hl, hm, hlen, hel, _, _⟩
  · simp [Value.cells] at h0
    obtain ⟨rfl, rfl, rfl⟩ := h0
    exact ⟨[], ⟨⟨rfl, .inl rfl⟩, fun _ => ⟨rfl, rfl⟩, fun p hp => by cases hp⟩, by omega⟩
  · simp [Value.cells] at hcs
    obtain ⟨rfl, rfl, rfl⟩ := hcs
    have c53 : Try.prog.cellsOf 53 = 5 := by kernel_rfl
    have c5 : Try.prog.cellsOf 5 = 1 := by kernel_rfl
    have c9 : Try.prog.cellsOf 9 = 1 := by kernel_rfl
    have c2 : Try.prog.cellsOf 2 = 1 := by kernel_rfl
    rw [c53] at hel
    have each : ∀ i, i < len → ∃ p : Put, p.ok ∧ ∀ j v, p.cells[j]? = some v → w.cell? ((x.add (i * 5)).add j) = some v := by
      intro i hi
      have h1 := hel i hi
      obtain ⟨y, hy⟩ : ∃ y, elems[i]? = some y := ⟨_, List.getElem?_eq_getElem (by omega)⟩
      rw [hy, Option.bind_eq_some_iff] at h1
      obtain ⟨cs, hcs, htr⟩ := h1
      obtain ⟨xs, m, _, _, hcl, hxl, hfs⟩ := DataW.trod_struct Try.underlying53 htr
      rw [c53] at hcl
      have hxs : ∀ j, j < 5 → ∃ z, xs[j]? = some z := fun j hj => ⟨_, List.getElem?_eq_getElem (by rw [hxl]; exact hj)⟩
      obtain ⟨v0, v1, v2, v3, v4, rfl⟩ : ∃ v0 v1 v2 v3 v4, cs = [v0, v1, v2, v3, v4] := by
        rcases cs with _ | ⟨v0, _ | ⟨v1, _ | ⟨v2, _ | ⟨v3, _ | ⟨v4, _ | ⟨v5, r⟩⟩⟩⟩⟩⟩
        · cases hcl
        · cases hcl
        · cases hcl
        · cases hcl
        · cases hcl
        · exact ⟨v0, v1, v2, v3, v4, rfl⟩
        · simp at hcl
      obtain ⟨z0, e0⟩ := hxs 0 (by omega)
      obtain ⟨z1, e1⟩ := hxs 1 (by omega)
      obtain ⟨z2, e2⟩ := hxs 2 (by omega)
      obtain ⟨z3, e3⟩ := hxs 3 (by omega)
      obtain ⟨z4, e4⟩ := hxs 4 (by omega)
      have f0 : DataW.trod enc Try.prog w base spare held m 5 (([v0, v1, v2, v3, v4].drop 0).take (Try.prog.cellsOf 5)) = xs[0]? := hfs 0 _ rfl
      have f1 : DataW.trod enc Try.prog w base spare held m 9 (([v0, v1, v2, v3, v4].drop 1).take (Try.prog.cellsOf 9)) = xs[1]? := hfs 1 _ rfl
      have f2 : DataW.trod enc Try.prog w base spare held m 5 (([v0, v1, v2, v3, v4].drop 2).take (Try.prog.cellsOf 5)) = xs[2]? := hfs 2 _ rfl
      have f3 : DataW.trod enc Try.prog w base spare held m 9 (([v0, v1, v2, v3, v4].drop 3).take (Try.prog.cellsOf 9)) = xs[3]? := hfs 3 _ rfl
      have f4 : DataW.trod enc Try.prog w base spare held m 2 (([v0, v1, v2, v3, v4].drop 4).take (Try.prog.cellsOf 2)) = xs[4]? := hfs 4 _ rfl
      rw [e0] at f0
      rw [e1] at f1
      rw [e2] at f2
      rw [e3] at f3
      rw [e4] at f4
      rw [c5] at f0 f2
      rw [c9] at f1 f3
      rw [c2] at f4
      obtain ⟨n0, g0, _, w0⟩ := DataW.trod_int Try.underlying5 f0
      obtain ⟨s1, g1, _, w1⟩ := DataW.trod_string Try.underlying9 f1
      obtain ⟨n2, g2, _, w2⟩ := DataW.trod_int Try.underlying5 f2
      obtain ⟨s3, g3, _, w3⟩ := DataW.trod_string Try.underlying9 f3
      obtain ⟨n4, g4, _, w4⟩ := DataW.trod_int Try.underlying2 f4
      simp at g0 g1 g2 g3 g4
      subst g0 g1 g2 g3 g4
      obtain ⟨_, _, hcell⟩ := World.cells?_some hcs
      refine ⟨⟨n0, s1, n2, s3, n4⟩, ⟨bounds_u8 w0, w1, bounds_u8 w2, w3⟩, fun j v hv => ?_⟩
      have hj : j < 5 := (List.getElem?_eq_some_iff.1 hv).1
      exact (hcell j hj).trans hv
    have hch : ∃ f : Nat → Put, ∀ i, i < len → (f i).ok ∧ ∀ j v, (f i).cells[j]? = some v → w.cell? ((x.add (i * 5)).add j) = some v := by
      refine ⟨fun i => if hi : i < len then Classical.choose (each i hi) else default, fun i hi => ?_⟩
      simp only [hi, dite_true]
      exact Classical.choose_spec (each i hi)
    obtain ⟨f, hf'⟩ := hch
    refine ⟨(List.range len).map f, ⟨⟨by simp, ?_⟩, (fun e => by cases e), fun p hp => ?_⟩, by unfold maxLen at hm; omega⟩
    · rcases Nat.eq_zero_or_pos len with h0 | h0
      · exact .inl h0
      · obtain ⟨b, off, spot⟩ := x
        have hc := (hf' 0 h0).2 0 _ rfl
        have hspot : spot = none := by simpa [Addr.add] using World.cell?_spot hc
        subst hspot
        refine .inr ⟨b, off, rfl, fun i hi j v hv => ?_⟩
        have e : ((List.range len).map f).getD i default = f i := by simp [List.getD, hi]
        rw [e] at hv
        have := (hf' i hi).2 j v hv
        rw [Addr.add_mid, Addr.add_mid] at this
        exact this
    · obtain ⟨i, hi, rfl⟩ := List.mem_map.1 hp
      exact (hf' i (by simpa using hi)).1

/-! ### THE ROW's STEP: WRITTEN OUT: LEAVE IT -/
set_option maxRecDepth 100000 in
theorem lifted (os : Os) (started : os.Started) (H : Type) (enc : TypeId × Value → H) :
    ReturnsInHanded {} Try.checked os 8 .any (Rows.fnAttributeSetPutMatchesHistoryModelSpec.pre6 enc Try.prog Try.f8 Rows.fnAttributeSetPutMatchesHistoryModelRow.domain false) (Rows.fnAttributeSetPutMatchesHistoryModelSpec.post enc Try.prog Try.f8 false true false false) := by
  refine returnsInHanded_of_change (C := Try.checked) own started (by kernel_rfl) Try.func8
    (ChangeSpec.witness6 (enc := enc) (C := Try.checked) false ⟨#[], #[.slice none 0 0], []⟩ 8 (by kernel_rfl) (by kernel_rfl) (by kernel_rfl) (by kernel_rfl)) ?_
  intro W base args ds gs before hval0 hW hcnd _
  have hval : ∀ (j : Nat) t v, Try.f8.params[j]? = some t → args[j]? = some v → Value.okWide Try.prog W .any base t v := hval0
  have hW' := hW
  obtain ⟨p, q, hA0, hV, rfl, hfz, hnd⟩ := hW
  have hA : DataW.TrodAll enc Try.prog W 0 (fun _ => true) true Try.f8.params.toList args.toList ds p := hA0
  rw [Try.params8] at hA hval
  obtain ⟨v0, vs0, d0, ds0, p0, q0, hargs, rfl, rfl, h0, r0⟩ := trodAll_cons hA
  obtain ⟨rfl, rfl, rfl⟩ := trodAll_nil r0
  obtain rfl : args = #[v0] := by cases args; simp_all
  obtain ⟨rfl, rfl⟩ := trodVars_none hV
  obtain ⟨a0, len0, cap0, rfl⟩ := okWide_slice Try.underlying38 (hval 0 38 v0 rfl rfl)
  have k0 := h0
  have lt0 : ∀ x ∈ p0, x.block < W.heap.size := by obtain ⟨m, hm⟩ := k0; exact DataW.trod_lt m _ _ _ hm
  obtain ⟨o0, w0, m0⟩ := open_ops h0
  clear hA0 hval0
  refine (law5 a0 len0 cap0 o0 W w0 m0).mono fun e W' ⟨he, bel⟩ => ?_
  subst he
  exact ⟨_, rfl, _, _, _, [], _, [], hW', trodAll_mk1 (shut_bool Try.underlying4 _), (trodAll_cons_mk (Below.trod laidOut (by kernel_rfl) (of_decide_eq_true (by kernel_rfl)) k0 bel lt0) trodAll_mk0), rfl, bel.frame _, fun h => by cases h⟩

theorem over : Rows.fnAttributeSetPutMatchesHistoryModelRow.holds Try.pinned (OpenSpec.ofChange Rows.fnAttributeSetPutMatchesHistoryModelSpec) :=
  OpenClaim.holds_of_wide 8 Try.f8 rfl rfl rfl rfl rfl rfl rfl ⟨rfl, rfl, rfl, rfl, rfl⟩ rfl rfl rfl rfl rfl (by kernel_rfl) Try.func8 (by kernel_rfl)
    (of_decide_eq_true (by kernel_rfl)) (by unfold Func.isWrapper; first | (rw [if_pos (by decide +kernel)]; kernel_rfl) | (rw [if_neg (by decide +kernel)]; exact ⟨rfl, rfl⟩))
    (fun os started H enc _ => lifted os started H enc)

/-- ████ THE STATEMENT ████ -/
theorem proved : Rows.FnAttributeSetPutMatchesHistoryModelSaid := over
#print axioms proved
end Go.Proofs.Qxb6603471a.fnAttributeSetPutMatchesHistoryModel
