/-
  THE PROOF OF 'Rows.FnNameBytesMatchesStreamingModelSaid': the shell that the kit's tool wrote for a fellow statement, turned to this function.
-/
import Derived.Test.Qxb6603471aRows
import Derived.Test.Qxb6603471aLaw2
import Derived.WalkKit
import Derived.ProofKit
import Derived.OpenShut
import Derived.ShutString
import Derived.ChangeOld
import Derived.Below
namespace Go.Proofs.Qxb6603471a.fnNameBytesMatchesStreamingModel
open Go.ChangeShapes Go.WideShapes Go.ChangeAt Go.RowKit
open Go.ChangeMaps (open_string shut_string)
set_option linter.unusedVariables false

theorem own : ownKnob Try.prog.godebug = none := by kernel_rfl
theorem laidOut : laidOutB Try.prog = true := by kernel_rfl

theorem len_of_row {k : IntKind} {w : World} {a : Option Addr} {len cap : Nat} {zs : List Int} (h : IsRow k w a len cap zs) : len ≤ 9223372036854775807 := by
  rcases h with ⟨_, rfl, _, _⟩ | ⟨x, _, hl, hm, _⟩
  · omega
  · unfold maxLen at hm; omega

/-- A [256]bool that came in, opened. -/
theorem open_arr {H : Type} {enc : TypeId × Value → H} {w : World} {base : Nat} {spare : Nat → Bool} {held : Bool} {v : Value} {d : DataW H} {ps : List MemPlace} (h : DataW.Trod enc Try.prog w base spare held 31 v d ps) :
    ∃ (Ea : Array Value) (E : Int → Bool), v = .agg Ea ∧ Ea.size = 256 ∧ (∀ x : Int, 0 ≤ x → x ≤ 255 → Ea[x.toNat]? = some (.bool (E x))) ∧ Ea.all (·.oneCell') = true := by
  obtain ⟨fuel, hf⟩ := h
  obtain ⟨xs, m, _, _, hl, hxs, hx⟩ := DataW.trod_array Try.underlying31 hf
  have c31 : Try.prog.cellsOf 31 = 256 := by kernel_rfl
  have c4 : Try.prog.cellsOf 4 = 1 := by kernel_rfl
  rw [c31] at hl
  rw [c4] at hx
  have hv : ∃ Ea, v = .agg Ea := by
    cases v with
    | agg Ea => exact ⟨Ea, rfl⟩
    | _ => simp [Value.cells] at hl
  obtain ⟨Ea, rfl⟩ := hv
  have hs : Ea.size = 256 := by simpa [Value.cells] using hl
  have hb : ∀ i, i < 256 → ∃ b, Ea[i]? = some (.bool b) := by
    intro i hi
    have h1 := hx i hi
    obtain ⟨y, hy⟩ : ∃ y, xs[i]? = some y := ⟨_, List.getElem?_eq_getElem (by omega)⟩
    rw [hy] at h1
    obtain ⟨b, hcs, _⟩ := DataW.trod_bool Try.underlying4 h1
    refine ⟨b, ?_⟩
    have h2 : ((Value.agg Ea).cells.toList.drop (i * 1)).take 1 = [.bool b] := hcs
    have h3 := congrArg (fun l => l[0]?) h2
    simpa [Value.cells] using h3
  refine ⟨Ea, fun x => match Ea[x.toNat]? with | some (.bool b) => b | _ => false, rfl, hs, fun x h0 h1 => ?_, ?_⟩
  · obtain ⟨b, e⟩ := hb x.toNat (by omega)
    simp only [e]
  · rw [Array.all_eq_true_iff_forall_mem]
    intro u hu
    obtain ⟨i, hi, rfl⟩ := Array.mem_iff_getElem.1 hu
    obtain ⟨b, e⟩ := hb i (by omega)
    rw [Array.getElem?_eq_getElem hi] at e
    simp only [Option.some.injEq] at e
    rw [e]; rfl

theorem walk (a1 : Option Addr) (len1 cap1 : Nat) (z1 : List Int) (p : Int) (a2 : Option Addr) (len2 cap2 : Nat) (z2 : List Int) (Ea Da : Array Value) (E D : Int → Bool) (w : World) (w1 : IsRow .u8 w a1 len1 cap1 z1) (w2 : IsRow .u8 w a2 len2 cap2 z2)
    (hE : Hid (∀ x : Int, 0 ≤ x → x ≤ 255 → Ea[x.toNat]? = some (.bool (E x)))) (hD : Hid (∀ x : Int, 0 ≤ x → x ≤ 255 → Da[x.toNat]? = some (.bool (D x))))
    (hEs : Hid (Ea.size = 256)) (hDs : Hid (Da.size = 256)) (hE1 : Ea.all (·.oneCell') = true) (hD1 : Da.all (·.oneCell') = true) :
    Calls Try.prog 6 #[.slice a1 len1 cap1, .int .i64 p, .slice a2 len2 cap2, .agg Ea, .agg Da] w fun e w' => e = .returned (.bool true) ∧ Below w.heap.size w w' := by
  have l1 := len_of_row w1
  have l2 := len_of_row w2
  have out : ∀ (hno : ¬ (len1 + len2 ≤ 1048576) ∨ p < 0 ∨ (len1 : Int) < p), Calls Try.prog 6 #[.slice a1 len1 cap1, .int .i64 p, .slice a2 len2 cap2, .agg Ea, .agg Da] w fun e w' => e = .returned (.bool true) ∧ Below w.heap.size w w' := by
    intro hno
    clear w1 w2 hE hD
    obtain ⟨W0, hW0⟩ : ∃ W0, W0 = (w.alloc (.cells Ea 31)).alloc (.cells Da 31) := ⟨_, rfl⟩
    have HB0 : Hid (Below w.heap.size w W0) := by rw [hW0]; exact ((Below.refl _ _).alloc (Nat.le_refl _) _).alloc (by simp) _
    have HE0 : Hid (W0.heap[w.heap.size]? = some (.cells Ea 31 (0, 0))) := by rw [hW0]; exact heap_alloc2_old _ _ _
    have HD0 : Hid (W0.heap[w.heap.size + 1]? = some (.cells Da 31 (0, 0))) := by rw [hW0]; exact heap_alloc2_new _ _ _
    go_enter Try.func6, Try.ntmps6
    go_upto_region 1 with fail
    rw [← hW0]
    clear hW0
    go_wp2_with (first
      | (refine wpList_load_row rfl 31 _ rfl w.heap.size rfl 31 Ea (0, 0) _ HE0.out Try.underlying31 rfl (by rw [hEs.out]; exact info31s) ?_)
      | (refine wpList_load_row rfl 31 _ rfl (w.heap.size + 1) rfl 31 Da (0, 0) _ HD0.out Try.underlying31 rfl (by rw [hDs.out]; exact info31s) ?_))
    refine (size2 a1 a2 len1 cap1 len2 cap2 p Ea Da W0 l1 l2).mono ?_
    rintro e W1 ⟨rfl, hb1⟩
    have HB1 : Hid (Below w.heap.size w W1) := HB0.out.trans (hb1.mono HB0.out.size)
    clear hb1
    by_cases hn : len1 + len2 ≤ 1048576
    · rw [decide_eq_true hn]
      by_cases h0 : p < 0
      · clear hno
        go_wp2
        go_ret
        exact ⟨rfl, HB1.out⟩
      · have hgt : (len1 : Int) < p := by
          rcases hno with h | h | h
          · exact absurd hn h
          · exact absurd h h0
          · exact h
        clear hno
        go_wp2
        go_ret
        exact ⟨rfl, HB1.out⟩
    · rw [decide_eq_false hn]
      clear hno
      go_wp2
      go_ret
      exact ⟨rfl, HB1.out⟩
  by_cases hn : len1 + len2 ≤ 1048576
  · by_cases h0 : p < 0
    · exact out (.inr (.inl h0))
    · by_cases h1 : (len1 : Int) < p
      · exact out (.inr (.inr h1))
      · obtain ⟨pos, rfl⟩ := Int.eq_ofNat_of_zero_le (Int.not_lt.1 h0)
        exact law2_in a1 a2 len1 cap1 len2 cap2 pos _ _ Ea Da E D w (arg_of_row w1) (arg_of_row w2) hE hD hEs hDs hE1 hD1 hn (by omega)
  · exact out (.inl hn)

/-! ### THE ROW's STEP: WRITTEN OUT: LEAVE IT -/
set_option maxRecDepth 100000 in
theorem lifted (os : Os) (started : os.Started) (H : Type) (enc : TypeId × Value → H) :
    ReturnsInHanded {} Try.checked os 6 .any (Rows.fnNameBytesMatchesStreamingModelSpec.pre6 enc Try.prog Try.f6 Rows.fnNameBytesMatchesStreamingModelRow.domain false) (Rows.fnNameBytesMatchesStreamingModelSpec.post enc Try.prog Try.f6 false true false false) := by
  refine returnsInHanded_of_change (C := Try.checked) own started (by kernel_rfl) Try.func6
    (ChangeSpec.witness6 (enc := enc) (C := Try.checked) false ⟨#[], #[.slice none 0 0, .int .i64 0, .slice none 0 0, .agg (Array.replicate 256 (.bool false)), .agg (Array.replicate 256 (.bool false))], []⟩ 8 (by kernel_rfl) (by kernel_rfl) (by kernel_rfl) (by kernel_rfl)) ?_
  intro W base args ds gs before hval0 hW hcnd _
  have hval : ∀ (j : Nat) t v, Try.f6.params[j]? = some t → args[j]? = some v → Value.okWide Try.prog W .any base t v := hval0
  have hW' := hW
  obtain ⟨p, q, hA0, hV, rfl, hfz, hnd⟩ := hW
  have hA : DataW.TrodAll enc Try.prog W 0 (fun _ => true) true Try.f6.params.toList args.toList ds p := hA0
  rw [Try.params6] at hA hval
  obtain ⟨v0, vs0, d0, ds0, p0, q0, hargs, rfl, rfl, h0, r0⟩ := trodAll_cons hA
  obtain ⟨v1, vs1, d1, ds1, p1, q1, rfl, rfl, rfl, h1, r1⟩ := trodAll_cons r0
  obtain ⟨v2, vs2, d2, ds2, p2, q2, rfl, rfl, rfl, h2, r2⟩ := trodAll_cons r1
  obtain ⟨v3, vs3, d3, ds3, p3, q3, rfl, rfl, rfl, h3, r3⟩ := trodAll_cons r2
  obtain ⟨v4, vs4, d4, ds4, p4, q4, rfl, rfl, rfl, h4, r4⟩ := trodAll_cons r3
  obtain ⟨rfl, rfl, rfl⟩ := trodAll_nil r4
  obtain rfl : args = #[v0, v1, v2, v3, v4] := by cases args; simp_all
  obtain ⟨rfl, rfl⟩ := trodVars_none hV
  obtain ⟨a0, len0, cap0, rfl⟩ := okWide_slice Try.underlying22 (hval 0 22 v0 rfl rfl)
  have k0 := h0
  have lt0 : ∀ x ∈ p0, x.block < W.heap.size := by obtain ⟨m, hm⟩ := k0; exact DataW.trod_lt m _ _ _ hm
  obtain ⟨z0, w0⟩ : ∃ zs, IsRow .u8 W a0 len0 cap0 zs := by
    obtain ⟨fuel, hf⟩ := h0
    rcases open_ints Try.underlying22 Try.underlying5 (by kernel_rfl) hf with ⟨hcs, _⟩ | ⟨x, l, c, zs, hcs, _, hl, hm, hz, _, hcell, hwz⟩
    · simp [Value.cells] at hcs
      obtain ⟨rfl, rfl, rfl⟩ := hcs
      exact ⟨[], .inl ⟨rfl, rfl, rfl, rfl⟩⟩
    · simp [Value.cells] at hcs
      obtain ⟨rfl, rfl, rfl⟩ := hcs
      exact ⟨zs, .inr ⟨_, rfl, hl, hm, by simpa using hz, hcell, hwz⟩⟩
  obtain ⟨a1, rfl, rfl, rfl, wf1⟩ := open_int Try.underlying3 (hval 1 3 v1 rfl rfl) h1
  obtain ⟨a2, len2, cap2, rfl⟩ := okWide_slice Try.underlying22 (hval 2 22 v2 rfl rfl)
  have k2 := h2
  have lt2 : ∀ x ∈ p2, x.block < W.heap.size := by obtain ⟨m, hm⟩ := k2; exact DataW.trod_lt m _ _ _ hm
  obtain ⟨z2, w2⟩ : ∃ zs, IsRow .u8 W a2 len2 cap2 zs := by
    obtain ⟨fuel, hf⟩ := h2
    rcases open_ints Try.underlying22 Try.underlying5 (by kernel_rfl) hf with ⟨hcs, _⟩ | ⟨x, l, c, zs, hcs, _, hl, hm, hz, _, hcell, hwz⟩
    · simp [Value.cells] at hcs
      obtain ⟨rfl, rfl, rfl⟩ := hcs
      exact ⟨[], .inl ⟨rfl, rfl, rfl, rfl⟩⟩
    · simp [Value.cells] at hcs
      obtain ⟨rfl, rfl, rfl⟩ := hcs
      exact ⟨zs, .inr ⟨_, rfl, hl, hm, by simpa using hz, hcell, hwz⟩⟩
  have k3 := h3
  have lt3 : ∀ x ∈ p3, x.block < W.heap.size := by obtain ⟨m, hm⟩ := k3; exact DataW.trod_lt m _ _ _ hm
  obtain ⟨Ea, E, rfl, s3, f3, o3⟩ := open_arr h3
  have k4 := h4
  have lt4 : ∀ x ∈ p4, x.block < W.heap.size := by obtain ⟨m, hm⟩ := k4; exact DataW.trod_lt m _ _ _ hm
  obtain ⟨Da, D, rfl, s4, f4, o4⟩ := open_arr h4
  clear hA0 hval0
  refine (walk a0 len0 cap0 z0 a1 a2 len2 cap2 z2 Ea Da E D W w0 w2 f3 f4 s3 s4 o3 o4).mono fun e W' ⟨he, bel⟩ => ?_
  subst he
  exact ⟨_, rfl, _, _, _, [], _, [], hW', trodAll_mk1 (shut_bool Try.underlying4 _), (trodAll_cons_mk (Below.trod laidOut (by kernel_rfl) (of_decide_eq_true (by kernel_rfl)) k0 bel lt0) (trodAll_cons_mk (shut_int Try.underlying3 wf1) (trodAll_cons_mk (Below.trod laidOut (by kernel_rfl) (of_decide_eq_true (by kernel_rfl)) k2 bel lt2) (trodAll_cons_mk (Below.trod laidOut (by kernel_rfl) (of_decide_eq_true (by kernel_rfl)) k3 bel lt3) (trodAll_cons_mk (Below.trod laidOut (by kernel_rfl) (of_decide_eq_true (by kernel_rfl)) k4 bel lt4) trodAll_mk0))))), rfl, bel.frame _, fun h => by cases h⟩

theorem over : Rows.fnNameBytesMatchesStreamingModelRow.holds Try.pinned (OpenSpec.ofChange Rows.fnNameBytesMatchesStreamingModelSpec) :=
  OpenClaim.holds_of_wide 6 Try.f6 rfl rfl rfl rfl rfl rfl rfl ⟨rfl, rfl, rfl, rfl, rfl⟩ rfl rfl rfl rfl rfl (by kernel_rfl) Try.func6 (by kernel_rfl)
    (of_decide_eq_true (by kernel_rfl)) (by unfold Func.isWrapper; first | (rw [if_pos (by decide +kernel)]; kernel_rfl) | (rw [if_neg (by decide +kernel)]; exact ⟨rfl, rfl⟩))
    (fun os started H enc _ => lifted os started H enc)

/-- ████ THE STATEMENT ████ -/
theorem proved : Rows.FnNameBytesMatchesStreamingModelSaid := over
#print axioms proved
end Go.Proofs.Qxb6603471a.fnNameBytesMatchesStreamingModel
