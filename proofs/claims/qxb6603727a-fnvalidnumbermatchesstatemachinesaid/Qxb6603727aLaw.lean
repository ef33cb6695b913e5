import Derived.Test.Qxb6603727aValid
import Derived.Test.Qxb6603727aMachine
namespace Go.Proofs.Qxb6603727a
open Go.RowKit
set_option linter.unusedSimpArgs false
set_option linter.unusedVariables false

set_option maxHeartbeats 400000 in
/-- the bound on the length -/
theorem size1 (a : Option Addr) (n c : Nat) (i : Int) (w : World) (hn : n ≤ 9223372036854775807) :
    Calls Try.prog 19 #[.slice a n c, .int .i64 i] w fun e w' => e = .returned (.bool (decide (n ≤ 1048576))) ∧ w = w' := by
  by_cases h : n ≤ 1048576
  · rw [decide_eq_true h]
    go_enter Try.func19, Try.ntmps19
    go_wp2
    go_ret
    exact ⟨rfl, rfl⟩
  · rw [decide_eq_false h]
    go_enter Try.func19, Try.ntmps19
    go_wp2
    go_ret
    exact ⟨rfl, rfl⟩

set_option maxHeartbeats 400000 in
/-- 'ZZvalidNumber' -/
theorem zz_any (b o n c i : Nat) (zs : List Int) (w : World) (hc : Hid (∀ i, i < n → w.cell? ⟨b, o + i, none⟩ = some (.int .u8 (Num.at0 zs i)))) (L : Hid (zs.length = n)) (hi : i < n) (hn : n ≤ 1048576) :
    Calls Try.prog 20 #[.slice (some ⟨b, o, none⟩) n c, .int .i64 i] w fun e w' => e = .returned (.tuple #[.int .i64 (Num.vn zs i).1, .bool (Num.vn zs i).2]) ∧ w = w' := by
  go_enter Try.func20, Try.ntmps20
  go_wp2_with fail
  refine (valid_any b o n c i zs w hc L hi hn).mono ?_
  rintro e w' ⟨rfl, rfl⟩
  go_wp2
  go_ret2
  exact ⟨rfl, rfl⟩

theorem laws_meet (zs : List Int) (i : Nat) : (Num.fin 0 zs i).2 = (Num.vn zs i).1 ∧ accB (Num.fin 0 zs i).1 = (Num.vn zs i).2 := by
  obtain ⟨h1, h2⟩ := Num.law zs i
  refine ⟨h1, ?_⟩
  unfold accB
  unfold Num.acc at h2
  cases hv : (Num.vn zs i).2 with
  | true => exact decide_eq_true (h2.2 hv)
  | false => exact decide_eq_false fun hh => by have := h2.1 hh; rw [hv] at this; cases this

set_option maxRecDepth 100000 in
set_option maxHeartbeats 1000000 in
theorem walk_in (a0 : Option Addr) (n c : Nat) (zs : List Int) (i : Nat) (w : World) (h : Arg w a0 n c zs) (hn : n ≤ 1048576) (hi : i < n) :
    Calls Try.prog 7 #[.slice a0 n c, .int .i64 i] w fun e w' => e = .returned (.bool true) ∧ Below w.heap.size w w' := by
  have HA : Hid (Arg w a0 n c zs) := h
  clear h
  go_enter Try.func7, Try.ntmps7
  go_wp2_with (go_at_call 19; refine (size1 _ _ _ _ _ (by omega)).mono ?_; rintro e w' ⟨rfl, rfl⟩)
  refine (clone_any a0 n c zs _ HA.out (by omega)).mono ?_
  rintro e w1 ⟨ao, c', rfl, hc', hrd, hb1⟩
  obtain ⟨b, o, rfl, hcell⟩ := hrd.2.resolve_left (by omega)
  have HC : Hid (∀ i, i < n → w1.cell? ⟨b, o + i, none⟩ = some (.int .u8 (Num.at0 zs i))) := hcell
  have L : Hid (zs.length = n) := hrd.1
  have HB : Hid (∀ k, 0 ≤ Num.at0 zs k ∧ Num.at0 zs k ≤ 255) := HA.out.2.2.2
  clear hrd hcell
  obtain ⟨m1, m2⟩ := laws_meet zs i
  have M : Hid ((Num.fin 0 zs i).2 = (Num.vn zs i).1 ∧ accB (Num.fin 0 zs i).1 = (Num.vn zs i).2) := ⟨m1, m2⟩
  clear m1 m2
  go_wp2_with fail
  refine (zz_any b o n c' i zs w1 HC L hi hn).mono ?_
  rintro e w2 ⟨rfl, rfl⟩
  go_wp2_with fail
  refine (mach_any b o n c' i zs w1 HC L HB hi hn).mono ?_
  rintro e w2 ⟨rfl, rfl⟩
  rw [M.out.1, M.out.2]
  obtain ⟨v, hv⟩ : ∃ v, v = Num.vn zs i := ⟨_, rfl⟩
  rw [← hv]
  clear hv M
  obtain ⟨e, ok⟩ := v
  cases ok
  · go_wp2
    go_ret
    exact ⟨by simp, hb1⟩
  · go_wp2
    go_ret
    exact ⟨by simp, hb1⟩

theorem walk_all (a0 : Option Addr) (len0 cap0 : Nat) (z0 : List Int) (a1 : Int) (w : World) (w0 : IsRow .u8 w a0 len0 cap0 z0) (w1 : (Lit.int .i64 a1).wf = true) :
    Calls Try.prog 7 #[.slice a0 len0 cap0, .int .i64 a1] w fun e w' => e = .returned (.bool true) ∧ Below w.heap.size w w' := by
  have hlen : len0 ≤ 9223372036854775807 := by
    rcases w0 with ⟨_, rfl, _, _⟩ | ⟨x, _, hl, hm, _⟩
    · omega
    · unfold maxLen at hm; omega
  by_cases hn : len0 ≤ 1048576
  · by_cases h0 : a1 < 0
    · clear w0 w1
      go_enter Try.func7, Try.ntmps7
      go_wp2_with (go_at_call 19; refine (size1 _ _ _ _ _ hlen).mono ?_; rintro e w' ⟨rfl, rfl⟩)
      go_ret
      exact ⟨rfl, Below.refl _ _⟩
    · by_cases h1 : a1 < (len0 : Int)
      · obtain ⟨i, rfl⟩ : ∃ i : Nat, a1 = (i : Int) := ⟨a1.toNat, by omega⟩
        exact walk_in a0 len0 cap0 _ i w (arg_of_row w0) hn (by omega)
      · clear w0 w1
        go_enter Try.func7, Try.ntmps7
        go_wp2_with (go_at_call 19; refine (size1 _ _ _ _ _ hlen).mono ?_; rintro e w' ⟨rfl, rfl⟩)
        go_ret
        exact ⟨rfl, Below.refl _ _⟩
  · clear w0 w1
    go_enter Try.func7, Try.ntmps7
    go_wp2_with (go_at_call 19; refine (size1 _ _ _ _ _ hlen).mono ?_; rintro e w' ⟨rfl, rfl⟩)
    go_ret
    exact ⟨rfl, Below.refl _ _⟩
end Go.Proofs.Qxb6603727a
