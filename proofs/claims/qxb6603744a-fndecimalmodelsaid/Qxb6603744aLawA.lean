import Derived.Test.Qxb6603744aModel
namespace Go.Proofs.Qxb6603744a
open Go.RowKit
set_option linter.unusedSimpArgs false
set_option linter.unusedVariables false

set_option maxHeartbeats 400000 in
/-- the bound on the length -/
theorem size1 (a : Option Addr) (n c : Nat) (w : World) (hn : n ≤ 9223372036854775807) :
    Calls Try.prog 5 #[.slice a n c] w fun e w' => e = .returned (.bool (decide (n ≤ 1048576))) ∧ w = w' := by
  by_cases h : n ≤ 1048576
  · rw [decide_eq_true h]
    go_enter Try.func5, Try.ntmps5
    go_wp2
    go_ret
    exact ⟨rfl, rfl⟩
  · rw [decide_eq_false h]
    go_enter Try.func5, Try.ntmps5
    go_wp2
    go_ret
    exact ⟨rfl, rfl⟩

set_option maxHeartbeats 400000 in
/-- 'ZZDecimal' -/
theorem zz_any (ao : Option Addr) (n c : Nat) (zs : List Int) (w : World) (h : Hid (Rd w ao n zs)) (hn : n ≤ 1048576) (hnc : n ≤ c) :
    Calls Try.prog 7 #[.slice ao n c] w fun e w' => e = .returned (.tuple #[.int .i64 (Dec.dec zs).1, .bool (Dec.dec zs).2]) ∧ w = w' := by
  go_enter Try.func7, Try.ntmps7
  go_wp2_with fail
  refine (decimal_any ao n c zs w h.out hn hnc).mono ?_
  rintro e w' ⟨rfl, rfl⟩
  go_wp2
  go_ret2
  exact ⟨rfl, rfl⟩

set_option maxRecDepth 100000 in
set_option maxHeartbeats 1000000 in
theorem walkA_in (a0 : Option Addr) (n c : Nat) (zs : List Int) (w : World) (h : Arg w a0 n c zs) (hn : n ≤ 1048576) :
    Calls Try.prog 3 #[.slice a0 n c] w fun e w' => e = .returned (.bool true) ∧ Below w.heap.size w w' := by
  have HA : Hid (Arg w a0 n c zs) := h
  clear h
  go_enter Try.func3, Try.ntmps3
  go_wp2_with (go_at_call 5; refine (size1 _ _ _ _ (by omega)).mono ?_; rintro e w' ⟨rfl, rfl⟩)
  refine (clone_any a0 n c zs _ HA.out (by omega)).mono ?_
  rintro e w1 ⟨ao, c', rfl, hc', hrd, hb1⟩
  have HR : Hid (Rd w1 ao n zs) := hrd
  clear hrd
  go_wp2_with fail
  refine (zz_any ao n c' zs w1 HR hn hc').mono ?_
  rintro e w2 ⟨rfl, rfl⟩
  go_wp2_with fail
  refine (model_any ao n c' zs w1 HR.out hn hc').mono ?_
  rintro e w2 ⟨rfl, rfl⟩
  obtain ⟨v, hv⟩ : ∃ v, v = Dec.dec zs := ⟨_, rfl⟩
  rw [← hv]
  clear hv
  obtain ⟨x, ok⟩ := v
  cases ok
  · go_wp2
    go_ret
    exact ⟨by simp, hb1⟩
  · go_wp2
    go_ret
    exact ⟨by simp, hb1⟩

theorem walkA_all (a0 : Option Addr) (len0 cap0 : Nat) (z0 : List Int) (w : World) (w0 : IsRow .u8 w a0 len0 cap0 z0) :
    Calls Try.prog 3 #[.slice a0 len0 cap0] w fun e w' => e = .returned (.bool true) ∧ Below w.heap.size w w' := by
  have hlen : len0 ≤ 9223372036854775807 := by
    rcases w0 with ⟨_, rfl, _, _⟩ | ⟨x, _, hl, hm, _⟩
    · omega
    · unfold maxLen at hm; omega
  by_cases hn : len0 ≤ 1048576
  · exact walkA_in a0 len0 cap0 _ w (arg_of_row w0) hn
  · clear w0
    go_enter Try.func3, Try.ntmps3
    go_wp2_with (go_at_call 5; refine (size1 _ _ _ _ hlen).mono ?_; rintro e w' ⟨rfl, rfl⟩)
    go_ret
    exact ⟨rfl, Below.refl _ _⟩
end Go.Proofs.Qxb6603744a
