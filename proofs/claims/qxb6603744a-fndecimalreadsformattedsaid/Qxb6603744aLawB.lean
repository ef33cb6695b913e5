import Derived.Test.Qxb6603744aFormat
import Derived.Test.Qxb6603744aDecimal
namespace Go.Proofs.Qxb6603744a
open Go.RowKit
set_option linter.unusedSimpArgs false
set_option linter.unusedVariables false

set_option maxHeartbeats 400000 in
/-- 'ZZDecimal' -/
theorem zzB_any (ao : Option Addr) (n c : Nat) (zs : List Int) (w : World) (h : Hid (Rd w ao n zs)) (hn : n ≤ 1048576) (hnc : n ≤ c) :
    Calls Try.prog 7 #[.slice ao n c] w fun e w' => e = .returned (.tuple #[.int .i64 (Dec.dec zs).1, .bool (Dec.dec zs).2]) ∧ w = w' := by
  go_enter Try.func7, Try.ntmps7
  go_wp2_with fail
  refine (decimal_any ao n c zs w h.out hn hnc).mono ?_
  rintro e w' ⟨rfl, rfl⟩
  go_wp2
  go_ret2
  exact ⟨rfl, rfl⟩

set_option maxRecDepth 100000 in
set_option maxHeartbeats 1000000 in
theorem walkB (n : Int) (w : World) (h1 : -9223372036854775808 ≤ n) (h2 : n ≤ 9223372036854775807) :
    Calls Try.prog 4 #[.int .i64 n] w fun e w' => e = .returned (.bool true) ∧ Below w.heap.size w w' := by
  have HD : Hid (Dec.dec (Dec.fmt n) = if -1000000000000000000 < n ∧ n < 1000000000000000000 then (n, true) else (0, false)) := Dec.dec_fmt n h1 h2
  go_enter Try.func4, Try.ntmps4
  go_wp2_with fail
  refine (format_any n w h1 h2).mono ?_
  rintro e w1 ⟨g, L, rfl, hL, hrd, hb⟩
  have HR : Hid (Rd w1 (some ⟨g, 0, none⟩) L (Dec.fmt n)) := hrd
  clear hrd
  go_wp2_with fail
  refine (zzB_any _ L L (Dec.fmt n) w1 HR (by omega) (Nat.le_refl _)).mono ?_
  rintro e w2 ⟨rfl, rfl⟩
  rw [HD.out]
  by_cases k1 : -1000000000000000000 < n
  · by_cases k2 : n < 1000000000000000000
    · rw [if_pos ⟨k1, k2⟩]
      go_wp2
      go_ret
      exact ⟨by simp, hb⟩
    · rw [if_neg (fun hh => k2 hh.2)]
      go_wp2
      go_ret
      exact ⟨rfl, hb⟩
  · rw [if_neg (fun hh => k1 hh.1)]
    go_wp2
    go_ret
    exact ⟨rfl, hb⟩
end Go.Proofs.Qxb6603744a
