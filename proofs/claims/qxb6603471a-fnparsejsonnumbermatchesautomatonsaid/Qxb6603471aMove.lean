import Derived.Test.Qxb6603471aRows
import Derived.WalkKit
import Derived.ProofKit
import Derived.Test.Qxb6603471aJsonPlain
namespace Go.Proofs.Qxb6603471a
open Go.RowKit
set_option linter.unusedSimpArgs false
set_option linter.unusedVariables false

theorem ret_int {k : IntKind} {a b : Int} (h : a = b) : Ending.returned (.int k a) = .returned (.int k b) := by rw [h]

set_option maxRecDepth 100000 in
set_option maxHeartbeats 2000000 in
/-- 'jsonMove' -/
theorem move_any (s c : Int) (w : World) (h1 : 0 ≤ s) (h2 : s ≤ 8) (h3 : 0 ≤ c) (h4 : c ≤ 255) :
    Calls Try.prog 13 #[.int .i64 s, .int .u8 c] w fun e w' => e = .returned (.int .i64 (Json.mv s c)) ∧ w' = w := by
  obtain ⟨r, hr⟩ : ∃ r, r = Json.mv s c := ⟨_, rfl⟩
  rw [← hr]
  have HR : Hid (r = Json.mv s c) := hr
  clear hr
  rcases (show s = 0 ∨ s = 1 ∨ s = 2 ∨ s = 3 ∨ s = 4 ∨ s = 5 ∨ s = 6 ∨ s = 7 ∨ s = 8 by omega) with rfl | rfl | rfl | rfl | rfl | rfl | rfl | rfl | rfl
  all_goals
    go_enter Try.func13, Try.ntmps13
    go_wp2
    all_goals
      go_ret
      refine ⟨?_, rfl⟩
      rw [HR.out]
      refine ret_int ?_
      simp_all [Json.mv, Json.digB]
      try omega
end Go.Proofs.Qxb6603471a
