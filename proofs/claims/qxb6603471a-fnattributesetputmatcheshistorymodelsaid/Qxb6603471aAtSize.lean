import Derived.Test.Qxb6603471aAtMem
import Derived.Deep.CutBlock
import Derived.Deep.DeepCutAuto
namespace Go.Proofs.Qxb6603471a
open Go.RowKit
set_option linter.unusedSimpArgs false
set_option linter.unusedVariables false

set_option maxHeartbeats 1000000 in
/-- 'opsSize' -/
theorem opsSize_any (ao : Option Addr) (n c : Nat) (os : List Put) (w : World) (h : Hid (RdO w ao n os)) (hn : n ≤ 1048576) :
    Calls Try.prog 26 #[.slice ao n c] w fun e w' => (∃ z : Int, e = .returned (.int .i64 z) ∧ 0 ≤ z ∧ z ≤ 1048577) ∧ ∃ m, w' = w.drewN m := by
  go_enter Try.func26, Try.ntmps26
  go_wp2
  go_loopw [3, 4] (fun t i wr => ∃ (k m : Nat) (z : Int), k ≤ n ∧ i = .int .i64 k ∧ t = .int .i64 z ∧ 0 ≤ z ∧ z ≤ 1048576 ∧ wr = w.drewN m) (fun _ i _ => n - (intOf i).toNat)
  case atStart => exact ⟨0, 0, 0, Nat.zero_le _, rfl, rfl, by omega, by omega, rfl⟩
  case round =>
    obtain ⟨k, m, z, hk, rfl, rfl, hz0, hz1, rfl⟩ := hrel
    by_cases hlt : k < n
    · obtain ⟨b, o, rfl, hc⟩ := h.out.2.resolve_left (by omega)
      have hr := hc k hlt
      obtain ⟨p, hp⟩ : ∃ p, p = os.getD k default := ⟨_, rfl⟩
      rw [← hp] at hr
      have g1 := put_c1 hr
      have g3 := put_c3 hr
      clear hc hr hp
      obtain ⟨⟨pr, pk, pt, ps, pi⟩, rfl⟩ : ∃ q : Put, q = p := ⟨_, rfl⟩
      dsimp only at g1 g3
      by_cases hk1 : 1048576 < pk.size
      · go_wp2
        go_ret
        exact ⟨⟨_, rfl, by omega, by omega⟩, m, rfl⟩
      · by_cases hk2 : 1048576 < ps.size
        · go_wp2
          go_ret
          exact ⟨⟨_, rfl, by omega, by omega⟩, m, rfl⟩
        · go_wp2
          go_quiet (fail)
          by_cases ht : 1048576 < z + (56 + pk.size + ps.size)
          · go_wp2
            go_ret
            exact ⟨⟨_, rfl, by omega, by omega⟩, _, rfl⟩
          · go_wp2
            go_roundw
            case rel => exact ⟨k + 1, _, _, by omega, by go_num, rfl, by omega, by omega, rfl⟩
            case measure => simp [intOf]; omega
    · go_wp2
      go_ret
      exact ⟨⟨z, rfl, by omega, by omega⟩, m, rfl⟩

/-- What the bound on the lengths tells. -/
def Bytes4Post (n1 n2 : Nat) (w : World) (e : Ending) (w' : World) : Prop := (∃ b : Bool, e = .returned (.bool b) ∧ (b = true → n1 + n2 ≤ 1048576)) ∧ w = w'
theorem b4_no {n1 n2 : Nat} {w : World} : Bytes4Post n1 n2 w (.returned (.bool false)) w := ⟨⟨_, rfl, fun h => by cases h⟩, rfl⟩
theorem b4_yes {n1 n2 : Nat} {w : World} (h : n1 + n2 ≤ 1048576) : Bytes4Post n1 n2 w (.returned (.bool true)) w := ⟨⟨_, rfl, fun _ => h⟩, rfl⟩

set_option maxHeartbeats 2000000 in
/-- the bound on the lengths -/
theorem bytes4 (a1 a2 : Option Addr) (n1 c1 n2 c2 : Nat) (o1 o2 : List Put) (w : World) (h1 : Hid (RdO w a1 n1 o1)) (h2 : Hid (RdO w a2 n2 o2)) (m1 : n1 ≤ 9223372036854775807) (m2 : n2 ≤ 9223372036854775807) :
    Calls Try.prog 39 #[.slice a1 n1 c1, .slice a2 n2 c2] w fun e w' => Bytes4Post n1 n2 w e w' := by
  by_cases k1 : n1 ≤ 1048576
  · go_enter Try.func39, Try.ntmps39
    go_upto_block 0 with fail
    go_cut [5] (fun t wr => ∃ z : Int, t = .int .i64 z ∧ n1 ≤ z ∧ z ≤ 1048576 ∧ w = wr)
    case first =>
      go_wp2_with fail
      go_loopw [5, 6] (fun t i wr => ∃ (k : Nat) (z : Int), k ≤ n1 ∧ i = .int .i64 k ∧ t = .int .i64 z ∧ n1 ≤ z ∧ z ≤ 1048576 ∧ w = wr) (fun _ i _ => n1 - (intOf i).toNat)
      case atStart => exact ⟨0, n1, Nat.zero_le _, rfl, rfl, by omega, by omega, by first | rfl | trivial⟩
      case round =>
        obtain ⟨k, z, hk, rfl, rfl, hz0, hz1, rfl⟩ := hrel
        by_cases hlt : k < n1
        · obtain ⟨b, o, rfl, hc⟩ := h1.out.2.resolve_left (by omega)
          have hr := hc k hlt
          obtain ⟨p, hp⟩ : ∃ p, p = o1.getD k default := ⟨_, rfl⟩
          rw [← hp] at hr
          have g1 := put_c1 hr
          have g3 := put_c3 hr
          clear hc hr hp
          obtain ⟨⟨pr, pk, pt, ps, pi⟩, rfl⟩ : ∃ q : Put, q = p := ⟨_, rfl⟩
          dsimp only at g1 g3
          by_cases hk1 : 1048576 < pk.size
          · go_wp2
            go_ret
            exact b4_no
          · by_cases ht1 : 1048576 < z + pk.size
            · go_wp2
              go_ret
              exact b4_no
            · by_cases hk2 : 1048576 < ps.size
              · go_wp2
                go_ret
                exact b4_no
              · by_cases ht2 : 1048576 < z + pk.size + ps.size
                · go_wp2
                  go_ret
                  exact b4_no
                · go_wp2
                  go_roundw
                  case rel => exact ⟨k + 1, _, by omega, by go_num, rfl, by omega, by omega, by first | rfl | trivial⟩
                  case measure => simp [intOf]; omega
        · go_wp2
          go_meet
          case rel => exact ⟨z, rfl, hz0, hz1, by first | rfl | trivial⟩
    case rest =>
      obtain ⟨z1, rfl, hz0, hz1, rfl⟩ := hcut
      by_cases k2 : n2 ≤ 1048576
      · by_cases k3 : z1 + n2 ≤ 1048576
        · go_wp2_with fail
          go_loopw [5, 7] (fun t i wr => ∃ (k : Nat) (z : Int), k ≤ n2 ∧ i = .int .i64 k ∧ t = .int .i64 z ∧ (n1 : Int) + n2 ≤ z ∧ z ≤ 1048576 ∧ w = wr) (fun _ i _ => n2 - (intOf i).toNat)
          case atStart => exact ⟨0, z1 + n2, Nat.zero_le _, rfl, rfl, by omega, by omega, by first | rfl | trivial⟩
          case round =>
            obtain ⟨k, z, hk, rfl, rfl, hz0, hz1, rfl⟩ := hrel
            by_cases hlt : k < n2
            · obtain ⟨b, o, rfl, hc⟩ := h2.out.2.resolve_left (by omega)
              have hr := hc k hlt
              obtain ⟨p, hp⟩ : ∃ p, p = o2.getD k default := ⟨_, rfl⟩
              rw [← hp] at hr
              have g1 := put_c1 hr
              have g3 := put_c3 hr
              clear hc hr hp
              obtain ⟨⟨pr, pk, pt, ps, pi⟩, rfl⟩ : ∃ q : Put, q = p := ⟨_, rfl⟩
              dsimp only at g1 g3
              by_cases hk1 : 1048576 < pk.size
              · go_wp2
                go_ret
                exact b4_no
              · by_cases ht1 : 1048576 < z + pk.size
                · go_wp2
                  go_ret
                  exact b4_no
                · by_cases hk2 : 1048576 < ps.size
                  · go_wp2
                    go_ret
                    exact b4_no
                  · by_cases ht2 : 1048576 < z + pk.size + ps.size
                    · go_wp2
                      go_ret
                      exact b4_no
                    · go_wp2
                      go_roundw
                      case rel => exact ⟨k + 1, _, by omega, by go_num, rfl, by omega, by omega, by first | rfl | trivial⟩
                      case measure => simp [intOf]; omega
            · go_wp2
              go_ret
              exact b4_yes (by omega)
        · go_wp2
          go_ret
          exact b4_no
      · go_wp2
        go_ret
        exact b4_no
  · go_enter Try.func39, Try.ntmps39
    go_wp2
    go_ret
    exact b4_no
end Go.Proofs.Qxb6603471a
