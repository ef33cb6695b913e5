import Derived.Test.Qxb6603727aBytes
import Derived.Deep.CutBlock
import Derived.Deep.DeepCutAuto
namespace Go.Proofs.Qxb6603727a
open Go.RowKit
set_option linter.unusedSimpArgs false
set_option linter.unusedVariables false

theorem ret_int {k : IntKind} {a b : Int} (h : a = b) : Ending.returned (.int k a) = .returned (.int k b) := by rw [h]

set_option maxRecDepth 100000 in
set_option maxHeartbeats 2000000 in
/-- 'zqNumberStep' -/
theorem step_any (s c t : Int) (w : World) (ht : Hid (Num.mv s c = t)) (h1 : 0 ≤ s) (h2 : s ≤ 8) (h3 : 0 ≤ c) (h4 : c ≤ 255) :
    Calls Try.prog 31 #[.int .i64 s, .int .u8 c] w fun e w' => e = .returned (.int .i64 t) ∧ w = w' := by
  rcases (show s = 0 ∨ s = 1 ∨ s = 2 ∨ s = 3 ∨ s = 4 ∨ s = 5 ∨ s = 6 ∨ s = 7 ∨ s = 8 by omega) with rfl | rfl | rfl | rfl | rfl | rfl | rfl | rfl | rfl
  all_goals
    go_enter Try.func31, Try.ntmps31
    go_wp2
    all_goals
      go_ret
      refine ⟨?_, rfl⟩
      rw [← ht.out]
      refine ret_int ?_
      simp_all [Num.mv, Num.digB]
      try omega

/-- The machine's answer, by its last state. -/
def accB (s : Int) : Bool := decide (s = 2 ∨ s = 3 ∨ s = 5 ∨ s = 8)

set_option maxRecDepth 100000 in
set_option maxHeartbeats 1000000 in
/-- 'zqNumberMachine' -/
theorem mach_any (b o n c i : Nat) (zs : List Int) (w : World) (hc : Hid (∀ i, i < n → w.cell? ⟨b, o + i, none⟩ = some (.int .u8 (Num.at0 zs i)))) (L : Hid (zs.length = n))
    (hby : Hid (∀ k, 0 ≤ Num.at0 zs k ∧ Num.at0 zs k ≤ 255)) (hi : i < n) (hn : n ≤ 1048576) :
    Calls Try.prog 21 #[.slice (some ⟨b, o, none⟩) n c, .int .i64 i] w fun e w' => e = .returned (.tuple #[.int .i64 (Num.fin 0 zs i).2, .bool (accB (Num.fin 0 zs i).1)]) ∧ w = w' := by
  obtain ⟨f, hf⟩ : ∃ f, f = Num.fin 0 zs i := ⟨_, rfl⟩
  rw [← hf]
  have HF : Hid (f = Num.fin 0 zs i) := hf
  clear hf
  go_enter Try.func21, Try.ntmps21
  go_upto_block 0 with fail
  go_cut [6, 7] (fun s6 s7 wx => s6 = .int .i64 f.1 ∧ s7 = .int .i64 f.2 ∧ w = wx)
  case first =>
    go_wp2_with fail
    go_loop [6, 7] (fun s6 s7 => ∃ (s : Int) (k : Nat), 0 ≤ s ∧ s ≤ 8 ∧ k ≤ n ∧ s6 = .int .i64 s ∧ s7 = .int .i64 k ∧ Hid (f = Num.fin s zs k)) (fun _ s7 => n - (intOf s7).toNat)
    case atStart => exact ⟨0, i, by omega, by omega, by omega, rfl, rfl, HF⟩
    case round =>
      obtain ⟨s, k, hs0, hs8, hk, rfl, rfl, HE⟩ := hrel
      have HS : Hid (Num.fin s zs k = if Num.mv s (Num.at0 zs k) < 0 then (s, k) else Num.fin (Num.mv s (Num.at0 zs k)) zs (k + 1)) := Num.fin_step s zs k
      by_cases hlt : k < n
      · have g := hc.out k hlt
        obtain ⟨hx0, hx1⟩ := hby.out k
        obtain ⟨x, hx⟩ : ∃ x, x = Num.at0 zs k := ⟨_, rfl⟩
        rw [← hx] at g hx0 hx1 HS
        clear hx
        obtain ⟨t, ht⟩ : ∃ t, Num.mv s x = t := ⟨_, rfl⟩
        rw [ht] at HS
        have HT : Hid (Num.mv s x = t) := ht
        have hrg := Num.mv_range s x
        rw [ht] at hrg
        clear ht
        by_cases ht0 : t < 0
        · go_wp2_with (go_at_call 31; refine (step_any s x t w HT hs0 hs8 hx0 hx1).mono ?_; rintro e w' ⟨rfl, rfl⟩)
          go_meet
          case rel =>
            have hf : f = (s, k) := by rw [HE.out, HS.out, if_pos ht0]
            subst hf
            exact ⟨rfl, rfl, rfl⟩
        · obtain ⟨ht1, ht2⟩ := hrg ht0
          clear hrg
          go_wp2_with (go_at_call 31; refine (step_any s x t w HT hs0 hs8 hx0 hx1).mono ?_; rintro e w' ⟨rfl, rfl⟩)
          go_round
          case rel => exact ⟨t, k + 1, ht1, ht2, by omega, rfl, by go_num, by unfold Hid; rw [HE.out, HS.out, if_neg (by omega)]⟩
          case measure => simp [intOf]; omega
      · have hf : f = (s, k) := by
          rw [HE.out, HS.out, Num.getD_out zs k (by rw [L.out]; omega), Num.mv_zero, if_pos (by omega)]
        subst hf
        go_wp2
        go_meet
        case rel => exact ⟨rfl, rfl, rfl⟩
  case rest =>
    obtain ⟨rfl, rfl, rfl⟩ := hcut
    obtain ⟨s, k⟩ := f
    clear HF
    by_cases e2 : s = 2
    · go_wp2
      go_ret2
      exact ⟨by simp [accB, e2], rfl⟩
    · have b2 : (s == 2) = false := by simp [e2]
      by_cases e3 : s = 3
      · go_wp2
        go_ret2
        exact ⟨by simp [accB, e3], rfl⟩
      · have b3 : (s == 3) = false := by simp [e3]
        by_cases e5 : s = 5
        · go_wp2
          go_ret2
          exact ⟨by simp [accB, e5], rfl⟩
        · have b5 : (s == 5) = false := by simp [e5]
          by_cases e8 : s = 8
          · go_wp2
            go_ret2
            exact ⟨by simp [accB, e8], rfl⟩
          · have b8 : (s == 8) = false := by simp [e8]
            go_wp2
            go_ret2
            exact ⟨by simp [accB, e2, e3, e5, e8], rfl⟩
end Go.Proofs.Qxb6603727a
