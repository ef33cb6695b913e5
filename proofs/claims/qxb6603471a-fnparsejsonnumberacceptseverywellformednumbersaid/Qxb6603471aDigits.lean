import Derived.Test.Qxb6603471aBytes
import Derived.Test.Qxb6603471aJsonJoin
namespace Go.Proofs.Qxb6603471a
open Go.RowKit
set_option linter.unusedSimpArgs false
set_option linter.unusedVariables false

set_option maxHeartbeats 400000 in
/-- 'allDigits' -/
theorem digits_any (ao : Option Addr) (n c : Nat) (zs : List Int) (w : World) (h : Rd w ao n zs) (hn : n ≤ 1073741824) :
    Calls Try.prog 17 #[.slice ao n c] w fun e w' => e = .returned (.bool (Json.allD zs)) ∧ w = w' := by
  obtain ⟨l, h⟩ := h
  have L : Hid (zs.length = n) := l
  clear l
  have H : Hid (n = 0 ∨ ∃ b o, ao = some ⟨b, o, none⟩ ∧ ∀ i, i < n → w.cell? ⟨b, o + i, none⟩ = some (.int .u8 (zs.getD i 0))) := h
  clear h
  go_enter Try.func17, Try.ntmps17
  go_wp2
  go_loop [3] (fun t => ∃ k : Nat, k ≤ n ∧ t = .int .i64 k ∧ Hid (Json.allD zs = Json.allD (zs.drop k))) (fun t => n - (intOf t).toNat)
  case atStart => exact ⟨0, Nat.zero_le _, rfl, rfl⟩
  case round =>
    obtain ⟨k, hk, rfl, HE⟩ := hrel
    by_cases hlt : k < n
    · obtain ⟨b, o, rfl, hc⟩ := H.out.resolve_left (by omega)
      have g : w.cell? ⟨b, o + k, none⟩ = some (.int .u8 (Json.at0 zs k)) := hc k hlt
      have hs := Json.allD_step zs k (by rw [L.out]; exact hlt)
      have HS : Hid (Json.allD (zs.drop k) = (Json.digB (Json.at0 zs k) && Json.allD (zs.drop (k + 1)))) := hs
      clear hs hc
      have hiff := Json.digB_iff (Json.at0 zs k)
      obtain ⟨x, hx⟩ : ∃ x, x = Json.at0 zs k := ⟨_, rfl⟩
      rw [← hx] at g HS hiff
      have HI : Hid (Json.digB x = true ↔ 48 ≤ x ∧ x ≤ 57) := hiff
      clear hiff hx
      by_cases d1 : 48 ≤ x
      · by_cases d2 : x ≤ 57
        · go_wp2
          go_round
          case rel => exact ⟨k + 1, by omega, by go_num, by unfold Hid; rw [HE.out, HS.out, HI.out.2 ⟨d1, d2⟩]; rfl⟩
          case measure => simp [intOf]; omega
        · go_wp2
          go_ret
          refine ⟨?_, rfl⟩
          have hf : Json.digB x = false := by cases e : Json.digB x with | false => rfl | true => have := HI.out.1 e; omega
          rw [HE.out, HS.out, hf]
          rfl
      · go_wp2
        go_ret
        refine ⟨?_, rfl⟩
        have hf : Json.digB x = false := by cases e : Json.digB x with | false => rfl | true => have := HI.out.1 e; omega
        rw [HE.out, HS.out, hf]
        rfl
    · go_wp2
      go_ret
      refine ⟨?_, rfl⟩
      rw [HE.out, List.drop_of_length_le (by rw [L.out]; omega)]
      rfl

set_option maxHeartbeats 400000 in
/-- 'expWellFormed' -/
theorem exp_any (ao : Option Addr) (n c : Nat) (zs : List Int) (w : World) (h : Rd w ao n zs) (hn : n ≤ 1073741824) (hnc : n ≤ c) :
    Calls Try.prog 18 #[.slice ao n c] w fun e w' => e = .returned (.bool (Json.expOk zs)) ∧ w = w' := by
  have H : Hid (Rd w ao n zs) := h
  have l := h.1
  rcases Nat.eq_zero_or_pos n with rfl | h0
  · have he : Json.expOk zs = true := by unfold Json.expOk; rw [if_pos l]
    rw [he]
    clear h l he
    go_enter Try.func18, Try.ntmps18
    go_wp2
    go_ret
    exact ⟨rfl, rfl⟩
  · obtain ⟨b, o, rfl, hc⟩ := h.2.resolve_left (by omega)
    have g : w.cell? ⟨b, o, none⟩ = some (.int .u8 (Json.at0 zs 0)) := hc 0 h0
    obtain ⟨x, hx⟩ : ∃ x, x = Json.at0 zs 0 := ⟨_, rfl⟩
    rw [← hx] at g
    have he : Json.expOk zs = if x = 43 ∨ x = 45 then decide (1 < n) && Json.allD (zs.drop 1) else Json.allD zs := by
      unfold Json.expOk; rw [if_neg (by omega), ← hx, l]
    have HE : Hid (Json.expOk zs = if x = 43 ∨ x = 45 then decide (1 < n) && Json.allD (zs.drop 1) else Json.allD zs) := he
    have hd1 : Hid (1 < n → Rd w (some ⟨b, o + 1, none⟩) (n - 1) (zs.drop 1)) := by
      intro h1
      refine ⟨by simp [l], .inr ⟨b, o + 1, rfl, fun i hi => ?_⟩⟩
      rw [Nat.add_assoc, hc (1 + i) (by omega)]
      simp [List.getD, Nat.add_comm]
    have hne : ((n : Int) == 0) = false := by simp; omega
    clear he hx hc h l
    by_cases hs : x = 43 ∨ x = 45
    · rw [HE.out, if_pos hs]
      by_cases h1 : 1 < n
      · have hcn : ¬ c = 1 := by omega
        rcases hs with hs | hs
        · go_enter Try.func18, Try.ntmps18
          go_wp2_with (go_at_call 17; refine (digits_any _ _ _ (zs.drop 1) _ (hd1.out h1) (by omega)).mono ?_; rintro e w' ⟨rfl, rfl⟩)
          go_ret
          exact ⟨by simp [h1], rfl⟩
        · go_enter Try.func18, Try.ntmps18
          go_wp2_with (go_at_call 17; refine (digits_any _ _ _ (zs.drop 1) _ (hd1.out h1) (by omega)).mono ?_; rintro e w' ⟨rfl, rfl⟩)
          go_ret
          exact ⟨by simp [h1], rfl⟩
      · rcases hs with hs | hs
        · go_enter Try.func18, Try.ntmps18
          go_wp2
          go_ret
          exact ⟨by simp [h1], rfl⟩
        · go_enter Try.func18, Try.ntmps18
          go_wp2
          go_ret
          exact ⟨by simp [h1], rfl⟩
    · rw [HE.out, if_neg hs]
      have e1 : (x == 43) = false := by simp; omega
      have e2 : (x == 45) = false := by simp; omega
      have hcn : ¬ c = 0 := by omega
      clear hs
      go_enter Try.func18, Try.ntmps18
      go_wp2_with (go_at_call 17; refine (digits_any _ _ _ zs _ H.out (by omega)).mono ?_; rintro e w' ⟨rfl, rfl⟩)
      go_ret
      exact ⟨rfl, rfl⟩
end Go.Proofs.Qxb6603471a
