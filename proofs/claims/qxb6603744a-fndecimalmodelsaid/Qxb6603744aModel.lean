import Derived.Test.Qxb6603744aDecimal
namespace Go.Proofs.Qxb6603744a
open Go.RowKit
set_option linter.unusedSimpArgs false
set_option linter.unusedVariables false

theorem prod_bd (x P V : Int) (h1 : 48 ≤ x) (h2 : x ≤ 57) (hP : 1 ≤ P) (hP1 : P ≤ 100000000000000000) (hV0 : 0 ≤ V) (hV1 : V < P) :
    0 ≤ (x - 48) * P ∧ (x - 48) * P ≤ 900000000000000000 ∧ V + (x - 48) * P ≤ 999999999999999999 := by
  have hc : x - 48 = 0 ∨ x - 48 = 1 ∨ x - 48 = 2 ∨ x - 48 = 3 ∨ x - 48 = 4 ∨ x - 48 = 5 ∨ x - 48 = 6 ∨ x - 48 = 7 ∨ x - 48 = 8 ∨ x - 48 = 9 := by omega
  rcases hc with e | e | e | e | e | e | e | e | e | e <;> rw [e] <;> omega

/-- Where the digits begin. -/
def st (zs : List Int) : Nat := if Dec.at0 zs 0 = 45 then 1 else 0
theorem body_st (zs : List Int) : Dec.body zs = zs.drop (st zs) := by
  unfold Dec.body st; split <;> simp

set_option maxRecDepth 100000 in
set_option maxHeartbeats 1000000 in
/-- 'decimalModel' -/
theorem model_any (ao : Option Addr) (n c : Nat) (zs : List Int) (w : World) (h : Rd w ao n zs) (hn : n ≤ 1048576) (hnc : n ≤ c) :
    Calls Try.prog 8 #[.slice ao n c] w fun e w' => e = .returned (.tuple #[.int .i64 (Dec.dec zs).1, .bool (Dec.dec zs).2]) ∧ w = w' := by
  have l := h.1
  obtain ⟨v, hv⟩ : ∃ v, v = Dec.dec zs := ⟨_, rfl⟩
  rw [← hv]
  have HV : Hid (v = if Dec.okB (zs.drop (st zs)) then (Dec.sgn zs (Dec.val (zs.drop (st zs))), true) else (0, false)) := by
    unfold Hid; rw [hv, ← body_st]; rfl
  clear hv
  rcases Nat.eq_zero_or_pos n with rfl | h0
  · obtain rfl : zs = [] := List.length_eq_zero_iff.1 l
    have e : v = (0, false) := HV.out
    subst e
    clear h l HV
    go_enter Try.func8, Try.ntmps8
    go_wp2
    go_ret2
    exact ⟨rfl, rfl⟩
  · obtain ⟨b, o, rfl, hc⟩ := h.2.resolve_left (by omega)
    have HC : Hid (∀ i, i < n → w.cell? ⟨b, o + i, none⟩ = some (.int .u8 (Dec.at0 zs i))) := hc
    have L : Hid (zs.length = n) := l
    have g : w.cell? ⟨b, o, none⟩ = some (.int .u8 (Dec.at0 zs 0)) := hc 0 h0
    have HST : Hid (st zs = if Dec.at0 zs 0 = 45 then 1 else 0) := rfl
    have HS : Hid (∀ u, Dec.sgn zs u = if Dec.at0 zs 0 = 45 then -u else u) := fun _ => rfl
    obtain ⟨x, hx⟩ : ∃ x, x = Dec.at0 zs 0 := ⟨_, rfl⟩
    rw [← hx] at g HST HS
    clear hx hc h l
    go_enter Try.func8, Try.ntmps8
    go_upto_region 2 with fail
    go_cut [18] (fun t wx => t = .bool (decide (x = 45)) ∧ w = wx)
    case first =>
      by_cases e : x = 45
      · go_wp2
        go_meet
        case rel => exact ⟨by simp [e], rfl⟩
      · have e' : (x == 45) = false := by simp [e]
        go_wp2
        go_meet
        case rel => exact ⟨by simp [e], rfl⟩
    case rest =>
      clear g
      obtain ⟨rfl, rfl⟩ := hcut
      go_upto_if 18 with fail
      go_cut [4] (fun t wx => ∃ s : Nat, s ≤ 1 ∧ Hid (s = st zs) ∧ t = .int .i64 s ∧ w = wx)
      case first =>
        by_cases e : x = 45
        · have hd : decide (x = 45) = true := by simp [e]
          go_wp2
          go_meet
          case rel => exact ⟨1, by omega, by unfold Hid; rw [HST.out, if_pos e], rfl, rfl⟩
        · have hd : decide (x = 45) = false := by simp [e]
          go_wp2
          go_meet
          case rel => exact ⟨0, by omega, by unfold Hid; rw [HST.out, if_neg e], rfl, rfl⟩
      case rest =>
        obtain ⟨s, hs1, hs, rfl, rfl⟩ := hcut
        have HS : Hid (∀ u, Dec.sgn zs u = if s = 1 then -u else u) := by
          intro u; rw [HS.out, hs.out, HST.out]
          by_cases e : x = 45 <;> simp [e]
        rw [← hs.out] at HV
        clear HST
        have LB : Hid ((zs.drop s).length = n - s) := by unfold Hid; rw [List.length_drop, L.out]
        by_cases hm0 : n - s = 0
        · have hv : v = (0, false) := by rw [HV.out, ok_no LB.out (.inl hm0)]; rfl
          subst hv
          go_wp2
          go_ret2
          exact ⟨rfl, rfl⟩
        · by_cases hm18 : 18 < n - s
          · have hv : v = (0, false) := by rw [HV.out, ok_no LB.out (.inr hm18)]; rfl
            subst hv
            go_wp2
            go_ret2
            exact ⟨rfl, rfl⟩
          · go_upto_block 0 with fail
            go_cut [6] (fun t wx => t = .int .u64 (Dec.val (zs.drop s)) ∧ Hid (Dec.allD (zs.drop s) = true) ∧ w = wx)
            case first =>
              go_wp2_with fail
              go_loop [6, 7, 8] (fun t p i => ∃ j : Nat, s ≤ j ∧ j ≤ n ∧ i = .int .i64 ((j : Int) - 1) ∧ t = .int .u64 (Dec.val (zs.drop j)) ∧ p = .int .u64 (Dec.p10 (n - j)) ∧ Hid (Dec.allD (zs.drop j) = true)) (fun _ _ i => (intOf i + 1).toNat)
              case atStart =>
                refine ⟨n, by omega, by omega, rfl, ?_, ?_, ?_⟩
                · rw [List.drop_of_length_le (by rw [L.out]; omega)]; rfl
                · rw [Nat.sub_self]; rfl
                · rw [List.drop_of_length_le (by rw [L.out]; omega)]; rfl
              case round =>
                obtain ⟨j, hj1, hj2, rfl, rfl, rfl, HA⟩ := hrel
                by_cases hlt : s < j
                · obtain ⟨k, rfl⟩ : ∃ k, j = k + 1 := ⟨j - 1, by omega⟩
                  have gk := HC.out k (by omega)
                  have hdr := Dec.drop_at zs k (by rw [L.out]; omega)
                  have hbd := Dec.val_bd (zs.drop (k + 1)) HA.out
                  have hlen : (zs.drop (k + 1)).length = n - (k + 1) := by rw [List.length_drop, L.out]
                  rw [hlen] at hbd
                  have hpk := Dec.p10_mono (n - (k + 1)) 17 (by omega)
                  rw [Dec.p10_17] at hpk
                  have hpp := Dec.p10_pos (n - (k + 1))
                  have HVS : Hid (Dec.val (zs.drop k) = Dec.val (zs.drop (k + 1)) + (Dec.at0 zs k - 48) * Dec.p10 (n - (k + 1))) := by
                    unfold Hid; rw [hdr, Dec.val_cons, hlen]; omega
                  have HPS : Hid (Dec.p10 (n - k) = Dec.p10 (n - (k + 1)) * 10) := by
                    unfold Hid; rw [show n - k = (n - (k + 1)) + 1 by omega]; simp only [Dec.p10]; omega
                  have HAS : Hid (Dec.digB (Dec.at0 zs k) = true → Dec.allD (zs.drop k) = true) := by
                    intro hh; rw [hdr]; simp [Dec.allD, hh, HA.out]
                  have HBAD : Hid (Dec.digB (Dec.at0 zs k) = false → v = (0, false)) := by
                    intro hh
                    have : Dec.okB (zs.drop s) = false := by
                      refine ok_bad (k := k - s) (by rw [LB.out]; omega) ?_
                      have e : Dec.at0 (zs.drop s) (k - s) = Dec.at0 zs k := by
                        simp [Dec.at0, List.getD, List.getElem?_drop, show s + (k - s) = k by omega]
                      rw [e]; exact hh
                    rw [HV.out, this]; rfl
                  obtain ⟨V, hV⟩ : ∃ V, V = Dec.val (zs.drop (k + 1)) := ⟨_, rfl⟩
                  obtain ⟨P, hP⟩ : ∃ P, P = Dec.p10 (n - (k + 1)) := ⟨_, rfl⟩
                  rw [← hV] at hbd HVS
                  rw [← hP] at hbd HVS HPS hpk hpp
                  rw [← hV, ← hP]
                  have hV0 : 0 ≤ V := hbd.1
                  have hV1 : V < P := hbd.2
                  have hdi := Dec.digB_iff (Dec.at0 zs k)
                  obtain ⟨y, hy⟩ : ∃ y, y = Dec.at0 zs k := ⟨_, rfl⟩
                  rw [← hy] at gk HVS HAS HBAD hdi
                  have HDI : Hid (Dec.digB y = true ↔ 48 ≤ y ∧ y ≤ 57) := hdi
                  clear hV hP hy hdr hbd hdi hlen
                  by_cases d1 : 48 ≤ y
                  · by_cases d2 : y ≤ 57
                    · obtain ⟨q1, q2, q3⟩ := prod_bd y P V d1 d2 hpp hpk hV0 hV1
                      go_wp2
                      go_round
                      case rel =>
                        refine ⟨k, by omega, by omega, ?_, ?_, ?_, HAS.out (HDI.out.2 ⟨d1, d2⟩)⟩
                        · go_num
                        · rw [HVS.out]
                        · rw [HPS.out]
                      case measure => simp [intOf]
                    · have hv : v = (0, false) := HBAD.out (by cases e : Dec.digB y with
                        | false => rfl
                        | true => have := HDI.out.1 e; omega)
                      subst hv
                      go_wp2
                      go_ret2
                      exact ⟨rfl, rfl⟩
                  · have hv : v = (0, false) := HBAD.out (by cases e : Dec.digB y with
                      | false => rfl
                      | true => have := HDI.out.1 e; omega)
                    subst hv
                    go_wp2
                    go_ret2
                    exact ⟨rfl, rfl⟩
                · obtain rfl : j = s := by omega
                  go_wp2
                  go_meet
                  case rel => exact ⟨rfl, HA, rfl⟩
            case rest =>
              obtain ⟨rfl, HA, rfl⟩ := hcut
              have hbd := Dec.val_bd (zs.drop s) HA.out
              have hpk := Dec.p10_mono (zs.drop s).length 18 (by rw [LB.out]; omega)
              rw [Dec.p10_18] at hpk
              have hok : Dec.okB (zs.drop s) = true := by unfold Dec.okB; rw [HA.out, LB.out]; simp; omega
              have HV : Hid (v = (if s = 1 then - Dec.val (zs.drop s) else Dec.val (zs.drop s), true)) := by
                unfold Hid; rw [HV.out, hok, HS.out]; rfl
              obtain ⟨V, hV⟩ : ∃ V, V = Dec.val (zs.drop s) := ⟨_, rfl⟩
              rw [← hV] at hbd HV
              rw [← hV]
              have hV0 : 0 ≤ V := hbd.1
              have hV1 : V ≤ 999999999999999999 := by omega
              clear hV hbd hpk hok
              by_cases hs' : s = 1
              · have hv : v = (-V, true) := by rw [HV.out, if_pos hs']
                subst hv
                subst hs'
                go_wp2
                go_ret2
                exact ⟨rfl, rfl⟩
              · have hv : v = (V, true) := by rw [HV.out, if_neg hs']
                subst hv
                obtain rfl : s = 0 := by omega
                go_wp2
                go_ret2
                exact ⟨rfl, rfl⟩
end Go.Proofs.Qxb6603744a
