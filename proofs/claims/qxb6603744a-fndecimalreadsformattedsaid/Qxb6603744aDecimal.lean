import Derived.Test.Qxb6603744aBytes
import Derived.Deep.CutBlock
import Derived.Deep.DeepCutAuto
namespace Go.Proofs.Qxb6603744a
open Go.RowKit
set_option linter.unusedSimpArgs false
set_option linter.unusedVariables false

theorem ok_no {l : List Int} {n : Nat} (hl : l.length = n) (h : n = 0 ∨ 18 < n) : Dec.okB l = false := by
  unfold Dec.okB
  rw [hl]
  rcases h with h | h
  · rw [decide_eq_false (show ¬ 0 < n by omega)]; rfl
  · rw [decide_eq_false (show ¬ n ≤ 18 by omega)]; simp

theorem ok_bad {l : List Int} {k : Nat} (hk : k < l.length) (h : Dec.digB (Dec.at0 l k) = false) : Dec.okB l = false := by
  have : Dec.allD l = false := by
    have e : l = l.take k ++ (Dec.at0 l k :: l.drop (k + 1)) := by rw [← Dec.drop_at l k hk, List.take_append_drop]
    rw [e, Dec.allD_append]
    simp [Dec.allD, h]
  unfold Dec.okB
  rw [this]; simp

set_option maxRecDepth 100000 in
set_option maxHeartbeats 1000000 in
/-- 'decimal' -/
theorem decimal_any (ao : Option Addr) (n c : Nat) (zs : List Int) (w : World) (h : Rd w ao n zs) (hn : n ≤ 1048576) (hnc : n ≤ c) :
    Calls Try.prog 10 #[.slice ao n c] w fun e w' => e = .returned (.tuple #[.int .i64 (Dec.dec zs).1, .bool (Dec.dec zs).2]) ∧ w = w' := by
  have H : Hid (Rd w ao n zs) := h
  have l := h.1
  obtain ⟨v, hv⟩ : ∃ v, v = Dec.dec zs := ⟨_, rfl⟩
  rw [← hv]
  have HV : Hid (v = if Dec.okB (Dec.body zs) then (Dec.sgn zs (Dec.val (Dec.body zs)), true) else (0, false)) := hv
  clear hv
  rcases Nat.eq_zero_or_pos n with rfl | h0
  · obtain rfl : zs = [] := List.length_eq_zero_iff.1 l
    have e : v = (0, false) := HV.out
    subst e
    clear h l HV H
    go_enter Try.func10, Try.ntmps10
    go_wp2
    go_ret2
    exact ⟨rfl, rfl⟩
  · obtain ⟨b, o, rfl, hc⟩ := h.2.resolve_left (by omega)
    have g : w.cell? ⟨b, o, none⟩ = some (.int .u8 (Dec.at0 zs 0)) := hc 0 h0
    have HB : Hid (Dec.body zs = if Dec.at0 zs 0 = 45 then zs.drop 1 else zs) := rfl
    have HS : Hid (∀ u, Dec.sgn zs u = if Dec.at0 zs 0 = 45 then -u else u) := fun _ => rfl
    obtain ⟨x, hx⟩ : ∃ x, x = Dec.at0 zs 0 := ⟨_, rfl⟩
    rw [← hx] at g HB HS
    have hd1 : Hid (Rd w (some ⟨b, o + 1, none⟩) (n - 1) (zs.drop 1)) := by
      refine ⟨by simp [l], .inr ⟨b, o + 1, rfl, fun i hi => ?_⟩⟩
      rw [Nat.add_assoc, hc (1 + i) (by omega)]
      simp [List.getD, Nat.add_comm]
    have hd0 : Hid (n = 1 → Rd w (some ⟨b, o, none⟩) (n - 1) (zs.drop 1)) := fun e => ⟨by simp [l], .inl (by omega)⟩
    clear hx hc h l
    go_enter Try.func10, Try.ntmps10
    go_upto_region 1 with fail
    go_cut [4] (fun t wx => t = .bool (decide (x = 45)) ∧ w = wx)
    case first =>
      by_cases e : x = 45
      · go_wp2
        go_meet
        case rel => exact ⟨by simp [e], rfl⟩
      · have e' : (x == 45) = false := by simp [e]
        go_wp2
        go_meet
        case rel => exact ⟨by simp [e], rfl⟩
    case rest =>
      clear g
      obtain ⟨rfl, rfl⟩ := hcut
      obtain ⟨ng, hng⟩ : ∃ ng, ng = decide (x = 45) := ⟨_, rfl⟩
      rw [← hng]
      have HB : Hid (Dec.body zs = if ng = true then zs.drop 1 else zs) := by unfold Hid; rw [HB.out, hng]; simp
      have HS : Hid (∀ u, Dec.sgn zs u = if ng = true then -u else u) := by intro u; rw [HS.out, hng]; simp
      clear hng
      go_upto_if 17 with fail
      go_cut [0] (fun s wx => ∃ (a' : Option Addr) (m c' : Nat), s = .slice a' m c' ∧ m ≤ c' ∧ m ≤ n ∧ Hid (Rd w a' m (Dec.body zs)) ∧ w = wx)
      case first =>
        cases ng
        · go_wp2
          go_meet
          case rel => exact ⟨_, n, c, rfl, hnc, Nat.le_refl _, by unfold Hid; rw [HB.out]; exact H.out, rfl⟩
        · by_cases e1 : c = 1
          · go_wp2
            go_meet
            case rel => exact ⟨_, _, _, rfl, by omega, by omega, by unfold Hid; rw [HB.out]; exact hd0.out (by omega), rfl⟩
          · go_wp2
            go_meet
            case rel => exact ⟨_, _, _, rfl, by omega, by omega, by unfold Hid; rw [HB.out]; exact hd1.out, rfl⟩
      case rest =>
        obtain ⟨a', m, c', rfl, hmc, hmn, HR, rfl⟩ := hcut
        obtain ⟨l, hl⟩ : ∃ l, l = Dec.body zs := ⟨_, rfl⟩
        rw [← hl] at HR HV
        have L : Hid (l.length = m) := HR.out.1
        clear hl HB
        by_cases hm0 : m = 0
        · have hv : v = (0, false) := by rw [HV.out, ok_no L.out (.inl hm0)]; rfl
          subst hv
          subst hm0
          go_wp2
          go_ret2
          exact ⟨rfl, rfl⟩
        · have hmb : ((m : Int) == 0) = false := by simp; omega
          by_cases hm18 : 18 < m
          · have hv : v = (0, false) := by rw [HV.out, ok_no L.out (.inr hm18)]; rfl
            subst hv
            go_wp2
            go_ret2
            exact ⟨rfl, rfl⟩
          · obtain ⟨b', o', rfl, hc⟩ := HR.out.2.resolve_left hm0
            have HC : Hid (∀ i, i < m → w.cell? ⟨b', o' + i, none⟩ = some (.int .u8 (Dec.at0 l i))) := hc
            clear hc
            go_upto_block 0 with fail
            go_cut [5] (fun t wx => t = .int .i64 (Dec.val l) ∧ Hid (Dec.allD l = true) ∧ w = wx)
            case first =>
              go_wp2_with fail
              go_loop [5, 30] (fun t u => ∃ k : Nat, k ≤ m ∧ u = .int .i64 k ∧ t = .int .i64 (Dec.val (l.take k)) ∧ Hid (Dec.allD (l.take k) = true)) (fun _ u => m - (intOf u).toNat)
              case atStart => exact ⟨0, Nat.zero_le _, rfl, rfl, rfl⟩
              case round =>
                obtain ⟨k, hk, rfl, rfl, HA⟩ := hrel
                by_cases hlt : k < m
                · have gk := HC.out k hlt
                  have hsn := Dec.take_at l k (by rw [L.out]; exact hlt)
                  have hbd := Dec.val_bd (l.take k) HA.out
                  have hpk := Dec.p10_mono (l.take k).length 17 (by rw [List.length_take, L.out]; omega)
                  rw [Dec.p10_17] at hpk
                  have HVS : Hid (Dec.val (l.take (k + 1)) = Dec.val (l.take k) * 10 + (Dec.at0 l k - 48)) := by unfold Hid; rw [hsn, Dec.val_snoc]
                  have HAS : Hid (Dec.digB (Dec.at0 l k) = true → Dec.allD (l.take (k + 1)) = true) := by
                    intro hh; rw [hsn, Dec.allD_append, HA.out]; simp [Dec.allD, hh]
                  have HBAD : Hid (Dec.digB (Dec.at0 l k) = false → v = (0, false)) := by
                    intro hh; rw [HV.out, ok_bad (by rw [L.out]; exact hlt) hh]; rfl
                  obtain ⟨V, hV⟩ : ∃ V, V = Dec.val (l.take k) := ⟨_, rfl⟩
                  rw [← hV] at hbd HVS
                  rw [← hV]
                  have hV0 : 0 ≤ V := hbd.1
                  have hV1 : V ≤ 99999999999999999 := by omega
                  have hdi := Dec.digB_iff (Dec.at0 l k)
                  obtain ⟨y, hy⟩ : ∃ y, y = Dec.at0 l k := ⟨_, rfl⟩
                  rw [← hy] at gk HVS HAS HBAD hdi
                  have HDI : Hid (Dec.digB y = true ↔ 48 ≤ y ∧ y ≤ 57) := hdi
                  clear hV hy hsn hbd hpk hdi
                  by_cases d1 : 48 ≤ y
                  · by_cases d2 : y ≤ 57
                    · go_wp2
                      go_round
                      case rel => exact ⟨k + 1, by omega, by go_num, by rw [HVS.out], HAS.out (HDI.out.2 ⟨d1, d2⟩)⟩
                      case measure => simp [intOf]; omega
                    · have hv : v = (0, false) := HBAD.out (by cases e : Dec.digB y with
                        | false => rfl
                        | true => have := HDI.out.1 e; omega)
                      subst hv
                      go_wp2
                      go_ret2
                      exact ⟨rfl, rfl⟩
                  · have hv : v = (0, false) := HBAD.out (by cases e : Dec.digB y with
                      | false => rfl
                      | true => have := HDI.out.1 e; omega)
                    subst hv
                    go_wp2
                    go_ret2
                    exact ⟨rfl, rfl⟩
                · have e : l.take k = l := List.take_of_length_le (by rw [L.out]; omega)
                  have HE : Hid (l.take k = l) := e
                  clear e
                  go_wp2
                  go_meet
                  case rel =>
                    refine ⟨by rw [HE.out], ?_, rfl⟩
                    have := HA.out; rw [HE.out] at this; exact this
            case rest =>
              obtain ⟨rfl, HA, rfl⟩ := hcut
              have hbd := Dec.val_bd l HA.out
              have hpk := Dec.p10_mono l.length 18 (by rw [L.out]; omega)
              rw [Dec.p10_18] at hpk
              have hok : Dec.okB l = true := by unfold Dec.okB; rw [HA.out, L.out]; simp; omega
              have HV : Hid (v = (if ng = true then - Dec.val l else Dec.val l, true)) := by
                unfold Hid; rw [HV.out, hok, HS.out]; rfl
              obtain ⟨V, hV⟩ : ∃ V, V = Dec.val l := ⟨_, rfl⟩
              rw [← hV] at hbd HV
              rw [← hV]
              have hV0 : 0 ≤ V := hbd.1
              have hV1 : V ≤ 999999999999999999 := by omega
              clear hV hbd hpk hok
              cases ng
              · have hv : v = (V, true) := HV.out
                subst hv
                go_wp2
                go_ret2
                exact ⟨rfl, rfl⟩
              · have hv : v = (-V, true) := HV.out
                subst hv
                go_wp2
                go_ret2
                exact ⟨rfl, rfl⟩
end Go.Proofs.Qxb6603744a
