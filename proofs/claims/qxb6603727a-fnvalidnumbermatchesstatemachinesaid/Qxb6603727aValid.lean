import Derived.Test.Qxb6603727aBytes
import Derived.Deep.CutBlock
import Derived.Deep.DeepCutAuto
namespace Go.Proofs.Qxb6603727a
open Go.RowKit
set_option linter.unusedSimpArgs false
set_option linter.unusedVariables false

set_option maxHeartbeats 400000 in
/-- 'isDigit' -/
theorem dig_any (c : Int) (d : Bool) (w : World) (hd : Hid (Num.digB c = d)) :
    Calls Try.prog 37 #[.int .u8 c] w fun e w' => e = .returned (.bool d) ∧ w = w' := by
  have hi := Num.digB_iff c
  have HI : Hid (Num.digB c = true ↔ 48 ≤ c ∧ c ≤ 57) := hi
  clear hi
  by_cases d1 : 48 ≤ c
  · by_cases d2 : c ≤ 57
    · have e : d = true := by rw [← hd.out, HI.out]; exact ⟨d1, d2⟩
      subst e
      go_enter Try.func37, Try.ntmps37
      go_wp2
      go_ret
      exact ⟨by simp, rfl⟩
    · have e : d = false := by
        rw [← hd.out]; cases e : Num.digB c with
        | false => rfl
        | true => have := HI.out.1 e; omega
      subst e
      go_enter Try.func37, Try.ntmps37
      go_wp2
      go_ret
      exact ⟨by simp, rfl⟩
  · have e : d = false := by
      rw [← hd.out]; cases e : Num.digB c with
      | false => rfl
      | true => have := HI.out.1 e; omega
    subst e
    go_enter Try.func37, Try.ntmps37
    go_wp2
    go_ret
    exact ⟨rfl, rfl⟩

set_option maxHeartbeats 400000 in
/-- 'digitsEnd' -/
theorem end_any (b o n c : Nat) (zs : List Int) (w : World) (hc : Hid (∀ i, i < n → w.cell? ⟨b, o + i, none⟩ = some (.int .u8 (Num.at0 zs i)))) (L : Hid (zs.length = n)) (iv : Int) (i t : Nat) (hiv : iv = (i : Int)) (ht : Hid (Num.skip zs i = t)) (hi : i ≤ n) (hn : n ≤ 1048576) :
    Calls Try.prog 38 #[.slice (some ⟨b, o, none⟩) n c, .int .i64 iv] w fun e w' => e = .returned (.int .i64 t) ∧ w = w' := by
  subst hiv
  go_enter Try.func38, Try.ntmps38
  go_wp2
  go_loop [1] (fun u => ∃ k : Nat, k ≤ n ∧ u = .int .i64 k ∧ Hid (Num.skip zs k = t)) (fun u => n - (intOf u).toNat)
  case atStart => exact ⟨i, hi, rfl, ht⟩
  case round =>
    obtain ⟨k, hk, rfl, HE⟩ := hrel
    by_cases hlt : k < n
    · have g := hc.out k hlt
      have s1 : Hid (Num.digB (Num.at0 zs k) = true → Num.skip zs (k + 1) = Num.skip zs k) := Num.skip_yes zs k
      have s2 : Hid (Num.digB (Num.at0 zs k) = false → Num.skip zs k = k) := Num.skip_no zs k
      obtain ⟨x, hx⟩ : ∃ x, x = Num.at0 zs k := ⟨_, rfl⟩
      rw [← hx] at g s1 s2
      clear hx
      obtain ⟨d, hd⟩ : ∃ d, Num.digB x = d := ⟨_, rfl⟩
      have HD : Hid (Num.digB x = d) := hd
      clear hd
      cases d
      · go_wp2_with (go_at_call 37; refine (dig_any x false w HD).mono ?_; rintro e w' ⟨rfl, rfl⟩)
        go_ret
        refine ⟨?_, rfl⟩
        rw [← HE.out, s2.out HD.out]
        rfl
      · go_wp2_with (go_at_call 37; refine (dig_any x true w HD).mono ?_; rintro e w' ⟨rfl, rfl⟩)
        go_round
        case rel => exact ⟨k + 1, by omega, by go_num, by unfold Hid; rw [s1.out HD.out]; exact HE.out⟩
        case measure => simp [intOf]; omega
    · go_wp2
      go_ret
      refine ⟨?_, rfl⟩
      rw [← HE.out, Num.skip_no zs k (by rw [Num.getD_out _ _ (by rw [L.out]; omega)]; decide)]
      rfl

set_option maxRecDepth 100000 in
set_option maxHeartbeats 1000000 in
/-- 'validNumber' -/
theorem valid_any (b o n c i : Nat) (zs : List Int) (w : World) (hc : Hid (∀ i, i < n → w.cell? ⟨b, o + i, none⟩ = some (.int .u8 (Num.at0 zs i)))) (L : Hid (zs.length = n)) (hi : i < n) (hn : n ≤ 1048576) :
    Calls Try.prog 30 #[.slice (some ⟨b, o, none⟩) n c, .int .i64 i] w fun e w' => e = .returned (.tuple #[.int .i64 (Num.vn zs i).1, .bool (Num.vn zs i).2]) ∧ w = w' := by
  have out0 : Hid (∀ k, n ≤ k → Num.at0 zs k = 0) := fun k hk => Num.getD_out zs k (by rw [L.out]; exact hk)
  have g0 := hc.out i hi
  obtain ⟨x, hx⟩ : ∃ x, x = Num.at0 zs i := ⟨_, rfl⟩
  rw [← hx] at g0
  have HX : Hid (x = Num.at0 zs i) := hx
  clear hx
  obtain ⟨v, hv⟩ : ∃ v, v = Num.vn zs i := ⟨_, rfl⟩
  rw [← hv]
  have HV : Hid (v = Num.vn zs i) := hv
  clear hv
  go_enter Try.func30, Try.ntmps30
  go_upto_if 10 with fail
  go_cut [1] (fun t wx => ∃ p : Nat, Hid (p = Num.pI zs i) ∧ i ≤ p ∧ p ≤ n ∧ t = .int .i64 p ∧ w = wx)
  case first =>
    by_cases h45 : x = 45
    · go_wp2
      go_meet
      case rel => exact ⟨i + 1, by unfold Num.pI Hid; rw [← HX.out, if_pos h45], by omega, by omega, by go_num, rfl⟩
    · have h45' : (x == 45) = false := by simp [h45]
      go_wp2
      go_meet
      case rel => exact ⟨i, by unfold Num.pI Hid; rw [← HX.out, if_neg h45], by omega, by omega, rfl, rfl⟩
  case rest =>
    clear g0
    obtain ⟨p, hp, hip, hpn, rfl, rfl⟩ := hcut
    have HV : Hid (v = if Num.digB (Num.at0 zs p) then Num.endF zs (Num.qI zs p) else (p, false)) := by
      unfold Hid; rw [HV.out, hp.out]; rfl
    by_cases hpl : p < n
    · have g0 := hc.out p hpl
      obtain ⟨y, hy⟩ : ∃ y, y = Num.at0 zs p := ⟨_, rfl⟩
      rw [← hy] at g0 HV
      have HY : Hid (y = Num.at0 zs p) := hy
      clear hy
      obtain ⟨d, hd⟩ : ∃ d, Num.digB y = d := ⟨_, rfl⟩
      have HD : Hid (Num.digB y = d) := hd
      clear hd
      have hpb : ((p : Int) == (n : Int)) = false := by simp; omega
      cases d
      · have hv : v = (p, false) := by rw [HV.out, HD.out]; rfl
        subst hv
        go_wp2_with (go_at_call 37; refine (dig_any y false w HD).mono ?_; rintro e w' ⟨rfl, rfl⟩)
        go_ret2
        exact ⟨rfl, rfl⟩
      · have HV : Hid (v = Num.endF zs (Num.qI zs p)) := by unfold Hid; rw [HV.out, HD.out]; rfl
        go_upto_block 0 with fail
        go_cut [1] (fun t wx => ∃ q : Nat, Hid (q = Num.qI zs p) ∧ p < q ∧ q ≤ n ∧ t = .int .i64 q ∧ w = wx)
        case first =>
          by_cases h48 : y = 48
          · have h48' : (y == 48) = true := by simp [h48]
            have H48 : Hid (y = 48) := h48
            clear h48
            go_wp2_with (go_at_call 37; refine (dig_any y true w HD).mono ?_; rintro e w' ⟨rfl, rfl⟩)
            go_meet
            case rel => exact ⟨p + 1, by unfold Num.qI Hid; rw [← HY.out, if_pos H48.out], by omega, by omega, by go_num, rfl⟩
          · have h48' : (y == 48) = false := by simp [h48]
            obtain ⟨q, hq⟩ : ∃ q, Num.skip zs p = q := ⟨_, rfl⟩
            have HQ : Hid (Num.skip zs p = q) := hq
            have hq1 : p < q := by
              have := Num.skip_ge zs (p + 1)
              rw [Num.skip_yes zs p (by rw [← HY.out]; exact HD.out), hq] at this
              omega
            have hq2 : q ≤ n := by have := Num.skip_le zs p (by rw [L.out]; omega); rw [hq, L.out] at this; exact this
            clear hq
            go_wp2_with (first | (go_at_call 37; refine (dig_any y true w HD).mono ?_; rintro e w' ⟨rfl, rfl⟩) | (go_at_call 38; refine (end_any b o n c zs w hc L _ p q rfl HQ (by omega) hn).mono ?_; rintro e w' ⟨rfl, rfl⟩))
            go_meet
            case rel => exact ⟨q, by unfold Num.qI Hid; rw [← HY.out, if_neg h48, HQ.out], hq1, hq2, rfl, rfl⟩
        case rest =>
          clear g0
          obtain ⟨q, hq, hpq, hqn, rfl, rfl⟩ := hcut
          rw [← hq.out] at HV
          by_cases hql : q < n
          · have g0 := hc.out q hql
            obtain ⟨z, hz⟩ : ∃ z, z = Num.at0 zs q := ⟨_, rfl⟩
            rw [← hz] at g0
            have HZ : Hid (z = Num.at0 zs q) := hz
            clear hz
            have HV : Hid (v = if z = 46 then (if Num.digB (Num.at0 zs (q + 1)) then Num.endE zs (Num.skip zs (q + 1)) else (q + 1, false)) else Num.endE zs q) := by
              unfold Hid; rw [HV.out, HZ.out]; rfl
            go_upto_if 48 with fail
            go_cut [1] (fun t wx => ∃ r : Nat, Hid (v = Num.endE zs r) ∧ q ≤ r ∧ r ≤ n ∧ t = .int .i64 r ∧ w = wx)
            case first =>
              by_cases h46 : z = 46
              · have HV : Hid (v = if Num.digB (Num.at0 zs (q + 1)) then Num.endE zs (Num.skip zs (q + 1)) else (q + 1, false)) := by
                  unfold Hid; rw [HV.out, if_pos h46]
                by_cases hq1 : q + 1 < n
                · have g1 := hc.out (q + 1) hq1
                  obtain ⟨y2, hy2⟩ : ∃ y, y = Num.at0 zs (q + 1) := ⟨_, rfl⟩
                  rw [← hy2] at g1 HV
                  have HY2 : Hid (y2 = Num.at0 zs (q + 1)) := hy2
                  clear hy2
                  obtain ⟨d, hd⟩ : ∃ d, Num.digB y2 = d := ⟨_, rfl⟩
                  have HD2 : Hid (Num.digB y2 = d) := hd
                  clear hd
                  have hqb : ((q : Int) + 1 == (n : Int)) = false := by simp; omega
                  cases d
                  · have hv : v = (q + 1, false) := by rw [HV.out, HD2.out]; rfl
                    subst hv
                    go_wp2_with (go_at_call 37; refine (dig_any y2 false w HD2).mono ?_; rintro e w' ⟨rfl, rfl⟩)
                    go_ret2
                    exact ⟨by simp, rfl⟩
                  · have HV : Hid (v = Num.endE zs (Num.skip zs (q + 1))) := by unfold Hid; rw [HV.out, HD2.out]; rfl
                    obtain ⟨r, hr⟩ : ∃ r, Num.skip zs (q + 1) = r := ⟨_, rfl⟩
                    rw [hr] at HV
                    have HR : Hid (Num.skip zs (q + 1) = r) := hr
                    have hr1 : q + 1 ≤ r := hr ▸ Num.skip_ge zs (q + 1)
                    have hr2 : r ≤ n := by have := Num.skip_le zs (q + 1) (by rw [L.out]; omega); rw [hr, L.out] at this; exact this
                    clear hr
                    go_wp2_with (first | (go_at_call 37; refine (dig_any y2 true w HD2).mono ?_; rintro e w' ⟨rfl, rfl⟩) | (go_at_call 38; refine (end_any b o n c zs w hc L _ (q + 1) r (by omega) HR (by omega) hn).mono ?_; rintro e w' ⟨rfl, rfl⟩))
                    go_meet
                    case rel => exact ⟨r, HV, by omega, hr2, rfl, rfl⟩
                · have hv : v = (q + 1, false) := by rw [HV.out, out0.out (q + 1) (by omega)]; rfl
                  subst hv
                  have hqb : ((q : Int) + 1 == (n : Int)) = true := by simp; omega
                  go_wp2
                  go_ret2
                  exact ⟨by simp, rfl⟩
              · have h46' : (z == 46) = false := by simp [h46]
                go_wp2
                go_meet
                case rel => exact ⟨q, by unfold Hid; rw [HV.out, if_neg h46], by omega, by omega, rfl, rfl⟩
            case rest =>
              clear g0 HV
              obtain ⟨r, HV, hqr, hrn, rfl, rfl⟩ := hcut
              by_cases hrl : r < n
              · have g0 := hc.out r hrl
                obtain ⟨x2, hx2⟩ : ∃ y, y = Num.at0 zs r := ⟨_, rfl⟩
                rw [← hx2] at g0
                have HX2 : Hid (x2 = Num.at0 zs r) := hx2
                clear hx2
                have HV : Hid (v = if x2 = 101 ∨ x2 = 69 then (if Num.digB (Num.at0 zs (Num.dE zs r)) then (Num.skip zs (Num.dE zs r), true) else (Num.dE zs r, false)) else (r, true)) := by
                  unfold Hid; rw [HV.out, HX2.out]; rfl
                by_cases hE : x2 = 101 ∨ x2 = 69
                · have HV : Hid (v = if Num.digB (Num.at0 zs (Num.dE zs r)) then (Num.skip zs (Num.dE zs r), true) else (Num.dE zs r, false)) := by
                    unfold Hid; rw [HV.out, if_pos hE]
                  go_upto_region 13 with fail
                  go_cut [84] (fun t wx => t = .bool true ∧ w = wx)
                  case first =>
                    rcases hE with hE | hE
                    · go_wp2
                      go_meet
                      case rel => exact ⟨rfl, rfl⟩
                    · go_wp2
                      go_meet
                      case rel => exact ⟨rfl, rfl⟩
                  case rest =>
                    obtain ⟨rfl, rfl⟩ := hcut
                    clear g0 hE
                    obtain ⟨d, hd⟩ : ∃ d, d = Num.dE zs r := ⟨_, rfl⟩
                    rw [← hd] at HV
                    have HDE : Hid (d = if Num.at0 zs (r + 1) = 43 ∨ Num.at0 zs (r + 1) = 45 then r + 2 else r + 1) := by unfold Hid; rw [hd]; rfl
                    clear hd
                    by_cases hr1 : r + 1 < n
                    · have g1 := hc.out (r + 1) hr1
                      obtain ⟨y3, hy3⟩ : ∃ y, y = Num.at0 zs (r + 1) := ⟨_, rfl⟩
                      rw [← hy3] at g1 HDE
                      clear hy3
                      have hdn : r + 1 ≤ d ∧ d ≤ n := by have := HDE.out; split at this <;> omega
                      obtain ⟨hd1, hd2⟩ := hdn
                      go_upto_region 15 with fail
                      go_cut [104] (fun t wx => t = .bool (decide (y3 = 43 ∨ y3 = 45)) ∧ w = wx)
                      case first =>
                        by_cases h43 : y3 = 43
                        · go_wp2
                          go_meet
                          case rel => exact ⟨by simp [h43], rfl⟩
                        · by_cases h45 : y3 = 45
                          · go_wp2
                            go_meet
                            case rel => exact ⟨by simp [h45], rfl⟩
                          · have e1 : (y3 == 43) = false := by simp [h43]
                            have e2 : (y3 == 45) = false := by simp [h45]
                            go_wp2
                            go_meet
                            case rel => exact ⟨by simp [h43, h45], rfl⟩
                      case rest =>
                        obtain ⟨rfl, rfl⟩ := hcut
                        clear g1
                        obtain ⟨sg, hsg⟩ : ∃ sg, sg = decide (y3 = 43 ∨ y3 = 45) := ⟨_, rfl⟩
                        rw [← hsg]
                        have HSG : Hid (d = if sg = true then r + 2 else r + 1) := by
                          unfold Hid; rw [HDE.out, hsg]; simp
                        clear hsg HDE
                        go_upto_if 104 with fail
                        go_cut [1] (fun t wx => t = .int .i64 d ∧ w = wx)
                        case first =>
                          cases sg
                          · have hd : d = r + 1 := by simpa using HSG.out
                            go_wp2
                            go_meet
                            case rel => exact ⟨by rw [hd]; go_num, rfl⟩
                          · have hd : d = r + 2 := by simpa using HSG.out
                            go_wp2
                            go_meet
                            case rel => exact ⟨by rw [hd]; go_num, rfl⟩
                        case rest =>
                          obtain ⟨rfl, rfl⟩ := hcut
                          by_cases hdl : d < n
                          · have g2 := hc.out d hdl
                            obtain ⟨y4, hy4⟩ : ∃ y, y = Num.at0 zs d := ⟨_, rfl⟩
                            rw [← hy4] at g2 HV
                            clear hy4
                            obtain ⟨bd, hbd⟩ : ∃ bd, Num.digB y4 = bd := ⟨_, rfl⟩
                            have HB : Hid (Num.digB y4 = bd) := hbd
                            clear hbd
                            have hdb : ((d : Int) == (n : Int)) = false := by simp; omega
                            cases bd
                            · have hv : v = (d, false) := by rw [HV.out, HB.out]; rfl
                              subst hv
                              go_wp2_with (go_at_call 37; refine (dig_any y4 false w HB).mono ?_; rintro e w' ⟨rfl, rfl⟩)
                              go_ret2
                              exact ⟨rfl, rfl⟩
                            · obtain ⟨t, ht⟩ : ∃ t, Num.skip zs d = t := ⟨_, rfl⟩
                              have HT : Hid (Num.skip zs d = t) := ht
                              have hv : v = (t, true) := by rw [HV.out, HB.out, ht]; rfl
                              subst hv
                              clear ht
                              go_wp2_with (first | (go_at_call 37; refine (dig_any y4 true w HB).mono ?_; rintro e w' ⟨rfl, rfl⟩) | (go_at_call 38; refine (end_any b o n c zs w hc L _ d t rfl HT (by omega) hn).mono ?_; rintro e w' ⟨rfl, rfl⟩))
                              go_ret2
                              exact ⟨rfl, rfl⟩
                          · have hv : v = (d, false) := by rw [HV.out, out0.out d (by omega)]; rfl
                            subst hv
                            have hdb : ((d : Int) == (n : Int)) = true := by simp; omega
                            go_wp2
                            go_ret2
                            exact ⟨rfl, rfl⟩
                    · have hy : Num.at0 zs (r + 1) = 0 := out0.out (r + 1) (by omega)
                      have hd : d = r + 1 := by rw [HDE.out, hy, if_neg (by omega)]
                      subst hd
                      have hv : v = (r + 1, false) := by rw [HV.out, hy]; rfl
                      subst hv
                      have hrb : ((r : Int) + 1 == (n : Int)) = true := by simp; omega
                      clear HDE HV
                      go_wp2
                      go_ret2
                      exact ⟨by simp, rfl⟩
                · have hv : v = (r, true) := by rw [HV.out, if_neg hE]
                  subst hv
                  have e1 : (x2 == 101) = false := by simp; exact fun hh => hE (.inl hh)
                  have e2 : (x2 == 69) = false := by simp; exact fun hh => hE (.inr hh)
                  clear hE
                  go_wp2
                  go_ret2
                  exact ⟨rfl, rfl⟩
              · have hv : v = (r, true) := by
                  rw [HV.out]; unfold Num.endE
                  rw [out0.out r (by omega)]; rfl
                subst hv
                go_wp2
                go_ret2
                exact ⟨rfl, rfl⟩
          · have hv : v = (q, true) := by
              rw [HV.out]; unfold Num.endF Num.endE
              rw [out0.out q (by omega)]; rfl
            subst hv
            go_wp2
            go_ret2
            exact ⟨rfl, rfl⟩
    · have hv : v = (p, false) := by rw [HV.out, out0.out p (by omega)]; rfl
      subst hv
      have hpb : ((p : Int) == (n : Int)) = true := by simp; omega
      go_wp2
      go_ret2
      exact ⟨rfl, rfl⟩
end Go.Proofs.Qxb6603727a
