import Derived.Test.Qxb6603471aOwn
import Derived.Test.Qxb6603471aLpPlain
import Derived.Deep.CutBlock
import Derived.Deep.DeepCutAuto
namespace Go.Proofs.Qxb6603471a
open Go.RowKit
set_option linter.unusedSimpArgs false
set_option linter.unusedVariables false

set_option maxHeartbeats 400000 in
/-- 'appendBackslashes' -/
theorem back_any (v : Value) (zs : List Int) (k : Nat) (kv : Int) (w : World) (B : Nat) (hkv : kv = (k : Int)) (h : Hid (OwnB w B v zs)) (hB : B ≤ w.heap.size) (hl : zs.length + k ≤ 1073741824) :
    Calls Try.prog 44 #[v, .int .i64 kv] w fun e w' => ∃ v', e = .returned v' ∧ Hid (OwnB w' B v' (zs ++ Lp.bs k)) ∧ Below B w w' := by
  subst hkv
  obtain ⟨i0, hi, hz0, hz1, hz2⟩ := info_parts Try.info5
  go_enter Try.func44, Try.ntmps44
  go_wp2
  go_loopw [0, 5] (fun u t wr => ∃ j : Nat, j ≤ k ∧ t = .int .i64 j ∧ Hid (OwnB wr B u (zs ++ Lp.bs j)) ∧ Below B w wr) (fun _ t _ => k - (intOf t).toNat)
  case atStart => exact ⟨0, Nat.zero_le _, rfl, by unfold Hid; rw [Lp.bs_zero, List.append_nil]; exact h.out, Below.refl _ _⟩
  case round =>
    obtain ⟨j, hj, rfl, HO, hb⟩ := hrel
    by_cases hlt : j < k
    · obtain ⟨ys, hy⟩ : ∃ ys, ys = zs ++ Lp.bs j := ⟨_, rfl⟩
      have hyl : ys.length ≤ zs.length + k := by rw [hy]; simp [Lp.bs_len]; omega
      rw [← hy] at HO
      have HY : Hid (ys = zs ++ Lp.bs j) := hy
      clear hy
      have hown := HO.out
      unfold OwnB at hown
      go_wp2_with (at_builtin; refine wpList_append_own_at _ rfl _ _ 22 rfl B 5 i0 (.int .u8 0) 1 1 Try.underlying22 hi hz0 hz1 hz2 rfl (by decide) _ _ _ rfl (hown.alloc _) ⟨wr.heap.size, 0, none⟩ 1 1 [.int .u8 92] rfl rfl (cell_one_new _ _ _) (by intro u hu; simp at hu; subst hu; rfl) (by unfold maxLen; omega) (by omega) (by have := hb.size; simp; omega) ?_)
      intro v' w2 hown' hgrow _ hat
      have hb' := (hb.alloc (by have := hb.size; omega) _).grown hgrow (by have := hb.size; simp; omega) (fun g hg => (hown.lt g hg).1)
      have HO' : Hid (OwnB w2 B v' (zs ++ Lp.bs (j + 1))) := by
        unfold Hid OwnB
        rw [← Lp.bs_snoc, ← List.append_assoc, ← HY.out]
        simpa using hown'
      clear hgrow hat hown hown' HO
      go_wp2
      go_roundw
      case rel => exact ⟨j + 1, by omega, by go_num, HO', hb'⟩
      case measure => simp [intOf]; omega
    · obtain rfl : j = k := by omega
      go_wp2
      go_ret
      exact ⟨_, rfl, HO, hb⟩

theorem _root_.Go.World.ownsRow.mono_base {w : World} {B B' : Nat} {e : TypeId} {size : Nat} {v : Value} {n : Nat} {xs : List Value} (h : w.ownsRow B e size v n xs) (hB : B' ≤ B) : w.ownsRow B' e size v n xs := by
  refine ⟨h.1, h.2.imp_right ?_⟩
  rintro ⟨g, cap, cur, h1, h2, h3⟩
  exact ⟨g, cap, cur, h1, Nat.le_trans hB h2, h3⟩

set_option maxRecDepth 100000 in
set_option maxHeartbeats 1000000 in
/-- 'lpModelName' -/
theorem model_any (ao : Option Addr) (n c pos : Nat) (zs : List Int) (Ea Da : Array Value) (E D : Int → Bool) (w : World) (h : Hid (Rd w ao n zs)) (hby : Hid (∀ k, 0 ≤ Json.at0 zs k ∧ Json.at0 zs k ≤ 255))
    (hE : Hid (∀ x : Int, 0 ≤ x → x ≤ 255 → Ea[x.toNat]? = some (.bool (E x)))) (hD : Hid (∀ x : Int, 0 ≤ x → x ≤ 255 → Da[x.toNat]? = some (.bool (D x))))
    (hp : pos ≤ n) (hn : n ≤ 1048576) :
    Calls Try.prog 22 #[.slice ao n c, .int .i64 pos, .agg Ea, .agg Da] w fun e w' => ∃ v, e = .returned (.tuple #[v, .int .u8 (Lp.mda E D zs pos 0).2.1, .int .i64 (Lp.mda E D zs pos 0).2.2]) ∧ OwnB w' w.heap.size v (Lp.mda E D zs pos 0).1 ∧ Below w.heap.size w w' := by
  obtain ⟨i0, hi, hz0, hz1, hz2⟩ := info_parts Try.info5
  obtain ⟨r, hr⟩ : ∃ r, r = Lp.mda E D zs pos 0 := ⟨_, rfl⟩
  rw [← hr]
  have HR : Hid (r = Lp.mda E D zs pos 0) := hr
  have L : Hid (zs.length = n) := h.out.1
  clear hr
  go_enter Try.func22, Try.ntmps22
  obtain ⟨W0, hW0⟩ : ∃ W0, W0 = (w.alloc (.cells Ea 31)).alloc (.cells Da 31) := ⟨_, rfl⟩
  have hs0 : W0.heap.size = w.heap.size + 2 := by rw [hW0]; simp
  have hbW : Below w.heap.size w W0 := by rw [hW0]; exact ((Below.refl _ _).alloc (Nat.le_refl _) _).alloc (by simp) _
  have cE : Hid (∀ x : Int, 0 ≤ x → x ≤ 255 → W0.cell? ⟨w.heap.size, x.toNat, none⟩ = some (.bool (E x))) := by
    intro x h0 h1
    have e : W0.heap[w.heap.size]? = some (.cells Ea 31 (0, 0)) := by rw [hW0]; exact heap_alloc2_old _ _ _
    rw [cell_of_row W0 _ _ Ea 31 (0, 0) e]; exact hE.out x h0 h1
  have cD : Hid (∀ x : Int, 0 ≤ x → x ≤ 255 → W0.cell? ⟨w.heap.size + 1, x.toNat, none⟩ = some (.bool (D x))) := by
    intro x h0 h1
    have e : W0.heap[w.heap.size + 1]? = some (.cells Da 31 (0, 0)) := by rw [hW0]; exact heap_alloc2_new _ _ _
    rw [cell_of_row W0 _ _ Da 31 (0, 0) e]; exact hD.out x h0 h1
  have HRd : Hid (Rd W0 ao n zs) := h.out.below hbW
  go_upto_region 1 with fail
  rw [← hW0]
  clear hW0
  have HS0 : Hid (W0.heap.size = w.heap.size + 2) := hs0
  clear hs0
  go_wp2_with (at_make; refine wpList_make_own _ rfl _ _ 22 rfl W0.heap.size 5 i0 (.int .u8 0) 1 Try.underlying22 hi hz0 hz1 _ _ _ (n - pos) rfl rfl (by omega) ?_ ?_ (Nat.le_refl _) ?_)
  · rw [hz2]; omega
  · unfold maxLen; omega
  · intro w1 hown hgrow
    have hb1 : Below W0.heap.size W0 w1 := (Below.refl _ _).grown hgrow (Nat.le_refl _) (by intro k hk; cases hk)
    have HO1 : Hid (OwnB w1 W0.heap.size (.slice (some ⟨W0.heap.size, 0, none⟩) 0 (n - pos)) []) := hown
    clear hown hgrow
    go_upto_block 0 with fail
    go_cut [11, 12] (fun v k wr => ∃ (m : Nat) (outs : List Int), k = .int .i64 m ∧ outs.length + m ≤ n ∧ Hid (r = (outs ++ Lp.bs m, 0, n)) ∧ Hid (OwnB wr W0.heap.size v outs) ∧ Below W0.heap.size W0 wr)
    case first =>
      go_wp2_with fail
      go_loopw [11, 12, 13] (fun v k t wr => ∃ (i m : Nat) (outs : List Int), pos ≤ i ∧ i ≤ n ∧ k = .int .i64 m ∧ t = .int .i64 i ∧ outs.length + m ≤ i ∧ Hid (r = Lp.ahead outs (Lp.mda E D zs i m)) ∧ Hid (OwnB wr W0.heap.size v outs) ∧ Below W0.heap.size W0 wr) (fun _ _ t _ => n - (intOf t).toNat)
      case atStart => exact ⟨pos, 0, [], by omega, hp, rfl, rfl, by simp, by unfold Hid; rw [Lp.ahead_nil]; exact HR.out, HO1, hb1⟩
      case round =>
        clear HO1 hb1 HR
        obtain ⟨i, m, outs, hpi, hin, rfl, rfl, hol, HR, HO, hb⟩ := hrel
        by_cases hlt : i < n
        · obtain ⟨b, o, rfl, hcell⟩ := HRd.out.2.resolve_left (by omega)
          have g0 : wr.cell? ⟨b, o + i, none⟩ = some (.int .u8 (Json.at0 zs i)) := (hb.cell (World.block_lt_of_cell? W0 _ (hcell i hlt))).trans (hcell i hlt)
          obtain ⟨hx0, hx1⟩ := hby.out i
          have M1 : Hid (Json.at0 zs i = 92 → Lp.mda E D zs i m = Lp.mda E D zs (i + 1) (m + 1)) := Lp.mda_bs E D zs i m (by rw [L.out]; exact hlt)
          have M2 : Hid (¬ Json.at0 zs i = 92 → E (Json.at0 zs i) = true → m % 2 = 1 → Lp.mda E D zs i m = Lp.ahead (Lp.bs (m / 2) ++ [Json.at0 zs i]) (Lp.mda E D zs (i + 1) 0)) := Lp.mda_odd E D zs i m (by rw [L.out]; exact hlt)
          have M3 : Hid (¬ Json.at0 zs i = 92 → E (Json.at0 zs i) = true → ¬ m % 2 = 1 → Lp.mda E D zs i m = Lp.ahead (Lp.bs (m / 2)) (Lp.mda E D zs i 0)) := Lp.mda_even E D zs i m (by rw [L.out]; exact hlt)
          have M4 : Hid (¬ Json.at0 zs i = 92 → E (Json.at0 zs i) = false → Lp.mda E D zs i m = Lp.ahead (Lp.bs m) (Lp.mda E D zs i 0)) := Lp.mda_plain E D zs i m (by rw [L.out]; exact hlt)
          have M5 : Hid (¬ Json.at0 zs i = 92 → D (Json.at0 zs i) = true → Lp.mda E D zs i 0 = ([], Json.at0 zs i, i)) := Lp.mda_end E D zs i (by rw [L.out]; exact hlt)
          have M6 : Hid (¬ Json.at0 zs i = 92 → D (Json.at0 zs i) = false → Lp.mda E D zs i 0 = Lp.ahead [Json.at0 zs i] (Lp.mda E D zs (i + 1) 0)) := Lp.mda_go E D zs i (by rw [L.out]; exact hlt)
          have gE : wr.cell? ⟨w.heap.size, (Json.at0 zs i).toNat, none⟩ = some (.bool (E (Json.at0 zs i))) := (hb.cell (by have := HS0.out; simp; omega)).trans (cE.out _ hx0 hx1)
          have gD : wr.cell? ⟨w.heap.size + 1, (Json.at0 zs i).toNat, none⟩ = some (.bool (D (Json.at0 zs i))) := (hb.cell (by have := HS0.out; simp; omega)).trans (cD.out _ hx0 hx1)
          obtain ⟨x, hx⟩ : ∃ x, x = Json.at0 zs i := ⟨_, rfl⟩
          rw [← hx] at g0 hx0 hx1 M1 M2 M3 M4 M5 M6 gE gD
          clear hx hcell
          obtain ⟨ex, hex⟩ : ∃ ex, ex = E x := ⟨_, rfl⟩
          obtain ⟨dx, hdx⟩ : ∃ dx, dx = D x := ⟨_, rfl⟩
          rw [← hex] at gE M2 M3 M4
          rw [← hdx] at gD M5 M6
          clear hex hdx
          have hbl : W0.heap.size ≤ wr.heap.size := hb.size
          by_cases h92 : x = 92
          · go_wp2
            go_roundw
            case rel => exact ⟨i + 1, m + 1, outs, by omega, by omega, by go_num, by go_num, by omega, by unfold Hid; rw [HR.out, M1.out h92], HO, hb⟩
            case measure => simp [intOf]; omega
          · have h92b : (x == 92) = false := by simp [h92]
            go_upto_if 36 with fail
            go_cut [11, 12, 13] (fun v k t wx => ∃ outs' : List Int, k = .int .i64 0 ∧ t = .int .i64 i ∧ outs'.length ≤ i ∧ Hid (r = Lp.ahead outs' (Lp.mda E D zs i 0)) ∧ Hid (OwnB wx W0.heap.size v outs') ∧ Below W0.heap.size W0 wx)
            case first =>
              by_cases hm0 : m = 0
              · subst hm0
                go_wp2
                go_meet
                case rel => exact ⟨outs, rfl, rfl, by omega, HR, HO, hb⟩
              · have hm1 : 0 < m := by omega
                cases ex
                · have HR' : Hid (r = Lp.ahead (outs ++ Lp.bs m) (Lp.mda E D zs i 0)) := by unfold Hid; rw [HR.out, M4.out h92 (by first | rfl | trivial), Lp.ahead_ahead]
                  go_wp2_with fail
                  refine (back_any _ outs m _ wr W0.heap.size rfl HO hbl (by omega)).mono ?_
                  rintro e w2 ⟨v', rfl, HO2, hb2⟩
                  go_wp2
                  go_meet
                  case rel => exact ⟨outs ++ Lp.bs m, rfl, rfl, by simp [Lp.bs_len]; omega, HR', HO2, hb.trans hb2⟩
                · go_wp2_with fail
                  refine (back_any _ outs (m / 2) _ wr W0.heap.size (by omega) HO hbl (by omega)).mono ?_
                  rintro e w2 ⟨v', rfl, HO2, hb2⟩
                  have hb2' : Below W0.heap.size W0 w2 := hb.trans hb2
                  have hlen : (outs ++ Lp.bs (m / 2)).length ≤ i := by simp [Lp.bs_len]; omega
                  obtain ⟨ys, hys⟩ : ∃ ys, ys = outs ++ Lp.bs (m / 2) := ⟨_, rfl⟩
                  rw [← hys] at HO2 hlen
                  by_cases hodd : m % 2 = 1
                  · have HR' : Hid (r = Lp.ahead (ys ++ [x]) (Lp.mda E D zs (i + 1) 0)) := by unfold Hid; rw [HR.out, M2.out h92 (by first | rfl | trivial) hodd, Lp.ahead_ahead, hys]; simp
                    clear hys
                    have hod : (m : Int) % 2 = 1 := by omega
                    have hown := HO2.out
                    unfold OwnB at hown
                    go_wp2_with (at_builtin; refine wpList_append_own_at _ rfl (.tmp 47) (.tmp 49) 22 rfl W0.heap.size 5 i0 (.int .u8 0) 1 1 Try.underlying22 hi hz0 hz1 hz2 rfl (by decide) _ _ _ rfl (hown.alloc _) ⟨w2.heap.size, 0, none⟩ 1 1 [.int .u8 x] rfl rfl (cell_one_new _ _ _) (by intro u hu; simp at hu; subst hu; rfl) (by unfold maxLen; omega) (by omega) (by have := hb2'.size; simp; omega) ?_)
                    intro v2 w3 hown' hgrow _ hat
                    have hb3 := (hb2'.alloc hb2'.size _).grown hgrow (by have := hb2'.size; simp; omega) (fun g hg => (hown.lt g hg).1)
                    have HO3 : Hid (OwnB w3 W0.heap.size v2 (ys ++ [x])) := by unfold Hid OwnB; simpa using hown'
                    clear hgrow hat hown hown'
                    go_wp2
                    go_roundw
                    case rel => exact ⟨i + 1, 0, ys ++ [x], by omega, by omega, rfl, by go_num, by simp; omega, HR', HO3, hb3⟩
                    case measure => simp [intOf]; omega
                  · have HR' : Hid (r = Lp.ahead ys (Lp.mda E D zs i 0)) := by unfold Hid; rw [HR.out, M3.out h92 (by first | rfl | trivial) hodd, Lp.ahead_ahead, hys]
                    clear hys
                    have hod : (m : Int) % 2 = 0 := by omega
                    go_wp2
                    go_meet
                    case rel => exact ⟨ys, rfl, rfl, hlen, HR', HO2, hb2'⟩
            case rest =>
              have gD0 := gD
              clear HR HO M1 M2 M3 M4 gE g0 gD hol hbl
              obtain ⟨ys, rfl, rfl, hyl, HR, HO, hb'⟩ := hcut
              have gD : wc.cell? ⟨w.heap.size + 1, x.toNat, none⟩ = some (.bool dx) := (hb'.cell (by have := HS0.out; simp; omega)).trans ((hb.cell (by have := HS0.out; simp; omega)).symm.trans gD0)
              cases dx
              · have HR' : Hid (r = Lp.ahead (ys ++ [x]) (Lp.mda E D zs (i + 1) 0)) := by unfold Hid; rw [HR.out, M6.out h92 (by first | rfl | trivial), Lp.ahead_ahead]
                have hown := HO.out
                unfold OwnB at hown
                go_wp2_with (at_builtin; refine wpList_append_own_at _ rfl (.tmp 62) (.tmp 64) 22 rfl W0.heap.size 5 i0 (.int .u8 0) 1 1 Try.underlying22 hi hz0 hz1 hz2 rfl (by decide) _ _ _ rfl (hown.alloc _) ⟨wc.heap.size, 0, none⟩ 1 1 [.int .u8 x] rfl rfl (cell_one_new _ _ _) (by intro u hu; simp at hu; subst hu; rfl) (by unfold maxLen; omega) (by omega) (by have := hb'.size; simp; omega) ?_)
                intro v2 w3 hown' hgrow _ hat
                have hb3 := (hb'.alloc hb'.size _).grown hgrow (by have := hb'.size; simp; omega) (fun g hg => (hown.lt g hg).1)
                have HO3 : Hid (OwnB w3 W0.heap.size v2 (ys ++ [x])) := by unfold Hid OwnB; simpa using hown'
                clear hgrow hat hown hown'
                go_wp2
                go_roundw
                case rel => exact ⟨i + 1, 0, ys ++ [x], by omega, by omega, rfl, by go_num, by simp; omega, HR', HO3, hb3⟩
                case measure => simp [intOf]; omega
              · have HR' : Hid (r = (ys, x, i)) := by unfold Hid; rw [HR.out, M5.out h92 (by first | rfl | trivial)]; simp [Lp.ahead]
                go_wp2
                go_ret3
                refine ⟨u11, ?_, ?_, ?_⟩
                · rw [HR'.out]; rfl
                · rw [HR'.out]
                  have := HO.out
                  unfold OwnB at this ⊢
                  exact this.mono_base (by have := HS0.out; omega)
                · exact hbW.trans (hb'.mono (by have := HS0.out; omega))
        · obtain rfl : i = n := by omega
          go_wp2
          go_meet
          case rel =>
            refine ⟨m, outs, rfl, by omega, ?_, HO, hb⟩
            unfold Hid
            rw [HR.out, Lp.mda_out E D zs i m (by rw [L.out]; omega)]
            rfl
    case rest =>
      obtain ⟨m, outs, rfl, hml, HR2, HO, hb⟩ := hcut
      go_wp2_with fail
      refine (back_any _ outs m _ wc W0.heap.size rfl HO hb.size (by omega)).mono ?_
      rintro e w2 ⟨v', rfl, HO2, hb2⟩
      go_wp2
      go_ret3
      refine ⟨v', ?_, ?_, ?_⟩
      · rw [HR2.out]; rfl
      · rw [HR2.out]
        have := HO2.out
        unfold OwnB at this ⊢
        exact this.mono_base (by have := HS0.out; omega)
      · exact hbW.trans ((hb.trans hb2).mono (by have := HS0.out; omega))
end Go.Proofs.Qxb6603471a
