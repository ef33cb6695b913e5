import Derived.Test.Qxb6603471aLpRead
import Derived.Deep.CutBlock
import Derived.Deep.DeepCutAuto
import Derived.Deep.RegionLaw
import Derived.Test.Qxb6603471aUntil
import Derived.Deep.Light
namespace Go.Proofs.Qxb6603471a
open Go.RowKit
set_option linter.unusedSimpArgs false
set_option linter.unusedVariables false

/-- What a call of 'nameBytes' is told of the memory. -/
structure Pre (R Eb Db : Nat) (ao : Option Addr) (n c : Nat) (T0 : Option Nat) (ta : Option Addr) (tn tc : Nat) (pos : Nat) (zs : List Int) (E D : Int → Bool) (w : World) : Prop where
  row : w.heap[R]? = some (.cells #[.slice ao n c, .int .i64 pos, .int .i64 0, .slice ta tn tc, .map none] 79 (0, 0))
  own : OwnB w 0 (.slice ta 0 tc) []
  form : (ta = none ∧ tn = 0 ∧ tc = 0) ∨ ∃ T, ta = some ⟨T, 0, none⟩
  t0 : (Value.slice ta 0 tc).ownBlock = T0
  t0R : T0 ≠ some R
  rd : Rd w ao n zs
  inR : ∀ b o, ao = some ⟨b, o, none⟩ → b ≠ R ∧ some b ≠ T0
  eR : Eb ≠ R ∧ some Eb ≠ T0 ∧ Eb < w.heap.size
  dR : Db ≠ R ∧ some Db ≠ T0 ∧ Db < w.heap.size
  e : ∀ x : Int, 0 ≤ x → x ≤ 255 → w.cell? ⟨Eb, x.toNat, none⟩ = some (.bool (E x))
  d : ∀ x : Int, 0 ≤ x → x ≤ 255 → w.cell? ⟨Db, x.toNat, none⟩ = some (.bool (D x))
  bytes : ∀ k, 0 ≤ Json.at0 zs k ∧ Json.at0 zs k ≤ 255

section
variable {R Eb Db : Nat} {ao : Option Addr} {n c : Nat} {T0 : Option Nat} {ta : Option Addr} {tn tc pos : Nat} {zs : List Int} {E D : Int → Bool} {w : World}

theorem Pre.st (h : Pre R Eb Db ao n c T0 ta tn tc pos zs E D w) : St R (.slice ao n c) T0 w (w.setCell ⟨R, 3, none⟩ (.slice ta 0 tc)) pos (.slice ta 0 tc) [] := by
  have hne : (Value.slice ta 0 tc).ownBlock ≠ some R := by rw [h.t0]; exact h.t0R
  exact ⟨by rw [heap_setCell_same w R 3 _ _ _ h.row]; rfl, ownB_set h.own hne, hne, .inl h.t0, (Fr.refl _ _ _).set 3 _⟩

theorem Pre.rdAt (h : Pre R Eb Db ao n c T0 ta tn tc pos zs E D w) {wr : World} {p : Nat} {tv : Value} {ts : List Int} (s : St R (.slice ao n c) T0 w wr p tv ts) : Rd wr ao n zs := by
  refine ⟨h.rd.1, h.rd.2.imp_right ?_⟩
  rintro ⟨b, o, rfl, hc⟩
  refine ⟨b, o, rfl, fun i hi => ?_⟩
  have := h.inR b o rfl
  rw [s.old (World.block_lt_of_cell? w _ (hc i hi)) this.1 this.2]
  exact hc i hi
theorem Pre.eAt (h : Pre R Eb Db ao n c T0 ta tn tc pos zs E D w) {wr : World} {p : Nat} {tv : Value} {ts : List Int} (s : St R (.slice ao n c) T0 w wr p tv ts) (x : Int) (h0 : 0 ≤ x) (h1 : x ≤ 255) :
    wr.cell? ⟨Eb, x.toNat, none⟩ = some (.bool (E x)) := (s.old h.eR.2.2 h.eR.1 h.eR.2.1 _).trans (h.e x h0 h1)
theorem Pre.dAt (h : Pre R Eb Db ao n c T0 ta tn tc pos zs E D w) {wr : World} {p : Nat} {tv : Value} {ts : List Int} (s : St R (.slice ao n c) T0 w wr p tv ts) (x : Int) (h0 : 0 ≤ x) (h1 : x ≤ 255) :
    wr.cell? ⟨Db, x.toNat, none⟩ = some (.bool (D x)) := (s.old h.dR.2.2 h.dR.1 h.dR.2.1 _).trans (h.d x h0 h1)
end

def NamePost (R : Nat) (T0 : Option Nat) (w : World) (r : List Int × Int × Nat) (e : Ending) (w' : World) : Prop :=
  ∃ (a' : Option Addr) (l' c' : Nat), e = .returned (.tuple #[.slice a' l' c', .int .u8 r.2.1]) ∧ Rd w' a' l' r.1 ∧ w'.cell? ⟨R, 1, none⟩ = some (.int .i64 r.2.2) ∧ Fr R T0 w w'

theorem rd_cells {w : World} {b o n : Nat} {zs : List Int} (h : Rd w (some ⟨b, o, none⟩) n zs) : ∀ j u, (zs.map (Value.int .u8))[j]? = some u → w.cell? ((⟨b, o, none⟩ : Addr).add j) = some u := by
  intro j u hj
  have hjl : j < zs.length := by
    have := (List.getElem?_eq_some_iff.1 hj).1
    simpa using this
  obtain ⟨b', o', e', hc⟩ := h.2.resolve_left (by have := h.1; omega)
  simp only [Option.some.injEq, Addr.mk.injEq, and_true] at e'
  obtain ⟨rfl, rfl⟩ := e'
  rw [Addr.add_lit, hc j (by have := h.1; omega), ← hj]
  simp [List.getD, hjl]

theorem name_fin {R : Nat} {iv : Value} {T0 : Option Nat} {w wr : World} {p : Nat} {tv : Value} {ts : List Int} {r : List Int × Int × Nat} {l : List Int} {x : Int} {a' : Option Addr} {l' c' : Nat}
    (hs : St R iv T0 w wr p tv ts) (hrd : Rd wr a' l' l) (hr : r = (l, x, p)) (M : Nat) : NamePost R T0 w r (.returned (.tuple #[.slice a' l' c', .int .u8 x])) (wr.drewN M) := by
  rw [hr]
  exact ⟨a', l', c', rfl, hrd, hs.c1, hs.fr.drewN M⟩

set_option maxRecDepth 100000 in
set_option maxHeartbeats 6000000 in
/-- 'nameBytes' -/
theorem name_any (R Eb Db : Nat) (ao : Option Addr) (n c : Nat) (T0 : Option Nat) (ta : Option Addr) (tn tc pos : Nat) (zs : List Int) (E D : Int → Bool) (w : World)
    (h : Hid (Pre R Eb Db ao n c T0 ta tn tc pos zs E D w)) (hp : pos ≤ n) (hnc : n ≤ c) (hn : n ≤ 1048576) (htc : tn ≤ tc) :
    Calls Try.prog 43 #[.pointer (some ⟨R, 0, none⟩), .pointer (some ⟨Eb, 0, none⟩), .pointer (some ⟨Db, 0, none⟩)] w fun e w' => NamePost R T0 w (Lp.mda E D zs pos 0) e w' := by
  obtain ⟨i0, hi, hz0, hz1, hz2⟩ := info_parts Try.info5
  obtain ⟨r, hr⟩ : ∃ r, r = Lp.mda E D zs pos 0 := ⟨_, rfl⟩
  rw [← hr]
  have HR : Hid (r = Lp.mda E D zs pos 0) := hr
  have L : Hid (zs.length = n) := h.out.rd.1
  clear hr
  have g0 : w.cell? ⟨R, 0, none⟩ = some (.slice ao n c) := by rw [cell_of_row w R 0 _ _ _ h.out.row]; rfl
  have g1 : w.cell? ⟨R, 1, none⟩ = some (.int .i64 pos) := by rw [cell_of_row w R 1 _ _ _ h.out.row]; rfl
  have g3 : w.cell? ⟨R, 3, none⟩ = some (.slice ta tn tc) := by rw [cell_of_row w R 3 _ _ _ h.out.row]; rfl
  have gf : w.frozen? ⟨R, 3, none⟩ = false := frozen_of_row w R 3 _ _ h.out.row
  go_enter Try.func43, Try.ntmps43
  go_upto_region 2 with fail
  go_cut [] (fun wx => Hid (St R (.slice ao n c) T0 w wx pos (.slice ta 0 tc) []))
  case first =>
    as_aux_lemma =>
      have HST : Hid (St R (.slice ao n c) T0 w (w.setCell ⟨R, 3, none⟩ (.slice ta 0 tc)) pos (.slice ta 0 tc) []) := h.out.st
      rcases h.out.form with ⟨rfl, rfl, rfl⟩ | ⟨T, rfl⟩
      · go_wp2
        go_meet
        case rel => exact HST
      · by_cases htc0 : tc = 0
        · subst htc0
          go_wp2
          go_meet
          case rel => exact HST
        · go_wp2
          go_meet
          case rel => exact HST
  case rest =>
    clear g0 g1 g3 gf
    go_wp2_with fail
    go_loopg [9] (n - pos) (fun k esc wr => ∃ (p : Nat) (e : Bool) (tv : Value) (ts : List Int), pos ≤ p ∧ p ≤ n ∧ k = n - p ∧ esc = .bool e ∧ Hid (St R (.slice ao n c) T0 w wr p tv ts) ∧ ts.length ≤ p ∧ Hid (e = false → ts = []) ∧ Hid (r = Lp.ahead (cur zs pos e ts p) (Lp.mda E D zs p 0)))
    case atStart =>
      refine ⟨pos, false, _, [], Nat.le_refl _, hp, rfl, rfl, hcut, by simp, fun _ => rfl, ?_⟩
      unfold Hid cur
      rw [HR.out]
      simp [Json.seg_nil, Lp.ahead_nil]
    case round =>
      clear hcut HR
      obtain ⟨p, e, tv, ts, hpp, hpn, rfl, rfl, HS, htl, HT, HR⟩ := hrel
      have g0 := HS.out.c0
      have g1 := HS.out.c1
      have g3 := HS.out.c3
      have gf1 := HS.out.fz 1
      have gf3 := HS.out.fz 3
      by_cases hlt : p < n
      · obtain ⟨b, o, hao, hcell⟩ := (h.out.rdAt HS.out).2.resolve_left (by omega)
        have gi : wr.cell? ⟨b, o + p, none⟩ = some (.int .u8 (Json.at0 zs p)) := hcell p hlt
        obtain ⟨hx0, hx1⟩ := h.out.bytes p
        have gD := h.out.dAt HS.out (Json.at0 zs p) hx0 hx1
        have M5 : Hid (¬ Json.at0 zs p = 92 → D (Json.at0 zs p) = true → Lp.mda E D zs p 0 = ([], Json.at0 zs p, p)) := Lp.mda_end E D zs p (by rw [L.out]; exact hlt)
        have M6 : Hid (¬ Json.at0 zs p = 92 → D (Json.at0 zs p) = false → Lp.mda E D zs p 0 = Lp.ahead [Json.at0 zs p] (Lp.mda E D zs (p + 1) 0)) := Lp.mda_go E D zs p (by rw [L.out]; exact hlt)
        have SG : Hid (Json.seg zs pos (p + 1) = Json.seg zs pos p ++ [Json.at0 zs p]) := Lp.seg_snoc zs pos p hpp (by rw [L.out]; exact hlt)
        obtain ⟨x, hx⟩ : ∃ x, x = Json.at0 zs p := ⟨_, rfl⟩
        rw [← hx] at gi hx0 hx1 M5 M6 SG gD
        have HX : Hid (x = Json.at0 zs p) := hx
        clear hx hcell
        subst hao
        by_cases h92 : x = 92
        · go_wp2
          go_quiet (fail)
          go_wp2
          go_quiet (fail)
          clear M5 M6 SG gD
          go_upto_block 3 with fail
          go_cut [] (fun wx => ∃ p2 : Nat, p ≤ p2 ∧ p2 ≤ n ∧ Hid (p < p2) ∧ Hid (p2 < n → ¬ Json.at0 zs p2 = 92) ∧ Hid (Json.seg zs p p2 = Lp.bs (p2 - p)) ∧ Hid (Lp.mda E D zs p 0 = Lp.mda E D zs p2 (p2 - p)) ∧ Hid (St R (.slice (some ⟨b, o, none⟩) n c) T0 w wx p2 tv ts))
          case first =>
            as_aux_lemma =>
              clear g0 g1 g3 gf1 gf3 gi
              go_wp2_with fail
              go_loopg [] (n - p) (fun k wq => ∃ p2 : Nat, p ≤ p2 ∧ p2 ≤ n ∧ k = n - p2 ∧ Hid (Json.seg zs p p2 = Lp.bs (p2 - p)) ∧ Hid (Lp.mda E D zs p 0 = Lp.mda E D zs p2 (p2 - p)) ∧ Hid (St R (.slice (some ⟨b, o, none⟩) n c) T0 w wq p2 tv ts))
              case atStart =>
                refine ⟨p, Nat.le_refl _, hpn, rfl, ?_, ?_, HS.out.drewN _⟩
                · unfold Hid; rw [Json.seg_nil, Nat.sub_self]; rfl
                · unfold Hid; rw [Nat.sub_self]
              case round =>
                obtain ⟨p2, hp2, hp2n, rfl, HSG, HMD, HS2⟩ := hrel
                have q0 := HS2.out.c0
                have q1 := HS2.out.c1
                have qf1 := HS2.out.fz 1
                by_cases hl2 : p2 < n
                · obtain ⟨b2, o2, e2, hcell2⟩ := (h.out.rdAt HS2.out).2.resolve_left (by omega)
                  simp only [Option.some.injEq, Addr.mk.injEq, and_true] at e2
                  obtain ⟨rfl, rfl⟩ := e2
                  have gi2 : wr.cell? ⟨b, o + p2, none⟩ = some (.int .u8 (Json.at0 zs p2)) := hcell2 p2 hl2
                  clear hcell2
                  have S2 : Hid (Json.seg zs p (p2 + 1) = Json.seg zs p p2 ++ [Json.at0 zs p2]) := Lp.seg_snoc zs p p2 hp2 (by rw [L.out]; exact hl2)
                  have M1 : Hid (Json.at0 zs p2 = 92 → Lp.mda E D zs p2 (p2 - p) = Lp.mda E D zs (p2 + 1) (p2 - p + 1)) := Lp.mda_bs E D zs p2 (p2 - p) (by rw [L.out]; exact hl2)
                  obtain ⟨y, hy⟩ : ∃ y, y = Json.at0 zs p2 := ⟨_, rfl⟩
                  rw [← hy] at gi2 S2 M1
                  have HY : Hid (y = Json.at0 zs p2) := hy
                  clear hy
                  have hld : decide ((p2 : Int) < (n : Int)) = true := by simp; omega
                  by_cases hy92 : y = 92
                  · have hyb : (y == 92) = true := by simp [hy92]
                    go_wp2
                    go_quiet (fail)
                    go_wp2
                    go_roundg (n - (p2 + 1))
                    case measure => omega
                    case rel =>
                      refine ⟨p2 + 1, by omega, by omega, rfl, ?_, ?_, (HS2.out.drewN _).pos (p2 + 1)⟩
                      · unfold Hid; rw [S2.out, HSG.out, hy92, Lp.bs_snoc, show p2 + 1 - p = p2 - p + 1 by omega]
                      · unfold Hid; rw [HMD.out, M1.out hy92, show p2 + 1 - p = p2 - p + 1 by omega]
                  · have hyb : (y == 92) = false := by simp [hy92]
                    go_wp2
                    go_quiet (fail)
                    go_wp2
                    go_meet
                    case rel =>
                      refine ⟨p2, hp2, hp2n, ?_, ?_, HSG, HMD, HS2.out.drewN _⟩
                      · unfold Hid
                        apply Classical.byContradiction; intro hn2
                        obtain rfl : p = p2 := by omega
                        exact hy92 (by rw [HY.out, ← HX.out]; exact h92)
                      · intro _; rw [← HY.out]; exact hy92
                · have hld : decide ((p2 : Int) < (n : Int)) = false := by simp; omega
                  go_wp2
                  go_quiet (fail)
                  go_wp2
                  go_meet
                  case rel => exact ⟨p2, hp2, hp2n, by unfold Hid; omega, by intro hh; omega, HSG, HMD, HS2.out.drewN _⟩
          case rest =>
            clear g0 g1 g3 gf1 gf3 gi HS
            obtain ⟨p2, hp2, hp2n, HP2, HNB, HSG, HMD, HS⟩ := hcut
            have hpl2 : p < p2 := HP2.out
            have g0 := HS.out.c0
            have g1 := HS.out.c1
            have g3 := HS.out.c3
            have gf1 := HS.out.fz 1
            have gf3 := HS.out.fz 3
            go_upto_region 10 with fail
            go_cut [108] (fun v wx => ∃ pl : Bool, v = .bool pl ∧ Hid (pl = true → Lp.mda E D zs p2 (p2 - p) = Lp.ahead (Lp.bs (p2 - p)) (Lp.mda E D zs p2 0)) ∧ Hid (pl = false → p2 < n ∧ E (Json.at0 zs p2) = true) ∧ Hid (St R (.slice (some ⟨b, o, none⟩) n c) T0 w wx p2 tv ts))
            case first =>
              as_aux_lemma =>
                by_cases hl2 : p2 < n
                · obtain ⟨b2, o2, e2, hcell2⟩ := (h.out.rdAt HS.out).2.resolve_left (by omega)
                  simp only [Option.some.injEq, Addr.mk.injEq, and_true] at e2
                  obtain ⟨rfl, rfl⟩ := e2
                  have gi2 : wc.cell? ⟨b, o + p2, none⟩ = some (.int .u8 (Json.at0 zs p2)) := hcell2 p2 hl2
                  clear hcell2
                  obtain ⟨hy0, hy1⟩ := h.out.bytes p2
                  have gE := h.out.eAt HS.out (Json.at0 zs p2) hy0 hy1
                  have M4 : Hid (E (Json.at0 zs p2) = false → Lp.mda E D zs p2 (p2 - p) = Lp.ahead (Lp.bs (p2 - p)) (Lp.mda E D zs p2 0)) := Lp.mda_plain E D zs p2 (p2 - p) (by rw [L.out]; exact hl2) (HNB.out hl2)
                  have HEQ : Hid (E (Json.at0 zs p2) = true → p2 < n ∧ E (Json.at0 zs p2) = true) := fun hh => ⟨hl2, hh⟩
                  obtain ⟨y, hy⟩ : ∃ y, y = Json.at0 zs p2 := ⟨_, rfl⟩
                  rw [← hy] at gi2 hy0 hy1 gE M4
                  obtain ⟨ey, hey⟩ : ∃ ey, ey = E y := ⟨_, rfl⟩
                  rw [← hey] at gE M4
                  have HEY : Hid (ey = E (Json.at0 zs p2)) := by unfold Hid; rw [hey, hy]
                  clear hy hey
                  have hnb : ((p2 : Int) == (n : Int)) = false := by simp; omega
                  cases ey
                  · go_quiet (fail)
                    go_wp2
                    go_meet
                    case rel => exact ⟨true, rfl, fun _ => M4.out (by first | rfl | trivial), (by intro hh; cases hh), HS.out.drewN _⟩
                  · go_quiet (fail)
                    go_wp2
                    go_meet
                    case rel => exact ⟨false, rfl, (by intro hh; cases hh), fun _ => HEQ.out HEY.out.symm, HS.out.drewN _⟩
                · have hnb : ((p2 : Int) == (n : Int)) = true := by simp; omega
                  go_quiet (fail)
                  go_wp2
                  go_meet
                  case rel =>
                    refine ⟨true, rfl, fun _ => Lp.mda_last E D zs p2 (p2 - p) (by rw [L.out]; omega), (by intro hh; cases hh), HS.out.drewN _⟩
            case rest =>
              clear g0 g1 g3 gf1 gf3 HS
              obtain ⟨pl, rfl, HPL, HPF, HS⟩ := hcut
              have g0 := HS.out.c0
              have g1 := HS.out.c1
              have g3 := HS.out.c3
              have gf1 := HS.out.fz 1
              have gf3 := HS.out.fz 3
              have HRI : Hid (Rd wc (some ⟨b, o, none⟩) n zs) := h.out.rdAt HS.out
              cases pl
              · as_aux_lemma =>
                  obtain ⟨hl2, hEy⟩ := HPF.out (by first | rfl | trivial)
                  obtain ⟨m, hm⟩ : ∃ m, m = p2 - p := ⟨_, rfl⟩
                  have hpm : p2 = p + m := by omega
                  rw [← hm] at HSG HMD
                  have M2 : Hid (m % 2 = 1 → Lp.mda E D zs p2 m = Lp.ahead (Lp.bs (m / 2) ++ [Json.at0 zs p2]) (Lp.mda E D zs (p2 + 1) 0)) := Lp.mda_odd E D zs p2 m (by rw [L.out]; exact hl2) (HNB.out hl2) hEy
                  have M3 : Hid (¬ m % 2 = 1 → Lp.mda E D zs p2 m = Lp.ahead (Lp.bs (m / 2)) (Lp.mda E D zs p2 0)) := Lp.mda_even E D zs p2 m (by rw [L.out]; exact hl2) (HNB.out hl2) hEy
                  have HPM : Hid (p2 = p + m) := hpm
                  have hm1 : 1 ≤ m := by omega
                  have hm2 : p + m ≤ n := by omega
                  clear hm hEy hpm HPL HPF
                  go_upto_if 129 with fail
                  go_cut [9] (fun esc wx => ∃ (tv' : Value) (ts' : List Int), esc = .bool true ∧ Hid (ts' = cur zs pos e ts p) ∧ ts'.length ≤ p ∧ Hid (St R (.slice (some ⟨b, o, none⟩) n c) T0 w wx p2 tv' ts'))
                  case first =>
                    cases e
                    · as_aux_lemma =>
                        have hts : ts = [] := HT.out (by first | rfl | trivial)
                        subst hts
                        have HOWN : Hid (wc.ownsRow 0 5 1 tv 0 []) := HS.out.own
                        have HSUB : Hid (Rd wc (some ⟨b, o + pos, none⟩) (p - pos) (Json.seg zs pos p)) := HRI.out.sub pos p hpp hpn
                        obtain ⟨news, hnews⟩ : ∃ news, news = (Json.seg zs pos p).map (Value.int .u8) := ⟨_, rfl⟩
                        have HNL : Hid (news.length = p - pos) := by unfold Hid; rw [hnews, List.length_map, HSUB.out.1]
                        have HNC : Hid (∀ j u, news[j]? = some u → wc.cell? ((⟨b, o + pos, none⟩ : Addr).add j) = some u) := by
                          rw [hnews]; exact rd_cells HSUB.out
                        have HN1 : Hid (∀ u ∈ news, u.oneCell' = true) := by rw [hnews]; exact ints_oneCell _ _
                        have HNW : Hid (news = (Json.seg zs pos p).map (Value.int .u8)) := hnews
                        clear hnews
                        have hcp : ¬ c = pos := by omega
                        have i0' : (0 : Int) ≤ (pos : Int) := by omega
                        have i1' : (pos : Int) ≤ (p : Int) := by omega
                        have i2' : (p : Int) ≤ (c : Int) := by omega
                        go_upto_region 14 with fail
                        refine Until.start (fun w' => w'.cell? ⟨R, 0, none⟩ = some (.slice (some ⟨b, o, none⟩) n c) ∧ w'.cell? ⟨R, 1, none⟩ = some (.int .i64 p2) ∧ w'.cell? ⟨R, 3, none⟩ = some tv) 15 (by kernel_rfl) ?_
                        have hSW : wc.drew.cell? ⟨R, 0, none⟩ = some (.slice (some ⟨b, o, none⟩) n c) ∧ wc.drew.cell? ⟨R, 1, none⟩ = some (.int .i64 p2) ∧ wc.drew.cell? ⟨R, 3, none⟩ = some tv := ⟨g0, g1, g3⟩
                        refine Until.take_any (i := 0) (v := ?_) rfl (by kernel_rfl) (by kernel_rfl) (by kernel_rfl) (by kernel_rfl) (fun _ _ _ h => h) (.inr hSW) (Or.inl ⟨by rfl, ?_⟩) ?_
                        rotate_left
                        · intro w; go_simp; try with_reducible rfl
                        simp only [Act.put, List.setIfInBounds_toArray, List.set_cons_zero, List.set_cons_succ]
                        refine Until.take_any (i := 1) (v := ?_) rfl (by kernel_rfl) (by kernel_rfl) (by kernel_rfl) (by kernel_rfl) (fun _ _ _ h => h) (.inr hSW) (Or.inl ⟨by rfl, ?_⟩) ?_
                        rotate_left
                        · intro w; go_simp; try with_reducible rfl
                        simp only [Act.put, List.setIfInBounds_toArray, List.set_cons_zero, List.set_cons_succ]
                        refine Until.take_any (i := 2) (v := ?_) rfl (by kernel_rfl) (by kernel_rfl) (by kernel_rfl) (by kernel_rfl) (fun _ _ _ h => h) (.inr hSW) (Or.inl ⟨by rfl, ?_⟩) ?_
                        rotate_left
                        · intro w; go_simp; try with_reducible rfl
                        simp only [Act.put, List.setIfInBounds_toArray, List.set_cons_zero, List.set_cons_succ]
                        refine Until.take_any (i := 3) (v := ?_) rfl (by kernel_rfl) (by kernel_rfl) (by kernel_rfl) (by kernel_rfl) (fun _ _ _ h => h) (.inr hSW) (Or.inl ⟨by rfl, ?_⟩) ?_
                        rotate_left
                        · intro w; go_simp; try with_reducible rfl
                        simp only [Act.put, List.setIfInBounds_toArray, List.set_cons_zero, List.set_cons_succ]
                        refine Until.take_load (i := 4) (v := ?_) rfl (by kernel_rfl) (by kernel_rfl) (by kernel_rfl) (by kernel_rfl) (by kernel_rfl) (by kernel_rfl) (fun _ _ _ h => h) hSW (Or.inl ⟨by rfl, ?_⟩) ?_
                        rotate_left
                        · intro w hw; obtain ⟨hw0, hw1, hw3⟩ := hw; go_simp; try with_reducible rfl
                        simp only [Act.put, List.setIfInBounds_toArray, List.set_cons_zero, List.set_cons_succ]
                        refine Until.take_any (i := 5) (v := ?_) rfl (by kernel_rfl) (by kernel_rfl) (by kernel_rfl) (by kernel_rfl) (fun _ _ _ h => h) (.inr hSW) (Or.inl ⟨by rfl, ?_⟩) ?_
                        rotate_left
                        · intro w; go_simp; try with_reducible rfl
                        simp only [Act.put, List.setIfInBounds_toArray, List.set_cons_zero, List.set_cons_succ]
                        refine Until.take_any (i := 6) (v := ?_) rfl (by kernel_rfl) (by kernel_rfl) (by kernel_rfl) (by kernel_rfl) (fun _ _ _ h => h) (.inr hSW) (Or.inl ⟨by rfl, ?_⟩) ?_
                        rotate_left
                        · intro w; go_simp; try with_reducible rfl
                        simp only [Act.put, List.setIfInBounds_toArray, List.set_cons_zero, List.set_cons_succ]
                        refine Until.take_any (i := 7) (v := ?_) rfl (by kernel_rfl) (by kernel_rfl) (by kernel_rfl) (by kernel_rfl) (fun _ _ _ h => h) (.inr hSW) (Or.inl ⟨by rfl, ?_⟩) ?_
                        rotate_left
                        · intro w; go_simp; try with_reducible rfl
                        simp only [Act.put, List.setIfInBounds_toArray, List.set_cons_zero, List.set_cons_succ]
                        refine Until.take_load (i := 8) (v := ?_) rfl (by kernel_rfl) (by kernel_rfl) (by kernel_rfl) (by kernel_rfl) (by kernel_rfl) (by kernel_rfl) (fun _ _ _ h => h) hSW (Or.inl ⟨by rfl, ?_⟩) ?_
                        rotate_left
                        · intro w hw; obtain ⟨hw0, hw1, hw3⟩ := hw; go_simp; try with_reducible rfl
                        simp only [Act.put, List.setIfInBounds_toArray, List.set_cons_zero, List.set_cons_succ]
                        refine Until.take_any (i := 9) (v := ?_) rfl (by kernel_rfl) (by kernel_rfl) (by kernel_rfl) (by kernel_rfl) (fun _ _ _ h => h) (.inr hSW) (Or.inl ⟨by rfl, ?_⟩) ?_
                        rotate_left
                        · intro w; go_simp; try with_reducible rfl
                        simp only [Act.put, List.setIfInBounds_toArray, List.set_cons_zero, List.set_cons_succ]
                        refine Until.take_any (i := 10) (v := ?_) rfl (by kernel_rfl) (by kernel_rfl) (by kernel_rfl) (by kernel_rfl) (fun _ _ _ h => h) (.inr hSW) (Or.inl ⟨by rfl, ?_⟩) ?_
                        rotate_left
                        · intro w; go_simp; try with_reducible rfl
                        simp only [Act.put, List.setIfInBounds_toArray, List.set_cons_zero, List.set_cons_succ]
                        refine Until.take_any (i := 11) (v := ?_) rfl (by kernel_rfl) (by kernel_rfl) (by kernel_rfl) (by kernel_rfl) (fun _ _ _ h => h) (.inr hSW) (Or.inl ⟨by rfl, ?_⟩) ?_
                        rotate_left
                        · intro w; go_simp; try with_reducible rfl
                        simp only [Act.put, List.setIfInBounds_toArray, List.set_cons_zero, List.set_cons_succ]
                        refine Until.only (i := 12) (by kernel_rfl) rfl (fun K hK => ?_)
                        refine step_append_any _ rfl (.tmp 134) (.tmp 141) 22 rfl 5 i0 (.int .u8 0) 1 Try.underlying22 hi hz0 hz1 hz2 rfl tv 0 [] rfl HOWN.out ⟨b, o + pos, none⟩ (p - pos) (c - pos) news rfl HNL.out HNC.out HN1.out (by unfold maxLen; omega) (by omega) ?_
                        intro a' c' w1 hown' hgrow hat
                        obtain ⟨k0, k1, k3, f1, f3⟩ := (HS.out.drewN 1).far hgrow
                        have hSW1 : w1.cell? ⟨R, 0, none⟩ = some (.slice (some ⟨b, o, none⟩) n c) ∧ w1.cell? ⟨R, 1, none⟩ = some (.int .i64 p2) ∧ w1.cell? ⟨R, 3, none⟩ = some tv := ⟨k0, k1, k3⟩
                        refine hK _ _ (.inr hSW1) ?_
                        clear hK K hSW
                        simp only [Act.put, List.setIfInBounds_toArray, List.set_cons_zero, List.set_cons_succ]
                        refine Until.take_any (i := 13) (v := ?_) rfl (by kernel_rfl) (by kernel_rfl) (by kernel_rfl) (by kernel_rfl) (fun _ _ _ h => h) (.inr hSW1) (Or.inl ⟨by rfl, ?_⟩) ?_
                        rotate_left
                        · intro w; go_simp; try with_reducible rfl
                        simp only [Act.put, List.setIfInBounds_toArray, List.set_cons_zero, List.set_cons_succ]
                        refine Until.take_any (i := 14) (v := ?_) rfl (by kernel_rfl) (by kernel_rfl) (by kernel_rfl) (by kernel_rfl) (fun _ _ _ h => h) (.inr hSW1) (Or.inl ⟨by rfl, ?_⟩) ?_
                        rotate_left
                        · intro w; go_simp; try with_reducible rfl
                        simp only [Act.put, List.setIfInBounds_toArray, List.set_cons_zero, List.set_cons_succ]
                        refine Until.only (i := 15) (by kernel_rfl) rfl (fun K hK => ?_)
                        go_simp
                        refine hK _ _ (.inl (by kernel_rfl)) ?_
                        clear hK K hSW1
                        refine Until.take_any (i := 16) (v := ?_) rfl (by kernel_rfl) (by kernel_rfl) (by kernel_rfl) (by kernel_rfl) (fun _ _ _ h => h) (.inl (by kernel_rfl)) (Or.inl ⟨by rfl, ?_⟩) ?_
                        rotate_left
                        · intro w; go_simp; try with_reducible rfl
                        simp only [Act.put, List.setIfInBounds_toArray, List.set_cons_zero, List.set_cons_succ]
                        refine Until.done (by kernel_rfl) ?_ _
                        go_wp2
                        go_meet
                        case rel =>
                          refine ⟨_, Json.seg zs pos p, rfl, rfl, by rw [Json.seg_length zs pos p hpp (by rw [L.out]; exact hpn)]; omega, (HS.out.drewN 1).text hgrow ?_ (by rw [Nat.zero_add] at hat; exact hat)⟩
                          unfold OwnB
                          rw [Json.seg_length zs pos p hpp (by rw [L.out]; exact hpn), ← HNW.out]
                          simpa using hown'
                    · go_wp2
                      go_meet
                      case rel => exact ⟨tv, ts, rfl, rfl, htl, HS⟩
                  case rest =>
                    clear g0 g1 g3 gf1 gf3
                    obtain ⟨tv2, ts2, rfl, HTS, hts2, HS2⟩ := hcut
                    have g0 := HS2.out.c0
                    have g1 := HS2.out.c1
                    have g3 := HS2.out.c3
                    have gf1 := HS2.out.fz 1
                    have gf3 := HS2.out.fz 3
                    have HRI2 : Hid (Rd wc (some ⟨b, o, none⟩) n zs) := h.out.rdAt HS2.out
                    have HRT : Hid (r = Lp.ahead ts2 (Lp.mda E D zs p2 m)) := by unfold Hid; rw [HR.out, HMD.out, HTS.out]
                    clear HRI HS HT HR HMD HTS
                    go_upto_region 15 with fail
                    go_cut [12] (fun v wx => v = .int .i64 m ∧ wx = wc)
                    case first =>
                      have hpm : (p2 : Int) = (p : Int) + (m : Int) := by have := HPM.out; omega
                      have HPI : Hid ((p2 : Int) = (p : Int) + (m : Int)) := hpm
                      clear hpm
                      go_wp2
                      go_meet
                      case rel => exact ⟨by have := HPI.out; go_light; rw [this]; congr 1; omega, rfl⟩
                    case rest =>
                      obtain ⟨rfl, rfl⟩ := hcut
                      obtain ⟨q, hq⟩ : ∃ q, q = m / 2 := ⟨_, rfl⟩
                      have hq1 : 2 * q ≤ m := by omega
                      have hqi : (m : Int) / 2 = (q : Int) := by omega
                      have HQ : Hid (q = m / 2) := hq
                      clear hq
                      go_upto_region 16 with fail
                      go_cut [] (fun wx => ∃ tv3 : Value, Hid (St R (.slice (some ⟨b, o, none⟩) n c) T0 w wx p2 tv3 (ts2 ++ Lp.bs q)))
                      case first =>
                        as_aux_lemma =>
                          have HOWN : Hid (wc.ownsRow 0 5 1 tv2 ts2.length (ts2.map (Value.int .u8))) := HS2.out.own
                          have HSUB : Hid (Rd wc (some ⟨b, o + p, none⟩) q (Lp.bs q)) := by
                            have h1 := HRI2.out.sub p (p + q) (by omega) (by omega)
                            have h2 : Json.seg zs p (p + q) = Lp.bs q := by
                              have e1 : Json.seg zs p p2 = Lp.bs m := HSG.out
                              have e2 := Lp.seg_append zs p (p + q) p2 (by omega) (by have := HPM.out; omega)
                              rw [e1] at e2
                              have e3 : Lp.bs m = Lp.bs q ++ Lp.bs (m - q) := by unfold Lp.bs; rw [List.replicate_append_replicate, show q + (m - q) = m by omega]
                              rw [e3] at e2
                              exact (List.append_inj_left e2 (by rw [Lp.bs_len, Json.seg_length zs p (p + q) (by omega) (by rw [L.out]; omega)]; omega)).symm
                            rw [h2, show p + q - p = q by omega] at h1
                            exact h1
                          obtain ⟨news, hnews⟩ : ∃ news, news = (Lp.bs q).map (Value.int .u8) := ⟨_, rfl⟩
                          have HNL : Hid (news.length = q) := by unfold Hid; rw [hnews, List.length_map, Lp.bs_len]
                          have HNC : Hid (∀ j u, news[j]? = some u → wc.cell? ((⟨b, o + p, none⟩ : Addr).add j) = some u) := by
                            rw [hnews]; exact rd_cells HSUB.out
                          have HN1 : Hid (∀ u ∈ news, u.oneCell' = true) := by rw [hnews]; exact ints_oneCell _ _
                          have HNW : Hid (news = (Lp.bs q).map (Value.int .u8)) := hnews
                          clear hnews
                          have hcp : ¬ c = p := by omega
                          have i0' : (0 : Int) ≤ (p : Int) := by omega
                          have i1' : (p : Int) ≤ (p : Int) + (q : Int) := by omega
                          have i2' : (p : Int) + (q : Int) ≤ (c : Int) := by omega
                          have j0' : IntKind.i64.wrap (q : Int) = (q : Int) := IntWalk.i64_in _ (by omega)
                          have j1' : IntKind.i64.wrap ((p : Int) + (q : Int)) = (p : Int) + (q : Int) := IntWalk.i64_in _ (by omega)
                          have j2' : ((p : Int) + (q : Int)).toNat = p + q := by omega
                          have j3' : p + q - p = q := by omega
                          refine Until.start (fun w' => w'.cell? ⟨R, 0, none⟩ = some (.slice (some ⟨b, o, none⟩) n c) ∧ w'.cell? ⟨R, 1, none⟩ = some (.int .i64 p2) ∧ w'.cell? ⟨R, 3, none⟩ = some tv2) 18 (by kernel_rfl) ?_
                          have hSW : wc.drew.cell? ⟨R, 0, none⟩ = some (.slice (some ⟨b, o, none⟩) n c) ∧ wc.drew.cell? ⟨R, 1, none⟩ = some (.int .i64 p2) ∧ wc.drew.cell? ⟨R, 3, none⟩ = some tv2 := ⟨g0, g1, g3⟩
                          refine Until.take_any (i := 0) (v := ?_) rfl (by kernel_rfl) (by kernel_rfl) (by kernel_rfl) (by kernel_rfl) (fun _ _ _ h => h) (.inr hSW) (Or.inl ⟨by rfl, ?_⟩) ?_
                          rotate_left
                          · intro w; go_simp; try with_reducible rfl
                          simp only [Act.put, List.setIfInBounds_toArray, List.set_cons_zero, List.set_cons_succ]
                          refine Until.take_any (i := 1) (v := ?_) rfl (by kernel_rfl) (by kernel_rfl) (by kernel_rfl) (by kernel_rfl) (fun _ _ _ h => h) (.inr hSW) (Or.inl ⟨by rfl, ?_⟩) ?_
                          rotate_left
                          · intro w; go_simp; try with_reducible rfl
                          simp only [Act.put, List.setIfInBounds_toArray, List.set_cons_zero, List.set_cons_succ]
                          refine Until.take_any (i := 2) (v := ?_) rfl (by kernel_rfl) (by kernel_rfl) (by kernel_rfl) (by kernel_rfl) (fun _ _ _ h => h) (.inr hSW) (Or.inl ⟨by rfl, ?_⟩) ?_
                          rotate_left
                          · intro w; go_simp; try with_reducible rfl
                          simp only [Act.put, List.setIfInBounds_toArray, List.set_cons_zero, List.set_cons_succ]
                          refine Until.take_any (i := 3) (v := ?_) rfl (by kernel_rfl) (by kernel_rfl) (by kernel_rfl) (by kernel_rfl) (fun _ _ _ h => h) (.inr hSW) (Or.inl ⟨by rfl, ?_⟩) ?_
                          rotate_left
                          · intro w; go_simp; try with_reducible rfl
                          simp only [Act.put, List.setIfInBounds_toArray, List.set_cons_zero, List.set_cons_succ]
                          refine Until.take_load (i := 4) (v := ?_) rfl (by kernel_rfl) (by kernel_rfl) (by kernel_rfl) (by kernel_rfl) (by kernel_rfl) (by kernel_rfl) (fun _ _ _ h => h) hSW (Or.inl ⟨by rfl, ?_⟩) ?_
                          rotate_left
                          · intro w hw; obtain ⟨hw0, hw1, hw3⟩ := hw; go_simp; try with_reducible rfl
                          simp only [Act.put, List.setIfInBounds_toArray, List.set_cons_zero, List.set_cons_succ]
                          refine Until.take_any (i := 5) (v := ?_) rfl (by kernel_rfl) (by kernel_rfl) (by kernel_rfl) (by kernel_rfl) (fun _ _ _ h => h) (.inr hSW) (Or.inl ⟨by rfl, ?_⟩) ?_
                          rotate_left
                          · intro w; go_simp; try with_reducible rfl
                          simp only [Act.put, List.setIfInBounds_toArray, List.set_cons_zero, List.set_cons_succ]
                          refine Until.take_any (i := 6) (v := ?_) rfl (by kernel_rfl) (by kernel_rfl) (by kernel_rfl) (by kernel_rfl) (fun _ _ _ h => h) (.inr hSW) (Or.inl ⟨by rfl, ?_⟩) ?_
                          rotate_left
                          · intro w; go_simp; try with_reducible rfl
                          simp only [Act.put, List.setIfInBounds_toArray, List.set_cons_zero, List.set_cons_succ]
                          refine Until.take_any (i := 7) (v := ?_) rfl (by kernel_rfl) (by kernel_rfl) (by kernel_rfl) (by kernel_rfl) (fun _ _ _ h => h) (.inr hSW) (Or.inl ⟨by rfl, ?_⟩) ?_
                          rotate_left
                          · intro w; go_simp; try with_reducible rfl
                          simp only [Act.put, List.setIfInBounds_toArray, List.set_cons_zero, List.set_cons_succ]
                          refine Until.take_load (i := 8) (v := ?_) rfl (by kernel_rfl) (by kernel_rfl) (by kernel_rfl) (by kernel_rfl) (by kernel_rfl) (by kernel_rfl) (fun _ _ _ h => h) hSW (Or.inl ⟨by rfl, ?_⟩) ?_
                          rotate_left
                          · intro w hw; obtain ⟨hw0, hw1, hw3⟩ := hw; go_simp; try with_reducible rfl
                          simp only [Act.put, List.setIfInBounds_toArray, List.set_cons_zero, List.set_cons_succ]
                          refine Until.take_any (i := 9) (v := ?_) rfl (by kernel_rfl) (by kernel_rfl) (by kernel_rfl) (by kernel_rfl) (fun _ _ _ h => h) (.inr hSW) (Or.inl ⟨by rfl, ?_⟩) ?_
                          rotate_left
                          · intro w; go_simp; try with_reducible rfl
                          simp only [Act.put, List.setIfInBounds_toArray, List.set_cons_zero, List.set_cons_succ]
                          refine Until.take_any (i := 10) (v := ?_) rfl (by kernel_rfl) (by kernel_rfl) (by kernel_rfl) (by kernel_rfl) (fun _ _ _ h => h) (.inr hSW) (Or.inl ⟨by rfl, ?_⟩) ?_
                          rotate_left
                          · intro w; go_simp; try with_reducible rfl
                          simp only [Act.put, List.setIfInBounds_toArray, List.set_cons_zero, List.set_cons_succ]
                          refine Until.take_any (i := 11) (v := ?_) rfl (by kernel_rfl) (by kernel_rfl) (by kernel_rfl) (by kernel_rfl) (fun _ _ _ h => h) (.inr hSW) (Or.inl ⟨by rfl, ?_⟩) ?_
                          rotate_left
                          · intro w; go_simp; try with_reducible rfl
                          simp only [Act.put, List.setIfInBounds_toArray, List.set_cons_zero, List.set_cons_succ]
                          refine Until.take_any (i := 12) (v := ?_) rfl (by kernel_rfl) (by kernel_rfl) (by kernel_rfl) (by kernel_rfl) (fun _ _ _ h => h) (.inr hSW) (Or.inl ⟨by rfl, ?_⟩) ?_
                          rotate_left
                          · intro w; go_simp; try with_reducible rfl
                          simp only [Act.put, List.setIfInBounds_toArray, List.set_cons_zero, List.set_cons_succ]
                          refine Until.take_any (i := 13) (v := ?_) rfl (by kernel_rfl) (by kernel_rfl) (by kernel_rfl) (by kernel_rfl) (fun _ _ _ h => h) (.inr hSW) (Or.inl ⟨by rfl, ?_⟩) ?_
                          rotate_left
                          · intro w; go_simp; try with_reducible rfl
                          simp only [Act.put, List.setIfInBounds_toArray, List.set_cons_zero, List.set_cons_succ]
                          refine Until.take_any (i := 14) (v := ?_) rfl (by kernel_rfl) (by kernel_rfl) (by kernel_rfl) (by kernel_rfl) (fun _ _ _ h => h) (.inr hSW) (Or.inl ⟨by rfl, ?_⟩) ?_
                          rotate_left
                          · intro w; go_simp; try with_reducible rfl
                          simp only [Act.put, List.setIfInBounds_toArray, List.set_cons_zero, List.set_cons_succ]
                          refine Until.only (i := 15) (by kernel_rfl) rfl (fun K hK => ?_)
                          refine step_append_any _ rfl (.tmp 155) (.tmp 165) 22 rfl 5 i0 (.int .u8 0) 1 Try.underlying22 hi hz0 hz1 hz2 rfl tv2 ts2.length (ts2.map (Value.int .u8)) rfl HOWN.out ⟨b, o + p, none⟩ q (c - p) news rfl HNL.out HNC.out HN1.out (by unfold maxLen; omega) (by omega) ?_
                          intro a' c' w1 hown' hgrow hat
                          obtain ⟨k0, k1, k3, f1, f3⟩ := (HS2.out.drewN 1).far hgrow
                          have hSW1 : w1.cell? ⟨R, 0, none⟩ = some (.slice (some ⟨b, o, none⟩) n c) ∧ w1.cell? ⟨R, 1, none⟩ = some (.int .i64 p2) ∧ w1.cell? ⟨R, 3, none⟩ = some tv2 := ⟨k0, k1, k3⟩
                          refine hK _ _ (.inr hSW1) ?_
                          clear hK K hSW
                          simp only [Act.put, List.setIfInBounds_toArray, List.set_cons_zero, List.set_cons_succ]
                          refine Until.take_any (i := 16) (v := ?_) rfl (by kernel_rfl) (by kernel_rfl) (by kernel_rfl) (by kernel_rfl) (fun _ _ _ h => h) (.inr hSW1) (Or.inl ⟨by rfl, ?_⟩) ?_
                          rotate_left
                          · intro w; go_simp; try with_reducible rfl
                          simp only [Act.put, List.setIfInBounds_toArray, List.set_cons_zero, List.set_cons_succ]
                          refine Until.take_any (i := 17) (v := ?_) rfl (by kernel_rfl) (by kernel_rfl) (by kernel_rfl) (by kernel_rfl) (fun _ _ _ h => h) (.inr hSW1) (Or.inl ⟨by rfl, ?_⟩) ?_
                          rotate_left
                          · intro w; go_simp; try with_reducible rfl
                          simp only [Act.put, List.setIfInBounds_toArray, List.set_cons_zero, List.set_cons_succ]
                          refine Until.only (i := 18) (by kernel_rfl) rfl (fun K hK => ?_)
                          go_simp
                          refine hK _ _ (.inl (by kernel_rfl)) ?_
                          clear hK K hSW1
                          refine Until.done (by kernel_rfl) ?_ _
                          go_wp2
                          go_meet
                          case rel =>
                            refine ⟨_, (HS2.out.drewN 1).text hgrow ?_ hat⟩
                            unfold OwnB
                            rw [List.length_append, Lp.bs_len, List.map_append, ← HNW.out]
                            exact hown'
                      case rest =>
                        clear g0 g1 g3 gf1 gf3
                        obtain ⟨tv3, HS3⟩ := hcut
                        obtain ⟨ts3, hts3⟩ : ∃ ts3, ts3 = ts2 ++ Lp.bs q := ⟨_, rfl⟩
                        have hl3 : ts3.length ≤ p2 - 1 := by rw [hts3]; have := HPM.out; simp [Lp.bs_len]; omega
                        rw [← hts3] at HS3
                        have g0 := HS3.out.c0
                        have g1 := HS3.out.c1
                        have g3 := HS3.out.c3
                        have gf1 := HS3.out.fz 1
                        have gf3 := HS3.out.fz 3
                        have gi2 : wc.cell? ⟨b, o + p2, none⟩ = some (.int .u8 (Json.at0 zs p2)) := by
                          obtain ⟨b2, o2, e2, hcell2⟩ := (h.out.rdAt HS3.out).2.resolve_left (by omega)
                          simp only [Option.some.injEq, Addr.mk.injEq, and_true] at e2
                          obtain ⟨rfl, rfl⟩ := e2
                          exact hcell2 p2 hl2
                        by_cases hodd : m % 2 = 1
                        · have HR3 : Hid (r = Lp.ahead (ts3 ++ [Json.at0 zs p2]) (Lp.mda E D zs (p2 + 1) 0)) := by
                            unfold Hid; rw [HRT.out, M2.out hodd, Lp.ahead_ahead, hts3, HQ.out]; simp
                          have hod : (m : Int) % 2 = 1 := by omega
                          obtain ⟨y, hy⟩ : ∃ y, y = Json.at0 zs p2 := ⟨_, rfl⟩
                          rw [← hy] at gi2 HR3
                          clear hy hts3 HRT M2 M3
                          go_upto_region 18 with fail
                          go_cut [] (fun wx => ∃ tv4 : Value, Hid (St R (.slice (some ⟨b, o, none⟩) n c) T0 w wx p2 tv4 (ts3 ++ [y])))
                          case first =>
                            as_aux_lemma =>
                              have HOWN : Hid (wc.ownsRow 0 5 1 tv3 ts3.length (ts3.map (Value.int .u8))) := HS3.out.own
                              have hbl : b < wc.heap.size := World.block_lt_of_cell? wc _ gi2
                              have HNE : Hid (tv3.ownBlock ≠ some b) := by
                                have hin := h.out.inR b o rfl
                                have hbw : b < w.heap.size := by
                                  obtain ⟨b3, o3, e3, hc3⟩ := h.out.rd.2.resolve_left (by omega)
                                  simp only [Option.some.injEq, Addr.mk.injEq, and_true] at e3
                                  obtain ⟨rfl, rfl⟩ := e3
                                  exact World.block_lt_of_cell? w _ (hc3 p2 hl2)
                                rcases HS3.out.lies with e | ⟨g, e, hge⟩
                                · unfold Hid; rw [e]; exact fun e' => hin.2 e'.symm
                                · unfold Hid; rw [e]; intro e'; simp at e'; omega
                              have hRl : R < wc.heap.size := HS3.out.lt
                              have i0' : (0 : Int) ≤ (p2 : Int) := by omega
                              have i1' : (p2 : Int) < (n : Int) := by omega
                              refine Until.start (fun w' => w'.cell? ⟨R, 0, none⟩ = some (.slice (some ⟨b, o, none⟩) n c) ∧ w'.cell? ⟨R, 1, none⟩ = some (.int .i64 p2) ∧ w'.cell? ⟨R, 3, none⟩ = some tv3 ∧ w'.cell? ⟨b, o + p2, none⟩ = some (.int .u8 y)) 19 (by kernel_rfl) ?_
                              have hSW : wc.drew.cell? ⟨R, 0, none⟩ = some (.slice (some ⟨b, o, none⟩) n c) ∧ wc.drew.cell? ⟨R, 1, none⟩ = some (.int .i64 p2) ∧ wc.drew.cell? ⟨R, 3, none⟩ = some tv3 ∧ wc.drew.cell? ⟨b, o + p2, none⟩ = some (.int .u8 y) := ⟨g0, g1, g3, gi2⟩
                              refine Until.take_any (i := 0) (v := ?_) rfl (by kernel_rfl) (by kernel_rfl) (by kernel_rfl) (by kernel_rfl) (fun _ _ _ h => h) (.inr hSW) (Or.inl ⟨by rfl, ?_⟩) ?_
                              rotate_left
                              · intro w; go_simp; try with_reducible rfl
                              simp only [Act.put, List.setIfInBounds_toArray, List.set_cons_zero, List.set_cons_succ]
                              refine Until.take_any (i := 1) (v := ?_) rfl (by kernel_rfl) (by kernel_rfl) (by kernel_rfl) (by kernel_rfl) (fun _ _ _ h => h) (.inr hSW) (Or.inl ⟨by rfl, ?_⟩) ?_
                              rotate_left
                              · intro w; go_simp; try with_reducible rfl
                              simp only [Act.put, List.setIfInBounds_toArray, List.set_cons_zero, List.set_cons_succ]
                              refine Until.take_any (i := 2) (v := ?_) rfl (by kernel_rfl) (by kernel_rfl) (by kernel_rfl) (by kernel_rfl) (fun _ _ _ h => h) (.inr hSW) (Or.inl ⟨by rfl, ?_⟩) ?_
                              rotate_left
                              · intro w; go_simp; try with_reducible rfl
                              simp only [Act.put, List.setIfInBounds_toArray, List.set_cons_zero, List.set_cons_succ]
                              refine Until.take_any (i := 3) (v := ?_) rfl (by kernel_rfl) (by kernel_rfl) (by kernel_rfl) (by kernel_rfl) (fun _ _ _ h => h) (.inr hSW) (Or.inl ⟨by rfl, ?_⟩) ?_
                              rotate_left
                              · intro w; go_simp; try with_reducible rfl
                              simp only [Act.put, List.setIfInBounds_toArray, List.set_cons_zero, List.set_cons_succ]
                              refine Until.take_load (i := 4) (v := ?_) rfl (by kernel_rfl) (by kernel_rfl) (by kernel_rfl) (by kernel_rfl) (by kernel_rfl) (by kernel_rfl) (fun _ _ _ h => h) hSW (Or.inl ⟨by rfl, ?_⟩) ?_
                              rotate_left
                              · intro w hw; obtain ⟨hw0, hw1, hw3, hw4⟩ := hw; go_simp; try with_reducible rfl
                              simp only [Act.put, List.setIfInBounds_toArray, List.set_cons_zero, List.set_cons_succ]
                              refine Until.take_any (i := 5) (v := ?_) rfl (by kernel_rfl) (by kernel_rfl) (by kernel_rfl) (by kernel_rfl) (fun _ _ _ h => h) (.inr hSW) (Or.inl ⟨by rfl, ?_⟩) ?_
                              rotate_left
                              · intro w; go_simp; try with_reducible rfl
                              simp only [Act.put, List.setIfInBounds_toArray, List.set_cons_zero, List.set_cons_succ]
                              refine Until.take_any (i := 6) (v := ?_) rfl (by kernel_rfl) (by kernel_rfl) (by kernel_rfl) (by kernel_rfl) (fun _ _ _ h => h) (.inr hSW) (Or.inl ⟨by rfl, ?_⟩) ?_
                              rotate_left
                              · intro w; go_simp; try with_reducible rfl
                              simp only [Act.put, List.setIfInBounds_toArray, List.set_cons_zero, List.set_cons_succ]
                              refine Until.take_any (i := 7) (v := ?_) rfl (by kernel_rfl) (by kernel_rfl) (by kernel_rfl) (by kernel_rfl) (fun _ _ _ h => h) (.inr hSW) (Or.inl ⟨by rfl, ?_⟩) ?_
                              rotate_left
                              · intro w; go_simp; try with_reducible rfl
                              simp only [Act.put, List.setIfInBounds_toArray, List.set_cons_zero, List.set_cons_succ]
                              refine Until.take_load (i := 8) (v := ?_) rfl (by kernel_rfl) (by kernel_rfl) (by kernel_rfl) (by kernel_rfl) (by kernel_rfl) (by kernel_rfl) (fun _ _ _ h => h) hSW (Or.inl ⟨by rfl, ?_⟩) ?_
                              rotate_left
                              · intro w hw; obtain ⟨hw0, hw1, hw3, hw4⟩ := hw; go_simp; try with_reducible rfl
                              simp only [Act.put, List.setIfInBounds_toArray, List.set_cons_zero, List.set_cons_succ]
                              refine Until.take_any (i := 9) (v := ?_) rfl (by kernel_rfl) (by kernel_rfl) (by kernel_rfl) (by kernel_rfl) (fun _ _ _ h => h) (.inr hSW) (Or.inl ⟨by rfl, ?_⟩) ?_
                              rotate_left
                              · intro w; go_simp; try with_reducible rfl
                              simp only [Act.put, List.setIfInBounds_toArray, List.set_cons_zero, List.set_cons_succ]
                              refine Until.take_any (i := 10) (v := ?_) rfl (by kernel_rfl) (by kernel_rfl) (by kernel_rfl) (by kernel_rfl) (fun _ _ _ h => h) (.inr hSW) (Or.inl ⟨by rfl, ?_⟩) ?_
                              rotate_left
                              · intro w; go_simp; try with_reducible rfl
                              simp only [Act.put, List.setIfInBounds_toArray, List.set_cons_zero, List.set_cons_succ]
                              refine Until.take_any (i := 11) (v := ?_) rfl (by kernel_rfl) (by kernel_rfl) (by kernel_rfl) (by kernel_rfl) (fun _ _ _ h => h) (.inr hSW) (Or.inl ⟨by rfl, ?_⟩) ?_
                              rotate_left
                              · intro w; go_simp; try with_reducible rfl
                              simp only [Act.put, List.setIfInBounds_toArray, List.set_cons_zero, List.set_cons_succ]
                              refine Until.take_load (i := 12) (v := ?_) rfl (by kernel_rfl) (by kernel_rfl) (by kernel_rfl) (by kernel_rfl) (by kernel_rfl) (by kernel_rfl) (fun _ _ _ h => h) hSW (Or.inl ⟨by rfl, ?_⟩) ?_
                              rotate_left
                              · intro w hw; obtain ⟨hw0, hw1, hw3, hw4⟩ := hw; go_simp; try with_reducible rfl
                              simp only [Act.put, List.setIfInBounds_toArray, List.set_cons_zero, List.set_cons_succ]
                              refine Until.take_any (i := 13) (v := ?_) rfl (by kernel_rfl) (by kernel_rfl) (by kernel_rfl) (by kernel_rfl) (fun _ _ _ h => h) (.inr hSW) (Or.inl ⟨by rfl, ?_⟩) ?_
                              rotate_left
                              · intro w; go_simp; try with_reducible rfl
                              simp only [Act.put, List.setIfInBounds_toArray, List.set_cons_zero, List.set_cons_succ]
                              refine Until.take_load (i := 14) (v := ?_) rfl (by kernel_rfl) (by kernel_rfl) (by kernel_rfl) (by kernel_rfl) (by kernel_rfl) (by kernel_rfl) (fun _ _ _ h => h) hSW (Or.inl ⟨by rfl, ?_⟩) ?_
                              rotate_left
                              · intro w hw; obtain ⟨hw0, hw1, hw3, hw4⟩ := hw; go_simp; try with_reducible rfl
                              simp only [Act.put, List.setIfInBounds_toArray, List.set_cons_zero, List.set_cons_succ]
                              refine Until.only (i := 15) (by kernel_rfl) rfl (fun K hK => ?_)
                              go_simp
                              have hSWA : (wc.drew.alloc (.cells #[.int .u8 y] 5)).cell? ⟨R, 0, none⟩ = some (.slice (some ⟨b, o, none⟩) n c) ∧ (wc.drew.alloc (.cells #[.int .u8 y] 5)).cell? ⟨R, 1, none⟩ = some (.int .i64 p2) ∧ (wc.drew.alloc (.cells #[.int .u8 y] 5)).cell? ⟨R, 3, none⟩ = some tv3 ∧ (wc.drew.alloc (.cells #[.int .u8 y] 5)).cell? ⟨b, o + p2, none⟩ = some (.int .u8 y) := by
                                refine ⟨?_, ?_, ?_, ?_⟩
                                · rw [World.cell?_alloc_past (w := wc.drew) _ _ _ hRl]; exact g0
                                · rw [World.cell?_alloc_past (w := wc.drew) _ _ _ hRl]; exact g1
                                · rw [World.cell?_alloc_past (w := wc.drew) _ _ _ hRl]; exact g3
                                · rw [World.cell?_alloc_past (w := wc.drew) _ _ _ hbl]; exact gi2
                              refine hK _ _ (.inr hSWA) ?_
                              clear hK K hSW
                              try simp only [Act.put, List.setIfInBounds_toArray, List.set_cons_zero, List.set_cons_succ]
                              refine Until.only (i := 16) (by kernel_rfl) rfl (fun K hK => ?_)
                              refine step_append_any _ rfl (.tmp 176) (.tmp 187) 22 rfl 5 i0 (.int .u8 0) 1 Try.underlying22 hi hz0 hz1 hz2 rfl tv3 ts3.length (ts3.map (Value.int .u8)) rfl (World.ownsRow.alloc (w := wc.drew) HOWN.out _) ⟨wc.heap.size, 0, none⟩ 1 1 [.int .u8 y] rfl rfl (cell_one_new wc.drew _ _) (by intro u hu; simp at hu; subst hu; rfl) (by unfold maxLen; omega) (by omega) ?_
                              intro a' c' w1 hown' hgrow hat
                              obtain ⟨k0, k1, k3, f1, f3⟩ := (HS3.out.drewN 1).farA _ hgrow
                              have hSW1 : w1.cell? ⟨R, 0, none⟩ = some (.slice (some ⟨b, o, none⟩) n c) ∧ w1.cell? ⟨R, 1, none⟩ = some (.int .i64 p2) ∧ w1.cell? ⟨R, 3, none⟩ = some tv3 ∧ w1.cell? ⟨b, o + p2, none⟩ = some (.int .u8 y) := ⟨k0, k1, k3, (hgrow.cell hSWA.2.2.2 (fun e => HNE.out e.symm))⟩
                              refine hK _ _ (.inr hSW1) ?_
                              clear hK K hSWA
                              simp only [Act.put, List.setIfInBounds_toArray, List.set_cons_zero, List.set_cons_succ]
                              refine Until.take_any (i := 17) (v := ?_) rfl (by kernel_rfl) (by kernel_rfl) (by kernel_rfl) (by kernel_rfl) (fun _ _ _ h => h) (.inr hSW1) (Or.inl ⟨by rfl, ?_⟩) ?_
                              rotate_left
                              · intro w; go_simp; try with_reducible rfl
                              simp only [Act.put, List.setIfInBounds_toArray, List.set_cons_zero, List.set_cons_succ]
                              refine Until.take_any (i := 18) (v := ?_) rfl (by kernel_rfl) (by kernel_rfl) (by kernel_rfl) (by kernel_rfl) (fun _ _ _ h => h) (.inr hSW1) (Or.inl ⟨by rfl, ?_⟩) ?_
                              rotate_left
                              · intro w; go_simp; try with_reducible rfl
                              simp only [Act.put, List.setIfInBounds_toArray, List.set_cons_zero, List.set_cons_succ]
                              refine Until.only (i := 19) (by kernel_rfl) rfl (fun K hK => ?_)
                              go_simp
                              refine hK _ _ (.inl (by kernel_rfl)) ?_
                              clear hK K hSW1
                              refine Until.done (by kernel_rfl) ?_ _
                              go_wp2
                              go_meet
                              case rel => exact ⟨_, (HS3.out.drewN 1).textA _ hgrow (by unfold OwnB; simpa using hown') (hat.imp_right fun ⟨g, e, hge⟩ => ⟨g, e, by simpa using hge⟩)⟩
                          case rest =>
                            clear g0 g1 g3 gf1 gf3 gi2
                            obtain ⟨tv4, HS4⟩ := hcut
                            have g0 := HS4.out.c0
                            have g1 := HS4.out.c1
                            have gf1 := HS4.out.fz 1
                            go_wp2
                            go_roundg (n - (p2 + 1))
                            case measure => omega
                            case rel =>
                              refine ⟨p2 + 1, true, tv4, ts3 ++ [y], by omega, by omega, rfl, rfl, HS4.out.pos (p2 + 1), by simp; omega, (by intro hh; cases hh), ?_⟩
                              unfold Hid; rw [HR3.out]; simp [cur]
                        · have HR3 : Hid (r = Lp.ahead ts3 (Lp.mda E D zs p2 0)) := by
                            unfold Hid; rw [HRT.out, M3.out hodd, Lp.ahead_ahead, hts3, HQ.out]
                          have hod : (m : Int) % 2 = 0 := by omega
                          clear hts3 HRT M2 M3
                          go_wp2
                          go_roundg (n - p2)
                          case measure => omega
                          case rel =>
                            refine ⟨p2, true, tv3, ts3, by omega, by omega, rfl, rfl, HS3, by omega, (by intro hh; cases hh), ?_⟩
                            unfold Hid; rw [HR3.out]; simp [cur]
              · as_aux_lemma =>
                  have HR' : Hid (r = Lp.ahead (cur zs pos e ts p ++ Lp.bs (p2 - p)) (Lp.mda E D zs p2 0)) := by
                    unfold Hid; rw [HR.out, HMD.out, HPL.out (by first | rfl | trivial), Lp.ahead_ahead]
                  cases e
                  · go_wp2
                    go_roundg (n - p2)
                    case measure => omega
                    case rel =>
                      refine ⟨p2, false, tv, ts, by omega, by omega, rfl, rfl, HS, by omega, fun _ => HT.out (by first | rfl | trivial), ?_⟩
                      unfold Hid; rw [HR'.out]
                      simp only [cur, Bool.false_eq_true, if_false]
                      rw [Lp.seg_append zs pos p p2 hpp hp2, HSG.out]
                  · have HOWN : Hid (wc.ownsRow 0 5 1 tv ts.length (ts.map (Value.int .u8))) := HS.out.own
                    have HSUB : Hid (Rd wc (some ⟨b, o + p, none⟩) (p2 - p) (Json.seg zs p p2)) := HRI.out.sub p p2 hp2 hp2n
                    obtain ⟨news, hnews⟩ : ∃ news, news = (Json.seg zs p p2).map (Value.int .u8) := ⟨_, rfl⟩
                    have HNL : Hid (news.length = p2 - p) := by unfold Hid; rw [hnews, List.length_map, HSUB.out.1]
                    have HNC : Hid (∀ j u, news[j]? = some u → wc.cell? ((⟨b, o + p, none⟩ : Addr).add j) = some u) := by
                      rw [hnews]; exact rd_cells HSUB.out
                    have HN1 : Hid (∀ u ∈ news, u.oneCell' = true) := by rw [hnews]; exact ints_oneCell _ _
                    have HNW : Hid (news = (Lp.bs (p2 - p)).map (Value.int .u8)) := by unfold Hid; rw [hnews, HSG.out]
                    clear hnews
                    have hcp : ¬ c = p := by omega
                    have i0' : (0 : Int) ≤ (p : Int) := by omega
                    have i1' : (p : Int) ≤ (p2 : Int) := by omega
                    have i2' : (p2 : Int) ≤ (c : Int) := by omega
                    go_upto_region 12 with fail
                    go_cut [] (fun wx => ∃ tv2 : Value, Hid (St R (.slice (some ⟨b, o, none⟩) n c) T0 w wx p2 tv2 (ts ++ Lp.bs (p2 - p))))
                    case first =>
                      as_aux_lemma =>
                        refine Until.start (fun w' => w'.cell? ⟨R, 0, none⟩ = some (.slice (some ⟨b, o, none⟩) n c) ∧ w'.cell? ⟨R, 1, none⟩ = some (.int .i64 p2) ∧ w'.cell? ⟨R, 3, none⟩ = some tv) 18 (by kernel_rfl) ?_
                        have hSW : wc.drew.cell? ⟨R, 0, none⟩ = some (.slice (some ⟨b, o, none⟩) n c) ∧ wc.drew.cell? ⟨R, 1, none⟩ = some (.int .i64 p2) ∧ wc.drew.cell? ⟨R, 3, none⟩ = some tv := ⟨g0, g1, g3⟩
                        refine Until.take_any (i := 0) (v := ?_) rfl (by kernel_rfl) (by kernel_rfl) (by kernel_rfl) (by kernel_rfl) (fun _ _ _ h => h) (.inr hSW) (Or.inl ⟨by rfl, ?_⟩) ?_
                        rotate_left
                        · intro w; go_simp; try with_reducible rfl
                        simp only [Act.put, List.setIfInBounds_toArray, List.set_cons_zero, List.set_cons_succ]
                        refine Until.take_any (i := 1) (v := ?_) rfl (by kernel_rfl) (by kernel_rfl) (by kernel_rfl) (by kernel_rfl) (fun _ _ _ h => h) (.inr hSW) (Or.inl ⟨by rfl, ?_⟩) ?_
                        rotate_left
                        · intro w; go_simp; try with_reducible rfl
                        simp only [Act.put, List.setIfInBounds_toArray, List.set_cons_zero, List.set_cons_succ]
                        refine Until.take_any (i := 2) (v := ?_) rfl (by kernel_rfl) (by kernel_rfl) (by kernel_rfl) (by kernel_rfl) (fun _ _ _ h => h) (.inr hSW) (Or.inl ⟨by rfl, ?_⟩) ?_
                        rotate_left
                        · intro w; go_simp; try with_reducible rfl
                        simp only [Act.put, List.setIfInBounds_toArray, List.set_cons_zero, List.set_cons_succ]
                        refine Until.take_any (i := 3) (v := ?_) rfl (by kernel_rfl) (by kernel_rfl) (by kernel_rfl) (by kernel_rfl) (fun _ _ _ h => h) (.inr hSW) (Or.inl ⟨by rfl, ?_⟩) ?_
                        rotate_left
                        · intro w; go_simp; try with_reducible rfl
                        simp only [Act.put, List.setIfInBounds_toArray, List.set_cons_zero, List.set_cons_succ]
                        refine Until.take_load (i := 4) (v := ?_) rfl (by kernel_rfl) (by kernel_rfl) (by kernel_rfl) (by kernel_rfl) (by kernel_rfl) (by kernel_rfl) (fun _ _ _ h => h) hSW (Or.inl ⟨by rfl, ?_⟩) ?_
                        rotate_left
                        · intro w hw; obtain ⟨hw0, hw1, hw3⟩ := hw; go_simp; try with_reducible rfl
                        simp only [Act.put, List.setIfInBounds_toArray, List.set_cons_zero, List.set_cons_succ]
                        refine Until.take_any (i := 5) (v := ?_) rfl (by kernel_rfl) (by kernel_rfl) (by kernel_rfl) (by kernel_rfl) (fun _ _ _ h => h) (.inr hSW) (Or.inl ⟨by rfl, ?_⟩) ?_
                        rotate_left
                        · intro w; go_simp; try with_reducible rfl
                        simp only [Act.put, List.setIfInBounds_toArray, List.set_cons_zero, List.set_cons_succ]
                        refine Until.take_any (i := 6) (v := ?_) rfl (by kernel_rfl) (by kernel_rfl) (by kernel_rfl) (by kernel_rfl) (fun _ _ _ h => h) (.inr hSW) (Or.inl ⟨by rfl, ?_⟩) ?_
                        rotate_left
                        · intro w; go_simp; try with_reducible rfl
                        simp only [Act.put, List.setIfInBounds_toArray, List.set_cons_zero, List.set_cons_succ]
                        refine Until.take_any (i := 7) (v := ?_) rfl (by kernel_rfl) (by kernel_rfl) (by kernel_rfl) (by kernel_rfl) (fun _ _ _ h => h) (.inr hSW) (Or.inl ⟨by rfl, ?_⟩) ?_
                        rotate_left
                        · intro w; go_simp; try with_reducible rfl
                        simp only [Act.put, List.setIfInBounds_toArray, List.set_cons_zero, List.set_cons_succ]
                        refine Until.take_load (i := 8) (v := ?_) rfl (by kernel_rfl) (by kernel_rfl) (by kernel_rfl) (by kernel_rfl) (by kernel_rfl) (by kernel_rfl) (fun _ _ _ h => h) hSW (Or.inl ⟨by rfl, ?_⟩) ?_
                        rotate_left
                        · intro w hw; obtain ⟨hw0, hw1, hw3⟩ := hw; go_simp; try with_reducible rfl
                        simp only [Act.put, List.setIfInBounds_toArray, List.set_cons_zero, List.set_cons_succ]
                        refine Until.take_any (i := 9) (v := ?_) rfl (by kernel_rfl) (by kernel_rfl) (by kernel_rfl) (by kernel_rfl) (fun _ _ _ h => h) (.inr hSW) (Or.inl ⟨by rfl, ?_⟩) ?_
                        rotate_left
                        · intro w; go_simp; try with_reducible rfl
                        simp only [Act.put, List.setIfInBounds_toArray, List.set_cons_zero, List.set_cons_succ]
                        refine Until.take_any (i := 10) (v := ?_) rfl (by kernel_rfl) (by kernel_rfl) (by kernel_rfl) (by kernel_rfl) (fun _ _ _ h => h) (.inr hSW) (Or.inl ⟨by rfl, ?_⟩) ?_
                        rotate_left
                        · intro w; go_simp; try with_reducible rfl
                        simp only [Act.put, List.setIfInBounds_toArray, List.set_cons_zero, List.set_cons_succ]
                        refine Until.take_any (i := 11) (v := ?_) rfl (by kernel_rfl) (by kernel_rfl) (by kernel_rfl) (by kernel_rfl) (fun _ _ _ h => h) (.inr hSW) (Or.inl ⟨by rfl, ?_⟩) ?_
                        rotate_left
                        · intro w; go_simp; try with_reducible rfl
                        simp only [Act.put, List.setIfInBounds_toArray, List.set_cons_zero, List.set_cons_succ]
                        refine Until.take_any (i := 12) (v := ?_) rfl (by kernel_rfl) (by kernel_rfl) (by kernel_rfl) (by kernel_rfl) (fun _ _ _ h => h) (.inr hSW) (Or.inl ⟨by rfl, ?_⟩) ?_
                        rotate_left
                        · intro w; go_simp; try with_reducible rfl
                        simp only [Act.put, List.setIfInBounds_toArray, List.set_cons_zero, List.set_cons_succ]
                        refine Until.take_load (i := 13) (v := ?_) rfl (by kernel_rfl) (by kernel_rfl) (by kernel_rfl) (by kernel_rfl) (by kernel_rfl) (by kernel_rfl) (fun _ _ _ h => h) hSW (Or.inl ⟨by rfl, ?_⟩) ?_
                        rotate_left
                        · intro w hw; obtain ⟨hw0, hw1, hw3⟩ := hw; go_simp; try with_reducible rfl
                        simp only [Act.put, List.setIfInBounds_toArray, List.set_cons_zero, List.set_cons_succ]
                        refine Until.take_any (i := 14) (v := ?_) rfl (by kernel_rfl) (by kernel_rfl) (by kernel_rfl) (by kernel_rfl) (fun _ _ _ h => h) (.inr hSW) (Or.inl ⟨by rfl, ?_⟩) ?_
                        rotate_left
                        · intro w; go_simp; try with_reducible rfl
                        simp only [Act.put, List.setIfInBounds_toArray, List.set_cons_zero, List.set_cons_succ]
                        refine Until.only (i := 15) (by kernel_rfl) rfl (fun K hK => ?_)
                        refine step_append_any _ rfl (.tmp 114) (.tmp 124) 22 rfl 5 i0 (.int .u8 0) 1 Try.underlying22 hi hz0 hz1 hz2 rfl tv ts.length (ts.map (Value.int .u8)) rfl HOWN.out ⟨b, o + p, none⟩ (p2 - p) (c - p) news rfl HNL.out HNC.out HN1.out (by unfold maxLen; omega) (by omega) ?_
                        intro a' c' w1 hown' hgrow hat
                        obtain ⟨k0, k1, k3, f1, f3⟩ := (HS.out.drewN 1).far hgrow
                        have hSW1 : w1.cell? ⟨R, 0, none⟩ = some (.slice (some ⟨b, o, none⟩) n c) ∧ w1.cell? ⟨R, 1, none⟩ = some (.int .i64 p2) ∧ w1.cell? ⟨R, 3, none⟩ = some tv := ⟨k0, k1, k3⟩
                        refine hK _ _ (.inr hSW1) ?_
                        clear hK K hSW
                        simp only [Act.put, List.setIfInBounds_toArray, List.set_cons_zero, List.set_cons_succ]
                        refine Until.take_any (i := 16) (v := ?_) rfl (by kernel_rfl) (by kernel_rfl) (by kernel_rfl) (by kernel_rfl) (fun _ _ _ h => h) (.inr hSW1) (Or.inl ⟨by rfl, ?_⟩) ?_
                        rotate_left
                        · intro w; go_simp; try with_reducible rfl
                        simp only [Act.put, List.setIfInBounds_toArray, List.set_cons_zero, List.set_cons_succ]
                        refine Until.take_any (i := 17) (v := ?_) rfl (by kernel_rfl) (by kernel_rfl) (by kernel_rfl) (by kernel_rfl) (fun _ _ _ h => h) (.inr hSW1) (Or.inl ⟨by rfl, ?_⟩) ?_
                        rotate_left
                        · intro w; go_simp; try with_reducible rfl
                        simp only [Act.put, List.setIfInBounds_toArray, List.set_cons_zero, List.set_cons_succ]
                        refine Until.only (i := 18) (by kernel_rfl) rfl (fun K hK => ?_)
                        go_simp
                        refine hK _ _ (.inl (by kernel_rfl)) ?_
                        clear hK K hSW1
                        refine Until.done (by kernel_rfl) ?_ _
                        go_wp2
                        go_meet
                        case rel => exact ⟨_, (HS.out.drewN 1).text hgrow (by unfold OwnB; rw [List.length_append, Lp.bs_len, List.map_append, ← HNW.out]; exact hown') hat⟩
                    case rest =>
                      obtain ⟨tv2, HS2⟩ := hcut
                      go_wp2
                      go_roundg (n - p2)
                      case measure => omega
                      case rel =>
                        refine ⟨p2, true, tv2, ts ++ Lp.bs (p2 - p), by omega, by omega, rfl, rfl, HS2, by simp [Lp.bs_len]; omega, (by intro hh; cases hh), ?_⟩
                        unfold Hid; rw [HR'.out]; simp [cur]
        · as_aux_lemma =>
            have h92b : (x == 92) = false := by simp [h92]
            obtain ⟨dx, hdx⟩ : ∃ dx, dx = D x := ⟨_, rfl⟩
            rw [← hdx] at gD M5 M6
            clear hdx
            go_wp2
            go_quiet (fail)
            go_wp2
            go_quiet (fail)
            go_upto_if 198 with fail
            cases dx
            · have HR' : Hid (r = Lp.ahead (cur zs pos e ts p ++ [x]) (Lp.mda E D zs (p + 1) 0)) := by
                unfold Hid; rw [HR.out, M6.out h92 (by first | rfl | trivial), Lp.ahead_ahead]
              go_upto_if 209 with fail
              cases e
              · go_wp2
                go_roundg (n - (p + 1))
                case measure => omega
                case rel =>
                  refine ⟨p + 1, false, tv, ts, by omega, by omega, rfl, rfl, ?_, by omega, fun _ => HT.out (by first | rfl | trivial), ?_⟩
                  · exact (HS.out.drewN _).pos (p + 1)
                  · unfold Hid cur; rw [HR'.out]; simp only [cur, Bool.false_eq_true, if_false]; rw [SG.out]
              · have hown := HS.out.own
                unfold OwnB at hown
                go_wp2_with (at_builtin; refine wpList_append_any _ rfl (.tmp 214) (.tmp 216) 22 rfl 5 i0 (.int .u8 0) 1 Try.underlying22 hi hz0 hz1 hz2 rfl _ _ _ rfl (World.ownsRow.alloc (w := wr.drewN _) hown _) ⟨wr.heap.size, 0, none⟩ 1 1 [.int .u8 x] rfl rfl (cell_one_new _ _ _) (by intro u hu; simp at hu; subst hu; rfl) (by unfold maxLen; omega) (by omega) ?_)
                intro a' c' w2 hown' hgrow hat
                obtain ⟨k0, k1, k3, f1, f3⟩ := (HS.out.drewN _).farA _ hgrow
                have hst := (HS.out.drewN _).textA _ hgrow (ts' := ts ++ [x]) (by unfold OwnB; simpa using hown') hat
                have HST : Hid (St R (.slice (some ⟨b, o, none⟩) n c) T0 w (w2.setCell ⟨R, 3, none⟩ (.slice a' (ts.length + 1) c')) p (.slice a' (ts.length + 1) c') (ts ++ [x])) := hst
                clear hown' hgrow hat hst hown g0 g1 g3 gf1 gf3 gi gD
                go_wp2
                go_roundg (n - (p + 1))
                case measure => omega
                case rel =>
                  refine ⟨p + 1, true, _, ts ++ [x], by omega, by omega, rfl, rfl, HST.out.pos (p + 1), by simp; omega, (by intro hh; cases hh), ?_⟩
                  unfold Hid; rw [HR'.out]; simp [cur]
            · go_wp2_with fail
              refine (read_any R _ n c T0 w _ p tv ts pos e zs (HS.out.drewN _) ((h.out.rdAt HS.out).drewN _) hpp hpn hnc hn).mono ?_
              rintro e2 w2 ⟨a', l', c', m, rfl, hrd, rfl⟩
              have HRD : Hid (Rd wr a' l' (cur zs pos e ts p)) := hrd
              clear hrd
              go_wp2
              go_ret2
              exact name_fin HS.out HRD.out (by rw [HR.out, M5.out h92 (by first | rfl | trivial)]; simp [Lp.ahead]) _
      · as_aux_lemma =>
          obtain rfl : p = n := by omega
          go_wp2
          go_quiet (fail)
          go_wp2_with fail
          refine (read_any R ao p c T0 w _ p tv ts pos e zs (HS.out.drewN nq) ((h.out.rdAt HS.out).drewN nq) hpp (Nat.le_refl _) hnc hn).mono ?_
          rintro e2 w2 ⟨a', l', c', m, rfl, hrd, rfl⟩
          have HRD : Hid (Rd wr a' l' (cur zs pos e ts p)) := hrd
          clear hrd
          go_wp2
          go_ret2
          exact name_fin HS.out HRD.out (by rw [HR.out, Lp.mda_out E D zs p 0 (by rw [L.out]; omega)]; simp [Lp.ahead, Lp.bs]) _
end Go.Proofs.Qxb6603471a
