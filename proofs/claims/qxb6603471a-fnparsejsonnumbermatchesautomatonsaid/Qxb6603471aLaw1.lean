import Derived.Test.Qxb6603471aZZ
import Derived.Test.Qxb6603471aMove
import Derived.Test.Qxb6603471aArg
import Derived.Test.Qxb6603471aJsonLaw
import Derived.Deep.CutBlock
namespace Go.Proofs.Qxb6603471a
open Go.RowKit
set_option linter.unusedSimpArgs false
set_option linter.unusedVariables false

set_option maxHeartbeats 400000 in
/-- the bound on the length -/
theorem size1 (a : Option Addr) (n c : Nat) (w : World) (hn : n ≤ 9223372036854775807) :
    Calls Try.prog 10 #[.slice a n c] w fun e w' => e = .returned (.bool (decide (n ≤ 1048576))) ∧ w = w' := by
  by_cases h : n ≤ 1048576
  · go_enter Try.func10, Try.ntmps10
    go_wp2
    go_ret
    exact ⟨by simp [h], rfl⟩
  · go_enter Try.func10, Try.ntmps10
    go_wp2
    go_ret
    exact ⟨by simp [h], rfl⟩

/-- The automaton's loop: what holds at each round's head. -/
def Rel1 (W1 : World) (zs : List Int) (n : Nat) (s9 v10 v11 v12 s13 : Value) (wr : World) : Prop :=
  ∃ (k : Nat) (s : Int) (wi wf we : List Int), k ≤ n ∧ s13 = .int .i64 k ∧ s9 = .int .i64 s ∧ 0 ≤ s ∧ s ≤ 8 ∧
    wi.length ≤ k ∧ wf.length ≤ k ∧ we.length ≤ k ∧
    Hid (Json.aut 0 zs = Json.Aut.behind k wi wf we (Json.aut s (zs.drop k))) ∧
    OwnB wr W1.heap.size v10 wi ∧ OwnB wr W1.heap.size v11 wf ∧ OwnB wr W1.heap.size v12 we ∧ Apart v10 v11 ∧ Apart v10 v12 ∧ Apart v11 v12 ∧
    Below W1.heap.size W1 wr

/-- Behind the loop. -/
def Out1 (W1 : World) (zs : List Int) (n : Nat) (s9 v10 v11 v12 s13 : Value) (wr : World) : Prop :=
  ∃ (k : Nat) (s : Int) (wi wf we : List Int), k ≤ n ∧ s13 = .int .i64 k ∧ s9 = .int .i64 s ∧ 0 ≤ s ∧ s ≤ 8 ∧
    wi.length ≤ k ∧ wf.length ≤ k ∧ we.length ≤ k ∧
    Hid (Json.aut 0 zs = { s := s, k := k, i := wi, f := wf, e := we }) ∧
    OwnB wr W1.heap.size v10 wi ∧ OwnB wr W1.heap.size v11 wf ∧ OwnB wr W1.heap.size v12 we ∧
    Below W1.heap.size W1 wr

theorem mv_range (s c : Int) (h : ¬ Json.mv s c < 0) : 0 ≤ Json.mv s c ∧ Json.mv s c ≤ 8 := by
  revert h
  unfold Json.mv
  repeat' split
  all_goals omega

theorem move_at (s c t : Int) (w : World) (ht : Hid (Json.mv s c = t)) (h1 : 0 ≤ s) (h2 : s ≤ 8) (h3 : 0 ≤ c) (h4 : c ≤ 255) :
    Calls Try.prog 13 #[.int .i64 s, .int .u8 c] w fun e w' => e = .returned (.int .i64 t) ∧ w = w' := by
  rw [← ht.out]
  refine (move_any s c w h1 h2 h3 h4).mono ?_
  rintro e w' ⟨rfl, rfl⟩
  exact ⟨rfl, rfl⟩

/-- 'sameBytes' of two slices that read alike. -/
theorem same_eq (a1 a2 : Option Addr) (n1 n2 c1 c2 : Nat) (xs : List Int) (w w0 : World) (m : Nat) (hw : w = w0.drewN m) (h1 : Hid (Rd w0 a1 n1 xs)) (h2 : Hid (Rd w0 a2 n2 xs))
    (b1 : n1 ≤ 1048576) :
    Calls Try.prog 14 #[.slice a1 n1 c1, .slice a2 n2 c2] w fun e w' => e = .returned (.bool true) ∧ ∃ m', w' = w0.drewN m' := by
  subst hw
  have e : n2 = n1 := by rw [← h1.out.1, ← h2.out.1]
  refine (same_any a1 a2 n1 n2 c1 c2 xs xs _ (h1.out.drewN m) (h2.out.drewN m) (by omega) (by omega)).mono ?_
  rintro e w' ⟨rfl, m', rfl⟩
  exact ⟨by simp, m + m', by simp⟩

set_option maxRecDepth 100000 in
set_option maxHeartbeats 1000000 in
theorem walk_in (a0 : Option Addr) (n c : Nat) (zs : List Int) (w : World) (h : Arg w a0 n c zs) (hn : n ≤ 1048576) :
    Calls Try.prog 3 #[.slice a0 n c] w fun e w' => e = .returned (.bool true) ∧ Below w.heap.size w w' := by
  obtain ⟨i0, hi, hz0, hz1, hz2⟩ := info_parts Try.info5
  have HA : Hid (Arg w a0 n c zs) := h
  clear h
  go_enter Try.func3, Try.ntmps3
  go_wp2_with (go_at_call 10; refine (size1 _ _ _ _ (by omega)).mono ?_; rintro e w' ⟨rfl, rfl⟩)
  refine (clone_any a0 n c zs _ HA.out (by omega)).mono ?_
  rintro e w1 ⟨ao, c', rfl, hc', hrd, hb1⟩
  have HR : Hid (Rd w1 ao n zs) := hrd
  clear hrd
  go_wp2_with fail
  refine (zz_any ao n c' zs _ HR.out (by omega) hc').mono ?_
  rintro e W1 ⟨hb2, a1, n1, c1, ng, ai, ni, ci, af, nf, cf, ae, ne, ce, ok, rfl, p1, p2⟩
  have HP : Hid ((Json.bad zs → n1 = 0 ∧ ng = false ∧ ni = 0 ∧ nf = 0 ∧ ne = 0 ∧ ok = false) ∧
      (¬ Json.bad zs → Rd w1 a1 n1 zs ∧ ng = decide (Json.at0 zs 0 = 45) ∧ Rd w1 ai ni (Json.intP zs) ∧ Rd w1 af nf (Json.fracP zs) ∧ Rd w1 ae ne (Json.expP zs) ∧ ok = decide (Json.tE zs = zs.length))) := ⟨p1, p2⟩
  clear p1 p2
  have HR1 : Hid (Rd W1 ao n zs) := HR.out.below hb2
  go_upto_block 0 with fail
  go_cut [9, 10, 11, 12, 13] (fun s9 v10 v11 v12 s13 wr => Out1 W1 zs n s9 v10 v11 v12 s13 wr)
  case first =>
    go_wp2_with fail
    go_loopw [9, 10, 11, 12, 13] (fun s9 v10 v11 v12 s13 wr => Rel1 W1 zs n s9 v10 v11 v12 s13 wr) (fun _ _ _ _ s13 _ => n - (intOf s13).toNat)
    case atStart => exact ⟨0, 0, [], [], [], Nat.zero_le _, rfl, rfl, by omega, by omega, by simp, by simp, by simp, by simp [Json.Aut.behind, Hid], OwnB.nil _ _, OwnB.nil _ _, OwnB.nil _ _, .inl rfl, .inl rfl, .inl rfl, Below.refl _ _⟩
    case round =>
      obtain ⟨k, s, wi, wf, we, hk, rfl, rfl, hs0, hs8, l1, l2, l3, HE, o1, o2, o3, ap12, ap13, ap23, hb⟩ := hrel
      by_cases hlt : k < n
      · obtain ⟨b, o, rfl, hcell⟩ := HR1.out.2.resolve_left (by omega)
        have g0 : wr.cell? ⟨b, o + k, none⟩ = some (.int .u8 (Json.at0 zs k)) := (hb.cell (World.block_lt_of_cell? W1 _ (hcell k hlt))).trans (hcell k hlt)
        have hbl : b < wr.heap.size := by have := World.block_lt_of_cell? W1 _ (hcell k hlt); have := hb.size; simp at *; omega
        clear hcell
        have hby := HA.out.2.2.2 k
        rw [← Json.at0_getD] at hby
        obtain ⟨x, hx⟩ : ∃ x, x = Json.at0 zs k := ⟨_, rfl⟩
        rw [← hx] at g0 hby
        obtain ⟨hx0, hx1⟩ := hby
        obtain ⟨t, ht⟩ : ∃ t, Json.mv s x = t := ⟨_, rfl⟩
        have HT : Hid (Json.mv s x = t) := ht
        have hst := Json.aut_step s zs k
        rw [← hx, ht] at hst
        have HST : Hid (Json.aut s (zs.drop k) = if t < 0 then Json.stop s else (Json.aut t (zs.drop (k + 1))).push t x) := hst
        have hrg := mv_range s x
        rw [ht] at hrg
        clear hst hx ht
        by_cases ht0 : t < 0
        · go_wp2_with (go_at_call 13; refine (move_at s x t wr HT hs0 hs8 hx0 hx1).mono ?_; rintro e w' ⟨rfl, rfl⟩)
          go_meet
          case rel =>
            refine ⟨k, s, wi, wf, we, hk, rfl, rfl, hs0, hs8, l1, l2, l3, ?_, o1, o2, o3, hb⟩
            unfold Hid
            rw [HE.out, HST.out, if_pos ht0]
            simp [Json.Aut.behind, Json.stop]
        · obtain ⟨ht1, ht2⟩ := hrg ht0
          clear hrg
          have HN : Hid (Json.aut 0 zs = Json.Aut.behind (k + 1) (if t = 2 ∨ t = 3 then wi ++ [x] else wi) (if t = 5 then wf ++ [x] else wf) (if t = 7 ∨ t = 8 then we ++ [x] else we) (Json.aut t (zs.drop (k + 1)))) := by
            unfold Hid
            rw [HE.out, HST.out, if_neg ht0, Json.behind_push]
          rcases (show (t = 2 ∨ t = 3) ∨ t = 5 ∨ (t = 7 ∨ t = 8) ∨ (t = 0 ∨ t = 1 ∨ t = 4 ∨ t = 6) by omega) with h23 | h5 | h78 | hno
          · rcases h23 with h2 | h2
            all_goals
              go_wp2_with (first | (go_at_call 13; refine (move_at s x t wr HT hs0 hs8 hx0 hx1).mono ?_; rintro e w' ⟨rfl, rfl⟩) | (at_builtin; refine wpList_append_own_at _ rfl (.tmp 52) (.tmp 57) 22 rfl W1.heap.size 5 i0 (.int .u8 0) 1 1 Try.underlying22 hi hz0 hz1 hz2 rfl (by decide) _ _ _ rfl (o1.alloc _) ⟨wr.heap.size, 0, none⟩ 1 1 [.int .u8 x] rfl rfl (cell_one_new _ _ _) (by intro u hu; simp at hu; subst hu; rfl) (by unfold maxLen; omega) (by omega) (by have := hb.size; simp; omega) ?_))
              · intro v' w2 hown' hgrow _ hat
                obtain ⟨o2', aq2⟩ := beside o2 ap12.symm _ hgrow hat
                obtain ⟨o3', aq3⟩ := beside o3 ap13.symm _ hgrow hat
                have hb' := (hb.alloc hb.size _).grown hgrow (by have := hb.size; simp; omega) (fun g hg => (o1.lt g hg).1)
                clear hgrow hat o1 o2 o3
                go_wp2
                go_roundw
                case rel =>
                  refine ⟨k + 1, t, wi ++ [x], wf, we, by omega, by go_num, by rw [h2], by omega, by omega, by simp; omega, by omega, by omega, ?_, ?_, o2', o3', aq2.symm, aq3.symm, ap23, hb'⟩
                  · have := HN.out; unfold Hid; simp only [h2] at this ⊢; simpa using this
                  · simpa [OwnB] using hown'
                case measure => simp [intOf]; omega
          · have h2 := h5
            all_goals
              go_wp2_with (first | (go_at_call 13; refine (move_at s x t wr HT hs0 hs8 hx0 hx1).mono ?_; rintro e w' ⟨rfl, rfl⟩) | (at_builtin; refine wpList_append_own_at _ rfl (.tmp 61) (.tmp 66) 22 rfl W1.heap.size 5 i0 (.int .u8 0) 1 1 Try.underlying22 hi hz0 hz1 hz2 rfl (by decide) _ _ _ rfl (o2.alloc _) ⟨wr.heap.size, 0, none⟩ 1 1 [.int .u8 x] rfl rfl (cell_one_new _ _ _) (by intro u hu; simp at hu; subst hu; rfl) (by unfold maxLen; omega) (by omega) (by have := hb.size; simp; omega) ?_))
              · intro v' w2 hown' hgrow _ hat
                obtain ⟨o1', aq1⟩ := beside o1 ap12 _ hgrow hat
                obtain ⟨o3', aq3⟩ := beside o3 ap23.symm _ hgrow hat
                have hb' := (hb.alloc hb.size _).grown hgrow (by have := hb.size; simp; omega) (fun g hg => (o2.lt g hg).1)
                clear hgrow hat o1 o2 o3
                go_wp2
                go_roundw
                case rel =>
                  refine ⟨k + 1, t, wi, wf ++ [x], we, by omega, by go_num, by rw [h2], by omega, by omega, by omega, by simp; omega, by omega, ?_, o1', ?_, o3', aq1, ap13, aq3.symm, hb'⟩
                  · have := HN.out; unfold Hid; simp only [h2] at this ⊢; simpa using this
                  · simpa [OwnB] using hown'
                case measure => simp [intOf]; omega
          · rcases h78 with h2 | h2
            all_goals
              go_wp2_with (first | (go_at_call 13; refine (move_at s x t wr HT hs0 hs8 hx0 hx1).mono ?_; rintro e w' ⟨rfl, rfl⟩) | (at_builtin; refine wpList_append_own_at _ rfl (.tmp 74) (.tmp 79) 22 rfl W1.heap.size 5 i0 (.int .u8 0) 1 1 Try.underlying22 hi hz0 hz1 hz2 rfl (by decide) _ _ _ rfl (o3.alloc _) ⟨wr.heap.size, 0, none⟩ 1 1 [.int .u8 x] rfl rfl (cell_one_new _ _ _) (by intro u hu; simp at hu; subst hu; rfl) (by unfold maxLen; omega) (by omega) (by have := hb.size; simp; omega) ?_))
              · intro v' w2 hown' hgrow _ hat
                obtain ⟨o1', aq1⟩ := beside o1 ap13 _ hgrow hat
                obtain ⟨o2', aq2⟩ := beside o2 ap23 _ hgrow hat
                have hb' := (hb.alloc hb.size _).grown hgrow (by have := hb.size; simp; omega) (fun g hg => (o3.lt g hg).1)
                clear hgrow hat o1 o2 o3
                go_wp2
                go_roundw
                case rel =>
                  refine ⟨k + 1, t, wi, wf, we ++ [x], by omega, by go_num, by rw [h2], by omega, by omega, by omega, by omega, by simp; omega, ?_, o1', o2', ?_, ap12, aq1, aq2, hb'⟩
                  · have := HN.out; unfold Hid; simp only [h2] at this ⊢; simpa using this
                  · simpa [OwnB] using hown'
                case measure => simp [intOf]; omega
          · rcases hno with h2 | h2 | h2 | h2
            all_goals
              go_wp2_with (go_at_call 13; refine (move_at s x t wr HT hs0 hs8 hx0 hx1).mono ?_; rintro e w' ⟨rfl, rfl⟩)
              go_roundw
              case rel =>
                refine ⟨k + 1, t, wi, wf, we, by omega, by go_num, by rw [h2], by omega, by omega, by omega, by omega, by omega, ?_, o1, o2, o3, ap12, ap13, ap23, hb⟩
                have := HN.out; unfold Hid; simp only [h2] at this ⊢; simpa using this
              case measure => simp [intOf]; omega
      · go_wp2
        go_meet
        case rel =>
          refine ⟨k, s, wi, wf, we, hk, rfl, rfl, hs0, hs8, l1, l2, l3, ?_, o1, o2, o3, hb⟩
          unfold Hid
          rw [HE.out, List.drop_of_length_le (by rw [HR1.out.1]; omega)]
          simp [Json.Aut.behind, Json.aut]
  case rest =>
    obtain ⟨k, s, wi, wf, we, hk, rfl, rfl, hs0, hs8, l1, l2, l3, HE, o1, o2, o3, hb⟩ := hcut
    have hbw : Below w.heap.size w wc := (hb1.trans (hb2.mono hb1.size)).trans (hb.mono (Nat.le_trans hb1.size hb2.size))
    have hlaw := Json.law zs
    rw [HE.out] at hlaw
    by_cases hbad : Json.bad zs
    · obtain ⟨rfl, rfl, rfl, rfl, rfl, rfl⟩ := HP.out.1 hbad
      have hna := hlaw.1 hbad
      unfold Json.acc at hna
      have e2 : ¬ s = 2 := fun e => hna (.inl e)
      have e3 : ¬ s = 3 := fun e => hna (.inr (.inl e))
      have e5 : ¬ s = 5 := fun e => hna (.inr (.inr (.inl e)))
      have e8 : ¬ s = 8 := fun e => hna (.inr (.inr (.inr e)))
      have b2 : (s == 2) = false := by simp [e2]
      have b3 : (s == 3) = false := by simp [e3]
      have b5 : (s == 5) = false := by simp [e5]
      have b8 : (s == 8) = false := by simp [e8]
      clear hlaw hna hbad HP e2 e3 e5 e8
      go_wp2
      go_ret
      exact ⟨rfl, hbw⟩
    · obtain ⟨hacc, hkt, hwi, hwf, hwe⟩ := hlaw.2 hbad
      simp only at hacc hkt hwi hwf hwe
      obtain ⟨r0, hng, ri, rf, re, hok⟩ := HP.out.2 hbad
      have hl : zs.length = n := HR.out.1
      have hn0 : 0 < n := by
        have : ¬ zs = [] := fun e => hbad (e ▸ bad_nil)
        rw [← hl]; exact List.length_pos_iff.2 this
      rw [← hkt, hl] at hok
      rw [← hwi] at ri
      rw [← hwf] at rf
      rw [← hwe] at re
      have below1 : Below w1.heap.size w1 wc := hb2.trans (hb.mono hb2.size)
      obtain ⟨a10, c10, rfl, q1⟩ := rd_of_ownB o1
      obtain ⟨a11, c11, rfl, q2⟩ := rd_of_ownB o2
      obtain ⟨a12, c12, rfl, q3⟩ := rd_of_ownB o3
      have T0 : Hid (Rd wc a1 n1 zs) := r0.below below1
      have T0' : Hid (Rd wc ao n zs) := HR.out.below below1
      have T1 : Hid (Rd wc ai ni wi) := ri.below below1
      have T1' : Hid (Rd wc a10 wi.length wi) := q1
      have T2 : Hid (Rd wc af nf wf) := rf.below below1
      have T2' : Hid (Rd wc a11 wf.length wf) := q2
      have T3 : Hid (Rd wc ae ne we) := re.below below1
      have T3' : Hid (Rd wc a12 we.length we) := q3
      have hn1 : n1 = n := by rw [← r0.1, hl]
      have hni : ni = wi.length := ri.1.symm
      have hnf : nf = wf.length := rf.1.symm
      have hne : ne = we.length := re.1.symm
      have bi : ni ≤ 1048576 := by omega
      have bf : nf ≤ 1048576 := by omega
      have be : ne ≤ 1048576 := by omega
      have b1 : n1 ≤ 1048576 := by omega
      obtain ⟨b, o, rfl, hcell⟩ := HR1.out.2.resolve_left (by omega)
      have g0 : wc.cell? ⟨b, o, none⟩ = some (.int .u8 (Json.at0 zs 0)) := (hb.cell (World.block_lt_of_cell? W1 _ (hcell 0 hn0))).trans (hcell 0 hn0)
      obtain ⟨x, hx⟩ : ∃ x, x = Json.at0 zs 0 := ⟨_, rfl⟩
      rw [← hx] at g0 hng
      clear hx hcell r0 ri rf re q1 q2 q3 o1 o2 o3 hlaw HP hl hwi hwf hwe hkt hbad hn1 hni hnf hne
      go_upto_region 21 with fail
      go_cut [15] (fun v wx => v = .bool true ∧ wx = wc)
      case first =>
        unfold Json.acc at hacc
        clear hok hng
        rcases hacc with e | e | e | e
        all_goals
          go_wp2
          go_meet
          case rel => exact ⟨rfl, rfl⟩
      case rest =>
        obtain ⟨rfl, rfl⟩ := hcut
        clear hacc
        by_cases hkn : k = n
        · have hok' : ok = true := by simp [hok, hkn]
          subst hok'
          clear hok
          subst hkn
          by_cases h45 : x = 45
          · have hng' : ng = true := by simp [hng, h45]
            subst hng'
            clear hng
            go_wp2_with fail
            refine (same_eq a1 (some ⟨b, o, none⟩) n1 k c1 c' zs _ wc 0 rfl T0 T0' b1).mono ?_
            rintro e w2 ⟨rfl, m1, rfl⟩
            go_wp2_with fail
            refine (same_eq ai a10 ni wi.length ci c10 wi _ wc m1 rfl T1 T1' bi).mono ?_
            rintro e w2 ⟨rfl, m2, rfl⟩
            go_wp2_with fail
            refine (same_eq af a11 nf wf.length cf c11 wf _ wc m2 rfl T2 T2' bf).mono ?_
            rintro e w2 ⟨rfl, m3, rfl⟩
            go_wp2_with fail
            refine (same_eq ae a12 ne we.length ce c12 we _ wc m3 rfl T3 T3' be).mono ?_
            rintro e w2 ⟨rfl, m4, rfl⟩
            go_wp2
            go_ret
            exact ⟨rfl, below_drewN hbw _⟩
          · have hng' : ng = false := by simp [hng, h45]
            subst hng'
            have h45b : (x == 45) = false := by simp [h45]
            clear hng
            go_wp2_with fail
            refine (same_eq a1 (some ⟨b, o, none⟩) n1 k c1 c' zs _ wc 0 rfl T0 T0' b1).mono ?_
            rintro e w2 ⟨rfl, m1, rfl⟩
            go_wp2_with fail
            refine (same_eq ai a10 ni wi.length ci c10 wi _ wc m1 rfl T1 T1' bi).mono ?_
            rintro e w2 ⟨rfl, m2, rfl⟩
            go_wp2_with fail
            refine (same_eq af a11 nf wf.length cf c11 wf _ wc m2 rfl T2 T2' bf).mono ?_
            rintro e w2 ⟨rfl, m3, rfl⟩
            go_wp2_with fail
            refine (same_eq ae a12 ne we.length ce c12 we _ wc m3 rfl T3 T3' be).mono ?_
            rintro e w2 ⟨rfl, m4, rfl⟩
            go_wp2
            go_ret
            exact ⟨rfl, below_drewN hbw _⟩
        · have hok' : ok = false := by simp [hok, hkn]
          subst hok'
          clear hok
          have hkb : ((k : Int) == (n : Int)) = false := by simp; omega
          by_cases h45 : x = 45
          · have hng' : ng = true := by simp [hng, h45]
            subst hng'
            clear hng
            go_wp2_with fail
            refine (same_eq a1 (some ⟨b, o, none⟩) n1 n c1 c' zs _ wc 0 rfl T0 T0' b1).mono ?_
            rintro e w2 ⟨rfl, m1, rfl⟩
            go_wp2_with fail
            refine (same_eq ai a10 ni wi.length ci c10 wi _ wc m1 rfl T1 T1' bi).mono ?_
            rintro e w2 ⟨rfl, m2, rfl⟩
            go_wp2_with fail
            refine (same_eq af a11 nf wf.length cf c11 wf _ wc m2 rfl T2 T2' bf).mono ?_
            rintro e w2 ⟨rfl, m3, rfl⟩
            go_wp2_with fail
            refine (same_eq ae a12 ne we.length ce c12 we _ wc m3 rfl T3 T3' be).mono ?_
            rintro e w2 ⟨rfl, m4, rfl⟩
            go_wp2
            go_ret
            exact ⟨rfl, below_drewN hbw _⟩
          · have hng' : ng = false := by simp [hng, h45]
            subst hng'
            have h45b : (x == 45) = false := by simp [h45]
            clear hng
            go_wp2_with fail
            refine (same_eq a1 (some ⟨b, o, none⟩) n1 n c1 c' zs _ wc 0 rfl T0 T0' b1).mono ?_
            rintro e w2 ⟨rfl, m1, rfl⟩
            go_wp2_with fail
            refine (same_eq ai a10 ni wi.length ci c10 wi _ wc m1 rfl T1 T1' bi).mono ?_
            rintro e w2 ⟨rfl, m2, rfl⟩
            go_wp2_with fail
            refine (same_eq af a11 nf wf.length cf c11 wf _ wc m2 rfl T2 T2' bf).mono ?_
            rintro e w2 ⟨rfl, m3, rfl⟩
            go_wp2_with fail
            refine (same_eq ae a12 ne we.length ce c12 we _ wc m3 rfl T3 T3' be).mono ?_
            rintro e w2 ⟨rfl, m4, rfl⟩
            go_wp2
            go_ret
            exact ⟨rfl, below_drewN hbw _⟩
end Go.Proofs.Qxb6603471a
