import Derived.Test.Qxb6603471aBytes
import Derived.Test.Qxb6603471aJsonPlain
import Derived.Deep.DeepCutAuto
namespace Go.Proofs.Qxb6603471a
open Go.RowKit
set_option linter.unusedSimpArgs false
set_option linter.unusedVariables false

theorem cell_of_at0 {w : World} {b o n : Nat} {zs : List Int} (hc : ∀ i, i < n → w.cell? ⟨b, o + i, none⟩ = some (.int .u8 (zs.getD i 0))) (k : Nat) (hk : k < n) :
    w.cell? ⟨b, o + k, none⟩ = some (.int .u8 (Json.at0 zs k)) := hc k hk

set_option maxHeartbeats 400000 in
/-- 'skipDigits' -/
theorem skip_any (ao : Option Addr) (n c : Nat) (zs : List Int) (w : World) (h : Rd w ao n zs) (i : Nat) (hi : i ≤ n) (hn : n ≤ 1073741824) :
    Calls Try.prog 49 #[.slice ao n c, .int .i64 i] w fun e w' => e = .returned (.int .i64 (Json.skip zs i)) ∧ w' = w := by
  obtain ⟨l, h⟩ := h
  have L : Hid (zs.length = n) := l
  clear l
  have H : Hid (n = 0 ∨ ∃ b o, ao = some ⟨b, o, none⟩ ∧ ∀ i, i < n → w.cell? ⟨b, o + i, none⟩ = some (.int .u8 (zs.getD i 0))) := h
  clear h
  go_enter Try.func49, Try.ntmps49
  go_wp2
  go_loop [1] (fun t => ∃ k : Nat, k ≤ n ∧ t = .int .i64 k ∧ Hid (Json.skip zs i = Json.skip zs k)) (fun t => n - (intOf t).toNat)
  case atStart => exact ⟨i, hi, rfl, rfl⟩
  case round =>
    obtain ⟨k, hk, rfl, HE⟩ := hrel
    by_cases hlt : k < n
    · obtain ⟨b, o, rfl, hc⟩ := H.out.resolve_left (by omega)
      have g := cell_of_at0 hc k hlt
      have s1 := Json.skip_step zs k (by rw [L.out]; exact hlt)
      have s2 := Json.skip_stop zs k (by rw [L.out]; exact hlt)
      have S1 : Hid (48 ≤ Json.at0 zs k → Json.at0 zs k ≤ 57 → Json.skip zs (k + 1) = Json.skip zs k) := s1
      have S2 : Hid (¬(48 ≤ Json.at0 zs k ∧ Json.at0 zs k ≤ 57) → Json.skip zs k = k) := s2
      clear s1 s2 hc
      by_cases hd : 48 ≤ Json.at0 zs k ∧ Json.at0 zs k ≤ 57
      · obtain ⟨d1, d2⟩ := hd
        go_wp2
        go_round
        case rel => exact ⟨k + 1, by omega, by go_num, by rw [S1.out d1 d2]; exact HE⟩
        case measure => simp [intOf]; omega
      · by_cases d1 : 48 ≤ Json.at0 zs k
        · have d2 : ¬ Json.at0 zs k ≤ 57 := fun d2 => hd ⟨d1, d2⟩
          go_wp2
          go_ret
          refine ⟨?_, rfl⟩
          rw [HE.out, S2.out hd]
          rfl
        · go_wp2
          go_ret
          refine ⟨?_, rfl⟩
          rw [HE.out, S2.out hd]
          rfl
    · go_wp2
      go_ret
      refine ⟨?_, rfl⟩
      rw [HE.out, Json.skip_end zs k (by rw [L.out]; omega)]
      rfl
theorem Rd.nil (w : World) (ao : Option Addr) : Rd w ao 0 [] := ⟨rfl, .inl rfl⟩

theorem Rd.sub {w : World} {b o n : Nat} {zs : List Int} (h : Rd w (some ⟨b, o, none⟩) n zs) (i j : Nat) (hij : i ≤ j) (hj : j ≤ n) : Rd w (some ⟨b, o + i, none⟩) (j - i) (Json.seg zs i j) := by
  obtain ⟨hl, h⟩ := h
  refine ⟨Json.seg_length zs i j hij (by omega), ?_⟩
  by_cases e : j - i = 0
  · exact .inl e
  · obtain ⟨b', o', e', hc⟩ := h.resolve_left (by omega)
    simp only [Option.some.injEq, Addr.mk.injEq, and_true] at e'
    obtain ⟨rfl, rfl⟩ := e'
    refine .inr ⟨b, o + i, rfl, fun k hk => ?_⟩
    rw [Nat.add_assoc, hc (i + k) (by omega), Json.seg_getD zs i j k (by omega)]
    rfl

/-- What 'parseJSONNumber' gives where it refuses. -/
abbrev vNone : Value := .tuple #[.agg #[.slice none 0 0, .bool false, .slice none 0 0, .slice none 0 0, .slice none 0 0], .bool false]

def ParsePost (w : World) (zs : List Int) (b o n c : Nat) (e : Ending) (w' : World) : Prop :=
  Below w.heap.size w w' ∧
  ((Json.bad zs ∧ e = .returned vNone) ∨
   (¬ Json.bad zs ∧ ∃ (ai : Option Addr) (ni ci : Nat) (af : Option Addr) (nf cf : Nat) (ae : Option Addr) (ne ce : Nat),
      e = .returned (.tuple #[.agg #[.slice (some ⟨b, o, none⟩) n c, .bool (decide (Json.at0 zs 0 = 45)), .slice ai ni ci, .slice af nf cf, .slice ae ne ce], .bool (decide (Json.tE zs = n))]) ∧
      Rd w ai ni (Json.intP zs) ∧ Rd w af nf (Json.fracP zs) ∧ Rd w ae ne (Json.expP zs)))

theorem post_bad {w : World} {zs : List Int} {b o n c : Nat} (hb : Json.bad zs) (x y : Obj) : ParsePost w zs b o n c (.returned vNone) ((w.alloc x).alloc y) :=
  ⟨((Below.refl _ _).alloc (Nat.le_refl _) _).alloc (by simp) _, .inl ⟨hb, rfl⟩⟩

theorem post_good {w : World} {zs : List Int} {b o n c : Nat} {ng ok : Bool} {ai af ae : Option Addr} {ni ci nf cf ne ce : Nat} (hnb : ¬ Json.bad zs) (hng : ng = decide (Json.at0 zs 0 = 45)) (hok : ok = decide (Json.tE zs = n))
    (hI : Rd w ai ni (Json.intP zs)) (hF : Rd w af nf (Json.fracP zs)) (hE : Rd w ae ne (Json.expP zs)) (x y : Obj) :
    ParsePost w zs b o n c (.returned (.tuple #[.agg #[.slice (some ⟨b, o, none⟩) n c, .bool ng, .slice ai ni ci, .slice af nf cf, .slice ae ne ce], .bool ok])) ((w.alloc x).alloc y) := by
  subst hng hok
  exact ⟨((Below.refl _ _).alloc (Nat.le_refl _) _).alloc (by simp) _, .inr ⟨hnb, ai, ni, ci, af, nf, cf, ae, ne, ce, rfl, hI, hF, hE⟩⟩

/-- No exponent's letter at r. -/
theorem noE {zs : List Int} {r : Nat} (hr : r = Json.rF zs) (h : ¬ (Json.at0 zs r = 101 ∨ Json.at0 zs r = 69)) :
    Json.tE zs = r ∧ Json.expP zs = [] ∧ ¬ ((Json.at0 zs (Json.rF zs) = 101 ∨ Json.at0 zs (Json.rF zs) = 69) ∧ Json.tE zs = Json.dE zs) := by
  subst hr
  refine ⟨?_, ?_, fun hh => h hh.1⟩
  · unfold Json.tE; rw [if_neg h]
  · unfold Json.expP; rw [if_neg h]

theorem noE_end {zs : List Int} {r : Nat} (h : zs.length ≤ r) : ¬ (Json.at0 zs r = 101 ∨ Json.at0 zs r = 69) := by
  rw [Json.getD_out zs r h]; omega

/-- No point at q. -/
theorem noF {zs : List Int} {q : Nat} (hq : q = Json.qI zs) (h : ¬ Json.at0 zs q = 46) :
    q = Json.rF zs ∧ Json.fracP zs = [] ∧ ¬ (Json.at0 zs (Json.qI zs) = 46 ∧ Json.rF zs = Json.qI zs + 1) := by
  subst hq
  refine ⟨?_, ?_, fun hh => h hh.1⟩
  · unfold Json.rF; rw [if_neg h]
  · unfold Json.fracP; rw [if_neg h]

/-- An exponent's letter at r; its digits begin at d and end at t. -/
theorem yesE {zs : List Int} {r d t : Nat} (hr : r = Json.rF zs) (h : Json.at0 zs r = 101 ∨ Json.at0 zs r = 69)
    (hd : d = if Json.at0 zs (r + 1) = 43 ∨ Json.at0 zs (r + 1) = 45 then r + 2 else r + 1) (ht : Json.skip zs d = t) :
    Json.dE zs = d ∧ Json.tE zs = t ∧ Json.expP zs = Json.seg zs (r + 1) t := by
  subst hr
  have e1 : Json.dE zs = d := by rw [hd]; rfl
  have e2 : Json.tE zs = t := by unfold Json.tE; rw [if_pos h, e1, ht]
  refine ⟨e1, e2, ?_⟩
  unfold Json.expP; rw [if_pos h, e2]

abbrev Z73 : Obj := .cells #[.slice none 0 0, .bool false, .slice none 0 0, .slice none 0 0, .slice none 0 0] 73
abbrev N73 (t : Value) (ng : Bool) (vi vf ve : Value) : Obj := .cells #[t, .bool ng, vi, vf, ve] 73

theorem Rd.alloc2 {w : World} {ao : Option Addr} {n : Nat} {zs : List Int} (h : Rd w ao n zs) (x y : Obj) : Rd ((w.alloc x).alloc y) ao n zs :=
  h.below (((Below.refl _ _).alloc (Nat.le_refl _) _).alloc (by simp) _)

/-- 'skipDigits', the places as they come. -/
theorem skip_at (ao : Option Addr) (n c : Nat) (zs : List Int) (w : World) (iv : Int) (i t : Nat) (h : Rd w ao n zs) (hiv : iv = (i : Int)) (ht : Hid (Json.skip zs i = t)) (hi : i ≤ n) (hn : n ≤ 1073741824) :
    Calls Try.prog 49 #[.slice ao n c, .int .i64 iv] w fun e w' => e = .returned (.int .i64 t) ∧ w' = w := by
  subst hiv
  refine (skip_any ao n c zs w h i hi hn).mono ?_
  rintro e w' ⟨rfl, rfl⟩
  rw [ht.out]
  exact ⟨rfl, rfl⟩

set_option maxRecDepth 100000 in
set_option maxHeartbeats 2000000 in
theorem parse_core (b o n c : Nat) (zs : List Int) (w : World) (h : Hid (Rd w (some ⟨b, o, none⟩) n zs)) (hn : n ≤ 1073741824) (hnc : n ≤ c) (h0 : 0 < n) (hb : b < w.heap.size)
    (hc : Hid (∀ i, i < n → w.cell? ⟨b, o + i, none⟩ = some (.int .u8 (Json.at0 zs i))))
    (g0 : w.cell? ⟨b, o, none⟩ = some (.int .u8 (Json.at0 zs 0)))  :
    Calls Try.prog 42 #[.slice (some ⟨b, o, none⟩) n c] w fun e w' => ParsePost w zs b o n c e w' := by
  go_enter Try.func42, Try.ntmps42
  go_upto_if 20 with fail
  go_cut [5] (fun i wx => ∃ p : Nat, Hid (p = Json.pI zs) ∧ p ≤ 1 ∧ i = .int .i64 p ∧ wx = (w.alloc Z73).alloc (N73 (.slice (some ⟨b, o, none⟩) n c) (decide (Json.at0 zs 0 = 45)) (.slice none 0 0) (.slice none 0 0) (.slice none 0 0)))
  case first =>
    by_cases h45 : Json.at0 zs 0 = 45
    · go_wp2
      go_meet
      case rel =>
        exact ⟨1, show 1 = Json.pI zs by simp [Json.pI, h45], by omega, rfl, by simp [h45]⟩
    · go_wp2
      go_meet
      case rel =>
        exact ⟨0, show 0 = Json.pI zs by simp [Json.pI, h45], by omega, rfl, by simp [h45]⟩
  case rest =>
    clear g0
    obtain ⟨p, hp, hp1, rfl, rfl⟩ := hcut
    obtain ⟨ng, hng⟩ : ∃ ng, ng = decide (Json.at0 zs 0 = 45) := ⟨_, rfl⟩
    rw [← hng]
    have HNG : Hid (ng = decide (Json.at0 zs 0 = 45)) := hng
    clear hng
    by_cases hpn : p < n
    · have g0 := hc.out p hpn
      obtain ⟨x, hx⟩ : ∃ x, x = Json.at0 zs p := ⟨_, rfl⟩
      rw [← hx] at g0
      have HX : Hid (x = Json.at0 zs p) := hx
      clear hx
      go_upto_if 35 with fail
      go_cut [5] (fun i wx => ∃ q : Nat, Hid (q = Json.qI zs) ∧ p ≤ q ∧ q ≤ n ∧ i = .int .i64 q ∧ wx = (w.alloc Z73).alloc (N73 (.slice (some ⟨b, o, none⟩) n c) ng (.slice none 0 0) (.slice none 0 0) (.slice none 0 0)))
      case first =>
        by_cases h48 : x = 48
        · go_wp2
          go_meet
          case rel =>
            refine ⟨p + 1, ?_, by omega, by omega, by go_num, rfl⟩
            unfold Json.qI Hid
            rw [← hp.out, ← HX.out, if_pos h48]
        · obtain ⟨q, hq⟩ : ∃ q, Json.skip zs p = q := ⟨_, rfl⟩
          have hq1 : p ≤ q := hq ▸ Json.skip_ge zs p
          have hq2 : q ≤ n := by have := Json.skip_le zs p (by rw [h.out.1]; omega); rw [h.out.1] at this; omega
          have HQ : Hid (Json.skip zs p = q) := hq
          clear hq
          go_wp2_with (go_at_call 49; refine (skip_at _ _ _ zs _ _ p q (h.out.alloc2 _ _) rfl HQ (by omega) hn).mono ?_; rintro e w' ⟨rfl, rfl⟩)
          go_meet
          case rel =>
            refine ⟨q, ?_, hq1, hq2, rfl, rfl⟩
            unfold Json.qI Hid
            rw [← hp.out, ← HX.out, if_neg h48, HQ.out]
      case rest =>
        clear g0
        obtain ⟨q, hq, hpq, hqn, rfl, rfl⟩ := hcut
        have hcp : ¬ c = p := by omega
        by_cases hqp : q = p
        · have hbad : Hid (Json.bad zs) := .inl (by rw [← hq.out, ← hp.out]; exact hqp)
          subst hqp
          go_wp2
          exact bodyPost_ret (v := vNone) (by simp [results, Try.results42, go_sem]) rfl (post_bad hbad.out _ _)
        · have hqp' : p < q := by omega
          have HI : Hid (Rd w (some ⟨b, o + p, none⟩) (q - p) (Json.intP zs)) := by
            have := h.out.sub p q hpq hqn
            unfold Json.intP; rw [← hp.out, ← hq.out]; exact this
          by_cases hqn' : q < n
          · have g0 := hc.out q hqn'
            obtain ⟨y, hy⟩ : ∃ y, y = Json.at0 zs q := ⟨_, rfl⟩
            rw [← hy] at g0
            have HY : Hid (y = Json.at0 zs q) := hy
            clear hy
            go_upto_if 61 with fail
            go_cut [5] (fun i wx => ∃ (r : Nat) (af : Option Addr) (nf cf : Nat), Hid (r = Json.rF zs) ∧ q ≤ r ∧ r ≤ n ∧ Hid (¬ (Json.at0 zs (Json.qI zs) = 46 ∧ Json.rF zs = Json.qI zs + 1)) ∧ Hid (Rd w af nf (Json.fracP zs)) ∧ i = .int .i64 r ∧ wx = (w.alloc Z73).alloc (N73 (.slice (some ⟨b, o, none⟩) n c) ng (.slice (some ⟨b, o + p, none⟩) (q - p) (c - p)) (.slice af nf cf) (.slice none 0 0)))
            case first =>
              by_cases h46 : y = 46
              · obtain ⟨r, hr⟩ : ∃ r, Json.skip zs (q + 1) = r := ⟨_, rfl⟩
                have hr1 : q + 1 ≤ r := hr ▸ Json.skip_ge zs (q + 1)
                have hr2 : r ≤ n := by have := Json.skip_le zs (q + 1) (by rw [h.out.1]; omega); rw [h.out.1] at this; omega
                have HR : Hid (Json.skip zs (q + 1) = r) := hr
                clear hr
                have HRF : Hid (Json.rF zs = r) := by
                  unfold Json.rF Hid
                  rw [← hq.out, ← HY.out, if_pos h46, HR.out]
                by_cases hrq : r = q + 1
                · have hbad : Hid (Json.bad zs) := .inr (.inl ⟨by rw [← hq.out, ← HY.out]; exact h46, by rw [HRF.out, ← hq.out]; exact hrq⟩)
                  subst hrq
                  by_cases hcq : c = q + 1
                  · go_wp2_with (go_at_call 49; refine (skip_at _ _ _ zs _ _ (q + 1) (q + 1) (h.out.alloc2 _ _) (by omega) HR (by omega) hn).mono ?_; rintro e w' ⟨rfl, rfl⟩)
                    exact bodyPost_ret (v := vNone) (by simp [results, Try.results42, go_sem]) rfl (post_bad hbad.out _ _)
                  · go_wp2_with (go_at_call 49; refine (skip_at _ _ _ zs _ _ (q + 1) (q + 1) (h.out.alloc2 _ _) (by omega) HR (by omega) hn).mono ?_; rintro e w' ⟨rfl, rfl⟩)
                    exact bodyPost_ret (v := vNone) (by simp [results, Try.results42, go_sem]) rfl (post_bad hbad.out _ _)
                · have hrq' : q + 1 < r := by omega
                  go_wp2_with (go_at_call 49; refine (skip_at _ _ _ zs _ _ (q + 1) r (h.out.alloc2 _ _) (by omega) HR (by omega) hn).mono ?_; rintro e w' ⟨rfl, rfl⟩)
                  go_meet
                  case rel =>
                    refine ⟨r, _, _, _, HRF.out.symm, by omega, hr2, ?_, ?_, rfl, rfl⟩
                    · rintro ⟨_, hh⟩
                      rw [HRF.out, ← hq.out] at hh
                      exact hrq hh
                    · have := h.out.sub (q + 1) r hr1 hr2
                      unfold Json.fracP Hid
                      rw [← hq.out, ← HY.out, if_pos h46, HRF.out]
                      exact this
              · have h46' : (y == 46) = false := by simp [h46]
                go_wp2
                go_meet
                case rel =>
                  refine ⟨q, none, 0, 0, ?_, by omega, by omega, ?_, ?_, rfl, rfl⟩
                  · unfold Json.rF Hid
                    rw [← hq.out, ← HY.out, if_neg h46]
                  · rintro ⟨hh, _⟩
                    rw [← hq.out, ← HY.out] at hh
                    exact h46 hh
                  · unfold Json.fracP Hid
                    rw [← hq.out, ← HY.out, if_neg h46]
                    exact Rd.nil _ _
            case rest =>
              clear g0
              obtain ⟨r, af, nf, cf, hr, hqr, hrn, HnF, HF, rfl, rfl⟩ := hcut
              by_cases hrn' : r < n
              · have g0 := hc.out r hrn'
                obtain ⟨x2, hx2⟩ : ∃ x, x = Json.at0 zs r := ⟨_, rfl⟩
                rw [← hx2] at g0
                have HX2 : Hid (x2 = Json.at0 zs r) := hx2
                clear hx2
                by_cases hE : x2 = 101 ∨ x2 = 69
                · -- the letter: r + 1 is where the exponent begins
                  have hE' : Hid (Json.at0 zs r = 101 ∨ Json.at0 zs r = 69) := by unfold Hid; rw [← HX2.out]; exact hE
                  obtain ⟨d, hd⟩ : ∃ d, d = if Json.at0 zs (r + 1) = 43 ∨ Json.at0 zs (r + 1) = 45 then r + 2 else r + 1 := ⟨_, rfl⟩
                  obtain ⟨t, ht⟩ : ∃ t, Json.skip zs d = t := ⟨_, rfl⟩
                  obtain ⟨e1, e2, e3⟩ := yesE hr.out hE'.out hd ht
                  have HD : Hid (d = if Json.at0 zs (r + 1) = 43 ∨ Json.at0 zs (r + 1) = 45 then r + 2 else r + 1) := hd
                  have HT : Hid (Json.skip zs d = t) := ht
                  have E1 : Hid (Json.dE zs = d) := e1
                  have E2 : Hid (Json.tE zs = t) := e2
                  have E3 : Hid (Json.expP zs = Json.seg zs (r + 1) t) := e3
                  have ht1 : d ≤ t := ht ▸ Json.skip_ge zs d
                  clear hd ht e1 e2 e3
                  by_cases hr1 : r + 1 < n
                  · have g1 := hc.out (r + 1) hr1
                    obtain ⟨y2, hy2⟩ : ∃ x, x = Json.at0 zs (r + 1) := ⟨_, rfl⟩
                    rw [← hy2] at g1
                    rw [← hy2] at HD
                    have HY2 : Hid (y2 = Json.at0 zs (r + 1)) := hy2
                    clear hy2
                    have hdr : r + 1 ≤ d := by have := HD.out; split at this <;> omega
                    have hdn : d ≤ n := by have := HD.out; split at this <;> omega
                    have ht2 : t ≤ n := by have := Json.skip_le zs d (by rw [h.out.1]; omega); rw [h.out.1, HT.out] at this; omega
                    go_upto_region 19 with fail
                    go_cut [94] (fun v wx => v = .bool true ∧ wx = (w.alloc Z73).alloc (N73 (.slice (some ⟨b, o, none⟩) n c) ng (.slice (some ⟨b, o + p, none⟩) (q - p) (c - p)) (.slice af nf cf) (.slice none 0 0)))
                    case first =>
                      rcases hE with hE | hE
                      · go_wp2
                        go_meet
                        case rel => exact ⟨rfl, rfl⟩
                      · go_wp2
                        go_meet
                        case rel => exact ⟨rfl, rfl⟩
                    case rest =>
                      obtain ⟨rfl, rfl⟩ := hcut
                      clear g0 hE
                      go_upto_region 22 with fail
                      go_cut [115] (fun v wx => v = .bool (decide (y2 = 43 ∨ y2 = 45)) ∧ wx = (w.alloc Z73).alloc (N73 (.slice (some ⟨b, o, none⟩) n c) ng (.slice (some ⟨b, o + p, none⟩) (q - p) (c - p)) (.slice af nf cf) (.slice none 0 0)))
                      case first =>
                        by_cases h43 : y2 = 43
                        · go_wp2
                          go_meet
                          case rel => exact ⟨by simp [h43], rfl⟩
                        · by_cases h45 : y2 = 45
                          · go_wp2
                            go_meet
                            case rel => exact ⟨by simp [h45], rfl⟩
                          · have hb1 : (y2 == 43) = false := by simp [h43]
                            have hb2 : (y2 == 45) = false := by simp [h45]
                            go_wp2
                            go_meet
                            case rel => exact ⟨by simp [h43, h45], rfl⟩
                      case rest =>
                        obtain ⟨rfl, rfl⟩ := hcut
                        clear g1
                        obtain ⟨sg, hsg⟩ : ∃ sg, sg = decide (y2 = 43 ∨ y2 = 45) := ⟨_, rfl⟩
                        rw [← hsg]
                        have HSG : Hid (d = if sg = true then r + 2 else r + 1) := by
                          unfold Hid; rw [HD.out, hsg]; simp
                        clear hsg HD
                        have hcr : ¬ c = r + 1 := by omega
                        have HG : Hid (t ≠ d → ¬ Json.bad zs) := by
                          rintro htd (hh | hh | hh)
                          · rw [← hq.out, ← hp.out] at hh; exact hqp hh
                          · exact HnF.out hh
                          · rw [E1.out, E2.out] at hh; exact htd hh.2
                        have HE4 : Hid (Rd w (some ⟨b, o + (r + 1), none⟩) (t - (r + 1)) (Json.expP zs)) := by
                          unfold Hid; rw [E3.out]; exact h.out.sub (r + 1) t (by omega) ht2
                        cases sg
                        · have hd : d = r + 1 := by simpa using HSG.out
                          subst hd
                          by_cases htd : t = r + 1
                          · have hbad : Hid (Json.bad zs) := .inr (.inr ⟨by rw [← hr.out]; exact hE'.out, by rw [E1.out, E2.out]; exact htd⟩)
                            subst htd
                            go_wp2_with (go_at_call 49; refine (skip_at _ _ _ zs _ _ (r + 1) (r + 1) (h.out.alloc2 _ _) (by omega) HT (by omega) hn).mono ?_; rintro e w' ⟨rfl, rfl⟩)
                            exact bodyPost_ret (v := vNone) (by simp [results, Try.results42, go_sem]) rfl (post_bad hbad.out _ _)
                          · by_cases htn : t = n
                            · go_wp2_with (go_at_call 49; refine (skip_at _ _ _ zs _ _ (r + 1) t (h.out.alloc2 _ _) (by omega) HT (by omega) hn).mono ?_; rintro e w' ⟨rfl, rfl⟩)
                              refine bodyPost_ret (v := .tuple #[.agg #[.slice (some ⟨b, o, none⟩) n c, .bool ng, .slice (some ⟨b, o + p, none⟩) (q - p) (c - p), .slice af nf cf, .slice (some ⟨b, o + (r + 1), none⟩) (t - (r + 1)) (c - (r + 1))], .bool true]) (by simp [results, Try.results42, go_sem]; try omega) rfl (post_good ?_ HNG.out ?_ HI.out HF.out ?_ _ _)
                              · exact HG.out htd
                              · rw [E2.out]; simp [htn]
                              · exact HE4.out
                            · go_wp2_with (go_at_call 49; refine (skip_at _ _ _ zs _ _ (r + 1) t (h.out.alloc2 _ _) (by omega) HT (by omega) hn).mono ?_; rintro e w' ⟨rfl, rfl⟩)
                              refine bodyPost_ret (v := .tuple #[.agg #[.slice (some ⟨b, o, none⟩) n c, .bool ng, .slice (some ⟨b, o + p, none⟩) (q - p) (c - p), .slice af nf cf, .slice (some ⟨b, o + (r + 1), none⟩) (t - (r + 1)) (c - (r + 1))], .bool false]) (by simp [results, Try.results42, go_sem]; try omega) rfl (post_good ?_ HNG.out ?_ HI.out HF.out ?_ _ _)
                              · exact HG.out htd
                              · rw [E2.out]; simp [htn]
                              · exact HE4.out
                        · have hd : d = r + 2 := by simpa using HSG.out
                          subst hd
                          by_cases htd : t = r + 2
                          · have hbad : Hid (Json.bad zs) := .inr (.inr ⟨by rw [← hr.out]; exact hE'.out, by rw [E1.out, E2.out]; exact htd⟩)
                            subst htd
                            go_wp2_with (go_at_call 49; refine (skip_at _ _ _ zs _ _ (r + 2) (r + 2) (h.out.alloc2 _ _) (by omega) HT (by omega) hn).mono ?_; rintro e w' ⟨rfl, rfl⟩)
                            exact bodyPost_ret (v := vNone) (by simp [results, Try.results42, go_sem]) rfl (post_bad hbad.out _ _)
                          · by_cases htn : t = n
                            · go_wp2_with (go_at_call 49; refine (skip_at _ _ _ zs _ _ (r + 2) t (h.out.alloc2 _ _) (by omega) HT (by omega) hn).mono ?_; rintro e w' ⟨rfl, rfl⟩)
                              refine bodyPost_ret (v := .tuple #[.agg #[.slice (some ⟨b, o, none⟩) n c, .bool ng, .slice (some ⟨b, o + p, none⟩) (q - p) (c - p), .slice af nf cf, .slice (some ⟨b, o + (r + 1), none⟩) (t - (r + 1)) (c - (r + 1))], .bool true]) (by simp [results, Try.results42, go_sem]; try omega) rfl (post_good ?_ HNG.out ?_ HI.out HF.out ?_ _ _)
                              · exact HG.out htd
                              · rw [E2.out]; simp [htn]
                              · exact HE4.out
                            · go_wp2_with (go_at_call 49; refine (skip_at _ _ _ zs _ _ (r + 2) t (h.out.alloc2 _ _) (by omega) HT (by omega) hn).mono ?_; rintro e w' ⟨rfl, rfl⟩)
                              refine bodyPost_ret (v := .tuple #[.agg #[.slice (some ⟨b, o, none⟩) n c, .bool ng, .slice (some ⟨b, o + p, none⟩) (q - p) (c - p), .slice af nf cf, .slice (some ⟨b, o + (r + 1), none⟩) (t - (r + 1)) (c - (r + 1))], .bool false]) (by simp [results, Try.results42, go_sem]; try omega) rfl (post_good ?_ HNG.out ?_ HI.out HF.out ?_ _ _)
                              · exact HG.out htd
                              · rw [E2.out]; simp [htn]
                              · exact HE4.out
                  · have hrn2 : r + 1 = n := by omega
                    have hy : Json.at0 zs (r + 1) = 0 := Json.getD_out zs _ (by rw [h.out.1]; omega)
                    have hd : d = r + 1 := by rw [HD.out, hy, if_neg (by omega)]
                    subst hd
                    have ht : t = r + 1 := by rw [← HT.out]; exact Json.skip_end zs _ (by rw [h.out.1]; omega)
                    subst ht
                    have hbad : Hid (Json.bad zs) := .inr (.inr ⟨by rw [← hr.out]; exact hE'.out, by rw [E1.out, E2.out]⟩)
                    have HN : Hid (r + 1 = n) := hrn2
                    clear hrn2 hy HD
                    rcases hE with hE | hE
                    · go_wp2_with (go_at_call 49; refine (skip_at _ _ _ zs _ _ (r + 1) (r + 1) (h.out.alloc2 _ _) (by omega) HT (by omega) hn).mono ?_; rintro e w' ⟨rfl, rfl⟩)
                      exact bodyPost_ret (v := vNone) (by simp [results, Try.results42, go_sem]) rfl (post_bad hbad.out _ _)
                    · go_wp2_with (go_at_call 49; refine (skip_at _ _ _ zs _ _ (r + 1) (r + 1) (h.out.alloc2 _ _) (by omega) HT (by omega) hn).mono ?_; rintro e w' ⟨rfl, rfl⟩)
                      exact bodyPost_ret (v := vNone) (by simp [results, Try.results42, go_sem]) rfl (post_bad hbad.out _ _)
                · have hE' : Hid (¬ (Json.at0 zs r = 101 ∨ Json.at0 zs r = 69)) := by unfold Hid; rw [← HX2.out]; exact hE
                  have hb1 : (x2 == 101) = false := by simp; exact fun hh => hE (.inl hh)
                  have hb2 : (x2 == 69) = false := by simp; exact fun hh => hE (.inr hh)
                  obtain ⟨e1, e2, e3⟩ := noE hr.out hE'.out
                  have F : Hid (_ ∧ _ ∧ _) := ⟨e1, e2, e3⟩
                  clear e1 e2 e3 hE
                  go_wp2
                  refine bodyPost_ret (v := .tuple #[.agg #[.slice (some ⟨b, o, none⟩) n c, .bool ng, .slice (some ⟨b, o + p, none⟩) (q - p) (c - p), .slice af nf cf, .slice none 0 0], .bool false]) (by simp [results, Try.results42, go_sem]; try omega) rfl (post_good ?_ HNG.out ?_ HI.out HF.out ?_ _ _)
                  · rintro (hh | hh | hh)
                    · rw [← hq.out, ← hp.out] at hh; exact hqp hh
                    · exact HnF.out hh
                    · exact F.out.2.2 hh
                  · rw [F.out.1]; simp; omega
                  · rw [F.out.2.1]; exact Rd.nil _ _
              · obtain ⟨e1, e2, e3⟩ := noE hr.out (noE_end (by rw [h.out.1]; omega))
                have F : Hid (_ ∧ _ ∧ _) := ⟨e1, e2, e3⟩
                clear e1 e2 e3
                go_wp2
                refine bodyPost_ret (v := .tuple #[.agg #[.slice (some ⟨b, o, none⟩) n c, .bool ng, .slice (some ⟨b, o + p, none⟩) (q - p) (c - p), .slice af nf cf, .slice none 0 0], .bool true]) (by simp [results, Try.results42, go_sem]; try omega) rfl (post_good ?_ HNG.out ?_ HI.out HF.out ?_ _ _)
                · rintro (hh | hh | hh)
                  · rw [← hq.out, ← hp.out] at hh; exact hqp hh
                  · exact HnF.out hh
                  · exact F.out.2.2 hh
                · rw [F.out.1]; simp; omega
                · rw [F.out.2.1]; exact Rd.nil _ _
          · obtain ⟨e4, e5, e6⟩ := noF hq.out (by rw [Json.getD_out zs q (by rw [h.out.1]; omega)]; omega)
            obtain ⟨e1, e2, e3⟩ := noE e4 (noE_end (by rw [h.out.1]; omega))
            have F : Hid (_ ∧ _ ∧ _ ∧ _ ∧ _) := ⟨e1, e2, e3, e5, e6⟩
            clear e1 e2 e3 e4 e5 e6
            go_wp2
            refine bodyPost_ret (v := .tuple #[.agg #[.slice (some ⟨b, o, none⟩) n c, .bool ng, .slice (some ⟨b, o + p, none⟩) (q - p) (c - p), .slice none 0 0, .slice none 0 0], .bool true]) (by simp [results, Try.results42, go_sem]; try omega) rfl (post_good ?_ HNG.out ?_ HI.out ?_ ?_ _ _)
            · rintro (hh | hh | hh)
              · rw [← hq.out, ← hp.out] at hh; exact hqp hh
              · exact F.out.2.2.2.2 hh
              · exact F.out.2.2.1 hh
            · rw [F.out.1]; simp; omega
            · rw [F.out.2.2.2.1]; exact Rd.nil _ _
            · rw [F.out.2.1]; exact Rd.nil _ _
    · have hz : Json.at0 zs p = 0 := Json.getD_out zs p (by rw [h.out.1]; omega)
      have hs : Json.skip zs p = p := Json.skip_end zs p (by rw [h.out.1]; omega)
      have hbad : Hid (Json.bad zs) := .inl (by unfold Json.qI; rw [← hp.out, hz, if_neg (by omega)]; exact hs)
      have HS : Hid (Json.skip zs p = p) := hs
      clear hs hz
      by_cases hcp : c = p
      · go_wp2_with (go_at_call 49; refine (skip_at _ _ _ zs _ _ p p (h.out.alloc2 _ _) rfl HS (by omega) hn).mono ?_; rintro e w' ⟨rfl, rfl⟩)
        exact bodyPost_ret (v := vNone) (by simp [results, Try.results42, go_sem]) rfl (post_bad hbad.out _ _)
      · go_wp2_with (go_at_call 49; refine (skip_at _ _ _ zs _ _ p p (h.out.alloc2 _ _) rfl HS (by omega) hn).mono ?_; rintro e w' ⟨rfl, rfl⟩)
        exact bodyPost_ret (v := vNone) (by simp [results, Try.results42, go_sem]) rfl (post_bad hbad.out _ _)
end Go.Proofs.Qxb6603471a
