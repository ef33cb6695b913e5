import Derived.Test.Qxb6603471aZZ
import Derived.Test.Qxb6603471aArg
import Derived.Test.Qxb6603471aDigits
import Derived.Test.Qxb6603471aJoin
namespace Go.Proofs.Qxb6603471a
open Go.RowKit
set_option linter.unusedSimpArgs false
set_option linter.unusedVariables false

set_option maxHeartbeats 1000000 in
/-- the bound on the lengths -/
theorem size3 (b1 b2 : Bool) (a1 a2 a3 : Option Addr) (n1 c1 n2 c2 n3 c3 : Nat) (w : World) (h1 : n1 ≤ 9223372036854775807) (h2 : n2 ≤ 9223372036854775807) (h3 : n3 ≤ 9223372036854775807) :
    Calls Try.prog 19 #[.bool b1, .slice a1 n1 c1, .slice a2 n2 c2, .slice a3 n3 c3, .bool b2] w fun e w' => e = .returned (.bool (decide (n1 + n2 + n3 ≤ 1048576))) ∧ w = w' := by
  by_cases k1 : n1 ≤ 1048576
  · by_cases k2 : n2 ≤ 1048576
    · by_cases k12 : n1 + n2 ≤ 1048576
      · by_cases k3 : n3 ≤ 1048576
        · by_cases k : n1 + n2 + n3 ≤ 1048576
          · rw [decide_eq_true k]
            go_enter Try.func19, Try.ntmps19
            go_wp2
            go_ret
            exact ⟨rfl, rfl⟩
          · rw [decide_eq_false k]
            go_enter Try.func19, Try.ntmps19
            go_wp2
            go_ret
            exact ⟨rfl, rfl⟩
        · rw [decide_eq_false (by omega)]
          go_enter Try.func19, Try.ntmps19
          go_wp2
          go_ret
          exact ⟨rfl, rfl⟩
      · rw [decide_eq_false (by omega)]
        go_enter Try.func19, Try.ntmps19
        go_wp2
        go_ret
        exact ⟨rfl, rfl⟩
    · rw [decide_eq_false (by omega)]
      go_enter Try.func19, Try.ntmps19
      go_wp2
      go_ret
      exact ⟨rfl, rfl⟩
  · rw [decide_eq_false (by omega)]
    go_enter Try.func19, Try.ntmps19
    go_wp2
    go_ret
    exact ⟨rfl, rfl⟩

/-- 'allDigits' where its answer is known. -/
theorem digits_at (ao : Option Addr) (n c : Nat) (zs : List Int) (b : Bool) (w : World) (h : Hid (Rd w ao n zs)) (hn : n ≤ 1048576) (hb : Hid (Json.allD zs = b)) :
    Calls Try.prog 17 #[.slice ao n c] w fun e w' => e = .returned (.bool b) ∧ w = w' := by
  rw [← hb.out]; exact digits_any ao n c zs w h.out (by omega)
theorem exp_at (ao : Option Addr) (n c : Nat) (zs : List Int) (b : Bool) (w : World) (h : Hid (Rd w ao n zs)) (hn : n ≤ 1048576) (hnc : n ≤ c) (hb : Hid (Json.expOk zs = b)) :
    Calls Try.prog 18 #[.slice ao n c] w fun e w' => e = .returned (.bool b) ∧ w = w' := by
  rw [← hb.out]; exact exp_any ao n c zs w h.out (by omega) hnc

/-- 'cloneBytes', and what it gives can be appended. -/
theorem clone_src (a : Option Addr) (n c : Nat) (zs : List Int) (w : World) (h : Arg w a n c zs) (hn : n ≤ 1073741824) :
    Calls Try.prog 11 #[.slice a n c] w fun e w' => ∃ (ao : Option Addr) (c' : Nat), e = .returned (.slice ao n c') ∧ Src w' ao n c' zs ∧ Below w.heap.size w w' := by
  cases a with
  | none =>
    obtain ⟨rfl, rfl⟩ := h.2.2.1 rfl
    refine (clone_nil w).mono ?_
    rintro e w' ⟨rfl, rfl⟩
    exact ⟨none, 0, rfl, ⟨h.1, fun _ => ⟨rfl, rfl⟩⟩, Below.refl _ _⟩
  | some x =>
    refine (clone_some x n c zs w h.1 hn).mono ?_
    rintro e w' ⟨rfl, hown, hb⟩
    exact ⟨_, n, rfl, ⟨rd_of_owns hown, fun h => by cases h⟩, hb⟩

theorem Arg.below {w w' : World} {a : Option Addr} {n c : Nat} {zs : List Int} (h : Arg w a n c zs) (hb : Below w.heap.size w w') : Arg w' a n c zs := ⟨h.1.below hb, h.2⟩

/-- 'sameBytes' of two slices that read alike. -/
theorem same_eq3 (a1 a2 : Option Addr) (n1 n2 c1 c2 : Nat) (xs : List Int) (w w0 : World) (m : Nat) (hw : w = w0.drewN m) (h1 : Hid (Rd w0 a1 n1 xs)) (h2 : Hid (Rd w0 a2 n2 xs))
    (b1 : n1 ≤ 1048579) :
    Calls Try.prog 14 #[.slice a1 n1 c1, .slice a2 n2 c2] w fun e w' => e = .returned (.bool true) ∧ ∃ m', w' = w0.drewN m' := by
  subst hw
  have e : n2 = n1 := by rw [← h1.out.1, ← h2.out.1]
  refine (same_any a1 a2 n1 n2 c1 c2 xs xs _ (h1.out.drewN m) (h2.out.drewN m) (by omega) (by omega)).mono ?_
  rintro e w' ⟨rfl, m', rfl⟩
  exact ⟨by simp, m + m', by simp⟩

set_option maxRecDepth 100000 in
set_option maxHeartbeats 2000000 in
theorem walk3_in (neg up : Bool) (a1 a2 a3 : Option Addr) (n1 c1 n2 c2 n3 c3 : Nat) (I F X : List Int) (w : World) (A1 : Arg w a1 n1 c1 I) (A2 : Arg w a2 n2 c2 F) (A3 : Arg w a3 n3 c3 X)
    (hn : n1 + n2 + n3 ≤ 1048576) :
    Calls Try.prog 5 #[.bool neg, .slice a1 n1 c1, .slice a2 n2 c2, .slice a3 n3 c3, .bool up] w fun e w' => e = .returned (.bool true) ∧ Below w.heap.size w w' := by
  have H1 : Hid (Arg w a1 n1 c1 I) := A1
  have H2 : Hid (Arg w a2 n2 c2 F) := A2
  have H3 : Hid (Arg w a3 n3 c3 X) := A3
  have R1 : Hid (Rd w a1 n1 I) := A1.1
  have R2 : Hid (Rd w a2 n2 F) := A2.1
  have R3 : Hid (Rd w a3 n3 X) := A3.1
  have q3 : n3 ≤ c3 := A3.2.1
  clear A1 A2 A3
  by_cases h0 : 0 < n1
  · obtain ⟨b, o, e1, hc⟩ := R1.out.2.resolve_left (by omega)
    subst e1
    have g : w.cell? ⟨b, o, none⟩ = some (.int .u8 (Json.at0 I 0)) := hc 0 h0
    obtain ⟨x, hx⟩ : ∃ x, x = Json.at0 I 0 := ⟨_, rfl⟩
    rw [← hx] at g
    have HX : Hid (x = Json.at0 I 0) := hx
    have hne : ((n1 : Int) == 0) = false := by simp; omega
    clear hc hx
    obtain ⟨d1, hd1⟩ : ∃ d, Json.allD I = d := ⟨_, rfl⟩
    obtain ⟨d2, hd2⟩ : ∃ d, Json.allD F = d := ⟨_, rfl⟩
    obtain ⟨d3, hd3⟩ : ∃ d, Json.expOk X = d := ⟨_, rfl⟩
    have D1 : Hid (Json.allD I = d1) := hd1
    have D2 : Hid (Json.allD F = d2) := hd2
    have D3 : Hid (Json.expOk X = d3) := hd3
    clear hd1 hd2 hd3
    cases d1
    · go_enter Try.func5, Try.ntmps5
      go_wp2_with (go_at_call 19; refine (size3 _ _ _ _ _ _ _ _ _ _ _ _ (by omega) (by omega) (by omega)).mono ?_; rintro e w' ⟨rfl, rfl⟩)
      refine (digits_at _ n1 c1 I false w R1 (by omega) D1).mono ?_
      rintro e w' ⟨rfl, rfl⟩
      go_wp2
      go_ret
      exact ⟨rfl, Below.refl _ _⟩
    · by_cases h48 : x = 48 ∧ 1 < n1
      · obtain ⟨h48, h1⟩ := h48
        go_enter Try.func5, Try.ntmps5
        go_wp2_with (go_at_call 19; refine (size3 _ _ _ _ _ _ _ _ _ _ _ _ (by omega) (by omega) (by omega)).mono ?_; rintro e w' ⟨rfl, rfl⟩)
        refine (digits_at _ n1 c1 I true w R1 (by omega) D1).mono ?_
        rintro e w' ⟨rfl, rfl⟩
        go_wp2
        go_ret
        exact ⟨rfl, Below.refl _ _⟩
      · have hiok : Hid (Json.intOk I = true) := by
          unfold Json.intOk Hid
          rw [D1.out, R1.out.1, ← HX.out]
          simp [h0]
          by_cases e : x = 48
          · exact .inr (by apply Classical.byContradiction; intro hh; exact h48 ⟨e, by omega⟩)
          · exact .inl e
        go_enter Try.func5, Try.ntmps5
        go_upto_region 5 with (go_at_call 19; refine (size3 _ _ _ _ _ _ _ _ _ _ _ _ (by omega) (by omega) (by omega)).mono ?_; rintro e w' ⟨rfl, rfl⟩)
        go_cut [67] (fun v wx => v = .bool false ∧ w = wx)
        case first =>
          by_cases e : x = 48
          · have hn1 : ¬ 1 < n1 := fun hh => h48 ⟨e, hh⟩
            clear h48
            go_wp2_with fail
            refine (digits_at _ n1 c1 I true w R1 (by omega) D1).mono ?_
            rintro e w' ⟨rfl, rfl⟩
            go_wp2
            go_meet
            case rel => exact ⟨by rw [decide_eq_false (by omega)], rfl⟩
          · have e' : (x == 48) = false := by simp [e]
            clear h48
            go_wp2_with fail
            refine (digits_at _ n1 c1 I true w R1 (by omega) D1).mono ?_
            rintro e w' ⟨rfl, rfl⟩
            go_wp2
            go_meet
            case rel => exact ⟨rfl, rfl⟩
        case rest =>
          obtain ⟨rfl, rfl⟩ := hcut
          clear h48 g
          cases d2
          · go_wp2_with fail
            refine (digits_at _ n2 c2 F false w R2 (by omega) D2).mono ?_
            rintro e w' ⟨rfl, rfl⟩
            go_wp2
            go_ret
            exact ⟨rfl, Below.refl _ _⟩
          · cases d3
            · go_wp2_with fail
              refine (digits_at _ n2 c2 F true w R2 (by omega) D2).mono ?_
              rintro e w' ⟨rfl, rfl⟩
              go_wp2_with fail
              refine (exp_at _ n3 c3 X false w R3 (by omega) q3 D3).mono ?_
              rintro e w' ⟨rfl, rfl⟩
              go_wp2
              go_ret
              exact ⟨rfl, Below.refl _ _⟩
            · go_wp2_with fail
              refine (digits_at _ n2 c2 F true w R2 (by omega) D2).mono ?_
              rintro e w' ⟨rfl, rfl⟩
              go_wp2_with fail
              refine (exp_at _ n3 c3 X true w R3 (by omega) q3 D3).mono ?_
              rintro e w' ⟨rfl, rfl⟩
              go_wp2_with fail
              refine (clone_src _ n1 c1 I w H1.out (by omega)).mono ?_
              rintro e w1 ⟨p1, t1, rfl, s1, k1⟩
              have S1 : Hid (Src w1 p1 n1 t1 I) := s1
              clear s1
              go_wp2_with fail
              refine (clone_src _ n2 c2 F w1 (H2.out.below k1) (by omega)).mono ?_
              rintro e w2 ⟨p2, t2, rfl, s2, k2⟩
              have S1 : Hid (Src w2 p1 n1 t1 I) := S1.out.below k2
              have S2 : Hid (Src w2 p2 n2 t2 F) := s2
              clear s2
              have j2 : Below w.heap.size w w2 := k1.trans (k2.mono k1.size)
              go_wp2_with fail
              refine (clone_src _ n3 c3 X w2 (H3.out.below j2) (by omega)).mono ?_
              rintro e w3 ⟨p3, t3, rfl, s3, k3⟩
              have S1 : Hid (Src w3 p1 n1 t1 I) := S1.out.below k3
              have S2 : Hid (Src w3 p2 n2 t2 F) := S2.out.below k3
              have S3 : Hid (Src w3 p3 n3 t3 X) := s3
              clear s3
              have j3 : Below w.heap.size w w3 := j2.trans (k3.mono j2.size)
              go_wp2_with fail
              refine (join_any neg up p1 p2 p3 n1 t1 n2 t2 n3 t3 I F X w3 S1.out S2.out S3.out hn).mono ?_
              rintro e w4 ⟨t4, rfl, hcap, r4, k4⟩
              have j4 : Below w.heap.size w w4 := j3.trans (k4.mono j3.size)
              obtain ⟨G1, G2, G3, G4, G5, G6⟩ := Json.joined neg I F X up hiok.out D2.out D3.out
              have hjl : (Json.join neg I F X up).length ≤ 1048579 := by
                have e1 : (Json.negT neg).length ≤ 1 := by cases neg <;> simp [Json.negT]
                have e2 : (Json.fracT F).length ≤ 1 + n2 := by have := R2.out.1; unfold Json.fracT; split <;> simp <;> omega
                have e3 : (Json.expT up X).length ≤ 1 + n3 := by have := R3.out.1; unfold Json.expT; split <;> simp <;> omega
                have := R1.out.1
                unfold Json.join
                simp
                omega
              obtain ⟨z, hz⟩ : ∃ z, z = Json.join neg I F X up := ⟨_, rfl⟩
              rw [← hz] at r4 G1 G2 G3 G4 G5 G6 hjl hcap
              rw [← hz]
              obtain ⟨nz, hnz⟩ : ∃ nz, nz = z.length := ⟨_, rfl⟩
              rw [← hnz] at r4 G6 hjl hcap
              rw [← hnz]
              have HG : Hid (¬ Json.bad z ∧ decide (Json.at0 z 0 = 45) = neg ∧ Json.intP z = I ∧ Json.fracP z = F ∧ Json.expP z = X ∧ Json.tE z = z.length) := ⟨G1, G2, G3, G4, G5, by rw [← hnz]; exact G6⟩
              have R4 : Hid (Rd w4 (some ⟨w3.heap.size, 0, none⟩) nz z) := r4
              have T1 := S1.out.1.below k4
              have T2 := S2.out.1.below k4
              have T3 := S3.out.1.below k4
              have T : Hid (Rd w4 p1 n1 I ∧ Rd w4 p2 n2 F ∧ Rd w4 p3 n3 X) := ⟨T1, T2, T3⟩
              clear G1 G2 G3 G4 G5 G6 r4 hz hnz T1 T2 T3 S1 S2 S3
              go_wp2_with fail
              refine (zz_any _ nz t4 z w4 R4.out (by omega) hcap).mono ?_
              rintro e w5 ⟨k5, b1, m1, u1, ng, b2, m2, u2, b3, m3, u3, b4, m4, u4, ok, rfl, _, pg⟩
              obtain ⟨G1, G2, G3, G4, G5, G6⟩ := HG.out
              obtain ⟨Q0, hng, Q1, Q2, Q3, hok⟩ := pg G1
              have j5 : Below w.heap.size w w5 := j4.trans (k5.mono j4.size)
              rw [G3] at Q1
              rw [G4] at Q2
              rw [G5] at Q3
              rw [G2] at hng
              rw [G6] at hok
              have hok' : ok = true := by rw [hok]; simp
              subst hok'
              subst hng
              have l1 : m1 ≤ 1048579 := by have := Q0.1; have := R4.out.1; omega
              have l2 : m2 ≤ 1048579 := by have := Q1.1; have := R1.out.1; omega
              have l3 : m3 ≤ 1048579 := by have := Q2.1; have := R2.out.1; omega
              have l4 : m4 ≤ 1048579 := by have := Q3.1; have := R3.out.1; omega
              have V0 : Hid (Rd w5 b1 m1 z) := Q0.below k5
              have V0' : Hid (Rd w5 (some ⟨w3.heap.size, 0, none⟩) nz z) := R4.out.below k5
              have V1 : Hid (Rd w5 b2 m2 I) := Q1.below k5
              have V1' : Hid (Rd w5 p1 n1 I) := T.out.1.below k5
              have V2 : Hid (Rd w5 b3 m3 F) := Q2.below k5
              have V2' : Hid (Rd w5 p2 n2 F) := T.out.2.1.below k5
              have V3 : Hid (Rd w5 b4 m4 X) := Q3.below k5
              have V3' : Hid (Rd w5 p3 n3 X) := T.out.2.2.below k5
              clear G1 G2 G3 G4 G5 G6 Q0 Q1 Q2 Q3 pg HG hok
              cases ng
              all_goals
                go_wp2_with fail
                refine (same_eq3 b1 _ m1 nz u1 t4 z _ w5 0 rfl V0 V0' l1).mono ?_
                rintro e w6 ⟨rfl, x1, rfl⟩
                go_wp2_with fail
                refine (same_eq3 b2 p1 m2 n1 u2 t1 I _ w5 x1 rfl V1 V1' l2).mono ?_
                rintro e w6 ⟨rfl, x2, rfl⟩
                go_wp2_with fail
                refine (same_eq3 b3 p2 m3 n2 u3 t2 F _ w5 x2 rfl V2 V2' l3).mono ?_
                rintro e w6 ⟨rfl, x3, rfl⟩
                go_wp2_with fail
                refine (same_eq3 b4 p3 m4 n3 u4 t3 X _ w5 x3 rfl V3 V3' l4).mono ?_
                rintro e w6 ⟨rfl, x4, rfl⟩
                go_wp2
                go_ret
                exact ⟨rfl, below_drewN j5 _⟩
  · obtain rfl : n1 = 0 := by omega
    go_enter Try.func5, Try.ntmps5
    go_wp2_with (go_at_call 19; refine (size3 _ _ _ _ _ _ _ _ _ _ _ _ (by omega) (by omega) (by omega)).mono ?_; rintro e w' ⟨rfl, rfl⟩)
    all_goals
      go_ret
      exact ⟨rfl, Below.refl _ _⟩
end Go.Proofs.Qxb6603471a
