import Derived.Test.Qxb6603471aLpZZ
import Derived.Test.Qxb6603471aLpModel
namespace Go.Proofs.Qxb6603471a
open Go.RowKit
set_option linter.unusedSimpArgs false
set_option linter.unusedVariables false

set_option maxHeartbeats 1000000 in
/-- the bound on the lengths -/
theorem size2 (a1 a2 : Option Addr) (n1 c1 n2 c2 : Nat) (p : Int) (Ea Da : Array Value) (w : World) (h1 : n1 ≤ 9223372036854775807) (h2 : n2 ≤ 9223372036854775807) :
    Calls Try.prog 20 #[.slice a1 n1 c1, .int .i64 p, .slice a2 n2 c2, .agg Ea, .agg Da] w fun e w' => e = .returned (.bool (decide (n1 + n2 ≤ 1048576))) ∧ Below w.heap.size w w' := by
  have HB : Below w.heap.size w ((w.alloc (.cells Ea 31)).alloc (.cells Da 31)) := ((Below.refl _ _).alloc (Nat.le_refl _) _).alloc (by simp) _
  by_cases k1 : n1 ≤ 1048576
  · by_cases k2 : n2 ≤ 1048576
    · by_cases k : n1 + n2 ≤ 1048576
      · rw [decide_eq_true k]
        go_enter Try.func20, Try.ntmps20
        go_wp2
        go_ret
        exact ⟨rfl, HB⟩
      · rw [decide_eq_false k]
        go_enter Try.func20, Try.ntmps20
        go_wp2
        go_ret
        exact ⟨rfl, HB⟩
    · rw [decide_eq_false (by omega)]
      go_enter Try.func20, Try.ntmps20
      go_wp2
      go_ret
      exact ⟨rfl, HB⟩
  · rw [decide_eq_false (by omega)]
    go_enter Try.func20, Try.ntmps20
    go_wp2
    go_ret
    exact ⟨rfl, HB⟩

theorem lt_of_owns {w : World} {B g n cap : Nat} {xs : List Value} (h : w.ownsRow B 5 1 (.slice (some ⟨g, 0, none⟩) n cap) n xs) : g < w.heap.size := by
  rcases h.2 with ⟨h, _⟩ | ⟨g', cap', cur, e, _, h4, _⟩
  · cases h
  · simp only [Value.slice.injEq, Option.some.injEq, Addr.mk.injEq, and_true, true_and] at e
    obtain ⟨rfl, rfl⟩ := e
    exact (Array.getElem?_eq_some_iff.1 h4).1

/-- 'cloneBytes' of the bytes to be read. -/
theorem clone_in (a : Option Addr) (n c : Nat) (zs : List Int) (w : World) (h : Arg w a n c zs) (hn : n ≤ 1073741824) :
    Calls Try.prog 11 #[.slice a n c] w fun e w' => ∃ (ao : Option Addr) (c' : Nat), e = .returned (.slice ao n c') ∧ n ≤ c' ∧ Rd w' ao n zs ∧ (∀ b o, ao = some ⟨b, o, none⟩ → b < w'.heap.size) ∧ Below w.heap.size w w' := by
  cases a with
  | none =>
    obtain ⟨rfl, rfl⟩ := h.2.2.1 rfl
    refine (clone_nil w).mono ?_
    rintro e w' ⟨rfl, rfl⟩
    exact ⟨none, 0, rfl, Nat.le_refl _, h.1, (fun b o e => by cases e), Below.refl _ _⟩
  | some x =>
    refine (clone_some x n c zs w h.1 hn).mono ?_
    rintro e w' ⟨rfl, hown, hb⟩
    refine ⟨_, n, rfl, Nat.le_refl _, rd_of_owns hown, fun b o e => ?_, hb⟩
    simp only [Option.some.injEq, Addr.mk.injEq, and_true] at e
    rw [← e.1]; exact lt_of_owns hown

/-- 'cloneBytes' of the room. -/
theorem clone_room (a : Option Addr) (n c : Nat) (zs : List Int) (w : World) (h : Arg w a n c zs) (hn : n ≤ 1073741824) :
    Calls Try.prog 11 #[.slice a n c] w fun e w' => ∃ (ta : Option Addr) (tc : Nat) (T0 : Option Nat), e = .returned (.slice ta n tc) ∧ n ≤ tc ∧ OwnB w' 0 (.slice ta 0 tc) [] ∧ ((ta = none ∧ n = 0 ∧ tc = 0) ∨ ∃ T, ta = some ⟨T, 0, none⟩) ∧ (Value.slice ta 0 tc).ownBlock = T0 ∧ (∀ T, T0 = some T → w.heap.size ≤ T ∧ T < w'.heap.size) ∧ Below w.heap.size w w' := by
  cases a with
  | none =>
    obtain ⟨rfl, rfl⟩ := h.2.2.1 rfl
    refine (clone_nil w).mono ?_
    rintro e w' ⟨rfl, rfl⟩
    exact ⟨none, 0, none, rfl, Nat.le_refl _, OwnB.nil _ _, .inl ⟨rfl, rfl, rfl⟩, rfl, (fun T e => by cases e), Below.refl _ _⟩
  | some x =>
    refine (clone_some x n c zs w h.1 hn).mono ?_
    rintro e w' ⟨rfl, hown, hb⟩
    refine ⟨_, n, some w.heap.size, rfl, Nat.le_refl _, ?_, .inr ⟨_, rfl⟩, rfl, fun T e => ?_, hb⟩
    · rcases hown.2 with ⟨h, _⟩ | ⟨g', cap', cur, e, _, h4, h5, h6, h7, _⟩
      · cases h
      · simp only [Value.slice.injEq, Option.some.injEq, Addr.mk.injEq, and_true, true_and] at e
        obtain ⟨rfl, rfl⟩ := e
        exact ⟨rfl, .inr ⟨_, _, cur, rfl, Nat.zero_le _, h4, Nat.zero_le _, h6, h7, by simp⟩⟩
    · simp only [Option.some.injEq] at e
      subst e
      exact ⟨Nat.le_refl _, lt_of_owns hown⟩

theorem Arg.below {w w' : World} {a : Option Addr} {n c : Nat} {zs : List Int} (h : Arg w a n c zs) (hb : Below w.heap.size w w') : Arg w' a n c zs := ⟨h.1.below hb, h.2⟩

theorem Fr.rd {R : Nat} {T0 : Option Nat} {w w' : World} {ao : Option Addr} {n : Nat} {zs : List Int} (h : Fr R T0 w w') (hR : w.heap.size ≤ R) (hr : Rd w ao n zs) (hi : ∀ b o, ao = some ⟨b, o, none⟩ → b < w.heap.size ∧ some b ≠ T0) : Rd w' ao n zs := by
  refine ⟨hr.1, hr.2.imp_right ?_⟩
  rintro ⟨b, o, rfl, hc⟩
  refine ⟨b, o, rfl, fun i hl => ?_⟩
  have := hi b o rfl
  rw [World.cell?_of_block (w := w) (h.block b this.1 (by omega) this.2)]
  exact hc i hl

theorem OwnB.rd {w : World} {B : Nat} {v : Value} {zs : List Int} (h : OwnB w B v zs) : ∃ a n c, v = .slice a n c ∧ Rd w a n zs := by
  rcases h.2 with ⟨rfl, h0⟩ | ⟨g, cap, cur, rfl, h3⟩
  · exact ⟨_, _, _, rfl, h0, .inl rfl⟩
  · exact ⟨_, _, _, rfl, rd_of_owns (B := B) ⟨h.1, .inr ⟨g, cap, cur, rfl, h3⟩⟩⟩

/-- 'sameBytes' of two slices that read alike. -/
theorem same_eq2 (a1 a2 : Option Addr) (n1 n2 c1 c2 : Nat) (xs : List Int) (w : World) (h1 : Hid (Rd w a1 n1 xs)) (h2 : Hid (Rd w a2 n2 xs)) (b1 : xs.length ≤ 1048576) :
    Calls Try.prog 14 #[.slice a1 n1 c1, .slice a2 n2 c2] w fun e w' => e = .returned (.bool true) ∧ ∃ m', w' = w.drewN m' := by
  have e1 := h1.out.1
  have e2 := h2.out.1
  refine (same_any a1 a2 n1 n2 c1 c2 xs xs _ h1.out h2.out (by omega) (by omega)).mono ?_
  rintro e w' ⟨rfl, m', rfl⟩
  exact ⟨by simp, m', rfl⟩

set_option maxRecDepth 100000 in
set_option maxHeartbeats 2000000 in
theorem law2_in (a1 a2 : Option Addr) (n c tn tc : Nat) (pos : Nat) (zs ts : List Int) (Ea Da : Array Value) (E D : Int → Bool) (w : World) (A1 : Arg w a1 n c zs) (A2 : Arg w a2 tn tc ts)
    (hE : Hid (∀ x : Int, 0 ≤ x → x ≤ 255 → Ea[x.toNat]? = some (.bool (E x)))) (hD : Hid (∀ x : Int, 0 ≤ x → x ≤ 255 → Da[x.toNat]? = some (.bool (D x))))
    (hEs : Hid (Ea.size = 256)) (hDs : Hid (Da.size = 256)) (hE1 : Ea.all (·.oneCell') = true) (hD1 : Da.all (·.oneCell') = true)
    (hn : n + tn ≤ 1048576) (hp : pos ≤ n) :
    Calls Try.prog 6 #[.slice a1 n c, .int .i64 pos, .slice a2 tn tc, .agg Ea, .agg Da] w fun e w' => e = .returned (.bool true) ∧ Below w.heap.size w w' := by
  have H1 : Hid (Arg w a1 n c zs) := A1
  have H2 : Hid (Arg w a2 tn tc ts) := A2
  clear A1 A2
  have hdec : decide (n + tn ≤ 1048576) = true := by simpa using hn
  obtain ⟨W0, hW0⟩ : ∃ W0, W0 = (w.alloc (.cells Ea 31)).alloc (.cells Da 31) := ⟨_, rfl⟩
  have HS0 : Hid (W0.heap.size = w.heap.size + 2) := by rw [hW0]; simp [Hid]
  have HB0 : Hid (Below w.heap.size w W0) := by rw [hW0]; exact ((Below.refl _ _).alloc (Nat.le_refl _) _).alloc (by simp) _
  have HE0 : Hid (W0.heap[w.heap.size]? = some (.cells Ea 31 (0, 0))) := by rw [hW0]; exact heap_alloc2_old _ _ _
  have HD0 : Hid (W0.heap[w.heap.size + 1]? = some (.cells Da 31 (0, 0))) := by rw [hW0]; exact heap_alloc2_new _ _ _
  go_enter Try.func6, Try.ntmps6
  go_upto_region 1 with fail
  rw [← hW0]
  clear hW0
  go_wp2_with (first
    | (refine wpList_load_row rfl 31 _ rfl w.heap.size rfl 31 Ea (0, 0) _ HE0.out Try.underlying31 rfl (by rw [hEs.out]; exact info31s) ?_)
    | (refine wpList_load_row rfl 31 _ rfl (w.heap.size + 1) rfl 31 Da (0, 0) _ HD0.out Try.underlying31 rfl (by rw [hDs.out]; exact info31s) ?_))
  refine (size2 a1 a2 n c tn tc pos Ea Da W0 (by omega) (by omega)).mono ?_
  rintro e W1 ⟨rfl, hb1⟩
  rw [hdec]
  have HB1 : Hid (Below W0.heap.size W0 W1) := hb1
  clear hb1 hdec
  go_wp2_with fail
  have k1 : Below w.heap.size w W1 := HB0.out.trans (HB1.out.mono HB0.out.size)
  have z1 : W0.heap.size ≤ W1.heap.size := HB1.out.size
  refine (clone_in a1 n c zs W1 (H1.out.below k1) (by omega)).mono ?_
  rintro e W2 ⟨ao, c', rfl, hnc, hrd, hlt, hb2⟩
  have HR2 : Hid (Rd W2 ao n zs) := hrd
  have HL2 : Hid (∀ b o, ao = some ⟨b, o, none⟩ → b < W2.heap.size) := hlt
  have HB2 : Hid (Below W1.heap.size W1 W2) := hb2
  clear hrd hlt hb2
  have k2 : Below w.heap.size w W2 := k1.trans (HB2.out.mono k1.size)
  have z2 : W1.heap.size ≤ W2.heap.size := HB2.out.size
  go_wp2_with fail
  refine (clone_room a2 tn tc ts W2 (H2.out.below k2) (by omega)).mono ?_
  rintro e W3 ⟨ta, tc', T0, rfl, htc, hown, hform, ht0, hT, hb3⟩
  have HB3 : Hid (Below W2.heap.size W2 W3) := hb3
  have HT : Hid (∀ T, T0 = some T → W2.heap.size ≤ T ∧ T < W3.heap.size) := hT
  have k3 : Below w.heap.size w W3 := k2.trans (HB3.out.mono k2.size)
  have z3 : W2.heap.size ≤ W3.heap.size := HB3.out.size
  have z0 := HS0.out
  have HIN : Hid (∀ b o, ao = some ⟨b, o, none⟩ → b < W3.heap.size ∧ some b ≠ T0) := fun b o e => ⟨Nat.lt_of_lt_of_le (HL2.out b o e) z3, fun e' => by have h1 := HT.out b e'.symm; have h2 := HL2.out b o e; omega⟩
  have HBY : Hid (∀ k, 0 ≤ Json.at0 zs k ∧ Json.at0 zs k ≤ 255) := H1.out.2.2.2
  have HR3 : Hid (Rd W3 ao n zs) := HR2.out.below HB3.out
  have HZP : Hid (ZPre ao n c' T0 ta tn tc' zs Ea Da E D W3) := ⟨hown, hform, ht0, fun T e => (hT T e).2, HR3.out, HIN.out, hE.out, hD.out, HBY.out⟩
  have HE3 : Hid (W3.heap[w.heap.size]? = some (.cells Ea 31 (0, 0))) := by
    unfold Hid
    rw [HB3.out.block _ (by omega), HB2.out.block _ (by omega), HB1.out.block _ (by omega)]; exact HE0.out
  have HD3 : Hid (W3.heap[w.heap.size + 1]? = some (.cells Da 31 (0, 0))) := by
    unfold Hid
    rw [HB3.out.block _ (by omega), HB2.out.block _ (by omega), HB1.out.block _ (by omega)]; exact HD0.out
  clear hown hform ht0 hT hb3
  go_wp2_with (first
    | (refine wpList_load_row rfl 31 _ rfl w.heap.size rfl 31 Ea (0, 0) _ HE3.out Try.underlying31 rfl (by rw [hEs.out]; exact info31s) ?_)
    | (refine wpList_load_row rfl 31 _ rfl (w.heap.size + 1) rfl 31 Da (0, 0) _ HD3.out Try.underlying31 rfl (by rw [hDs.out]; exact info31s) ?_))
  refine (zzname_any ao n c' T0 ta tn tc' pos zs Ea Da E D W3 HZP hEs hDs hE1 hD1 hp hnc (by omega) htc).mono ?_
  have HLEN : Hid ((Lp.mda E D zs pos 0).1.length ≤ 1048576) := by
    have e1 := HR3.out.1
    have := (Lp.mda_len E D zs pos (by omega)).1
    unfold Hid
    omega
  have HM := fun W4 hR4 => model_any ao n c' pos zs Ea Da E D W4 hR4 HBY hE hD hp (by omega)
  obtain ⟨r, hr⟩ : ∃ r, r = Lp.mda E D zs pos 0 := ⟨_, rfl⟩
  rw [← hr] at HLEN HM
  rw [← hr]
  have HMH : Hid (∀ (W4 : World), Hid (Rd W4 ao n zs) → Calls Try.prog 22 #[.slice ao n c', .int .i64 pos, .agg Ea, .agg Da] W4 fun e w' => ∃ v, e = .returned (.tuple #[v, .int .u8 r.2.1, .int .i64 r.2.2]) ∧ OwnB w' W4.heap.size v r.1 ∧ Below W4.heap.size W4 w') := HM
  clear hr HM
  rintro e W4 ⟨R, a', l', c4, hRs, rfl, hrd4, hfr⟩
  have hTs : ∀ k, k < W2.heap.size → some k ≠ T0 := fun k hk e' => by have h1 := HT.out k e'.symm; omega
  have HR4 : Hid (Rd W4 ao n zs) := hfr.rd hRs HR3.out HIN.out
  have HA4 : Hid (Rd W4 a' l' r.1) := hrd4
  have k4 : Below w.heap.size w W4 := by
    have h34 : Below w.heap.size W3 W4 := ⟨hfr.os, hfr.tape, hfr.output, hfr.size, fun k hk => hfr.block k (by omega) (by omega) (hTs k (by omega))⟩
    exact k3.trans h34
  have HE4 : Hid (W4.heap[w.heap.size]? = some (.cells Ea 31 (0, 0))) := by
    unfold Hid
    rw [hfr.block _ (by omega) (by omega) (hTs _ (by omega))]; exact HE3.out
  have HD4 : Hid (W4.heap[w.heap.size + 1]? = some (.cells Da 31 (0, 0))) := by
    unfold Hid
    rw [hfr.block _ (by omega) (by omega) (hTs _ (by omega))]; exact HD3.out
  clear hfr hrd4 hTs HE3 HD3 HE0 HD0
  go_wp2_with (first
    | (refine wpList_load_row rfl 31 _ rfl w.heap.size rfl 31 Ea (0, 0) _ HE4.out Try.underlying31 rfl (by rw [hEs.out]; exact info31s) ?_)
    | (refine wpList_load_row rfl 31 _ rfl (w.heap.size + 1) rfl 31 Da (0, 0) _ HD4.out Try.underlying31 rfl (by rw [hDs.out]; exact info31s) ?_))
  refine (HMH.out W4 HR4).mono ?_
  rintro e W5 ⟨v, rfl, hov, hb5⟩
  obtain ⟨a5, l5, c5, rfl, hr5⟩ := OwnB.rd hov
  have HR5 : Hid (Rd W5 a5 l5 r.1) := hr5
  have HA5 : Hid (Rd W5 a' l' r.1) := HA4.out.below hb5
  have k5 : Below w.heap.size w W5 := k4.trans (hb5.mono k4.size)
  clear hov hr5 hb5
  go_wp2_with fail
  refine (same_eq2 a' a5 l' l5 c4 c5 r.1 W5 HA5 HR5 HLEN.out).mono ?_
  rintro e w6 ⟨rfl, x1, rfl⟩
  go_wp2
  go_ret
  exact ⟨rfl, below_drewN k5 _⟩
end Go.Proofs.Qxb6603471a
