import Derived.Test.Qxb6603471aParse
namespace Go.Proofs.Qxb6603471a
open Go.RowKit
set_option linter.unusedSimpArgs false
set_option linter.unusedVariables false

theorem bad_nil : Json.bad [] := .inl (by decide)

set_option maxRecDepth 100000 in
set_option maxHeartbeats 400000 in
/-- 'parseJSONNumber' of the empty text -/
theorem parse_empty (ao : Option Addr) (c : Nat) (w : World) :
    Calls Try.prog 42 #[.slice ao 0 c] w fun e w' => Below w.heap.size w w' ∧ e = .returned vNone := by
  have HS : Hid (Json.skip [] 0 = 0) := by unfold Hid; decide
  by_cases hc : c = 0
  · go_enter Try.func42, Try.ntmps42
    go_wp2_with (go_at_call 49; refine (skip_at _ _ _ [] _ _ 0 0 (Rd.nil _ _) rfl HS (by omega) (by omega)).mono ?_; rintro e w' ⟨rfl, rfl⟩)
    exact bodyPost_ret (v := vNone) (by simp [results, Try.results42, go_sem]) rfl ⟨((Below.refl _ _).alloc (Nat.le_refl _) _).alloc (by simp) _, rfl⟩
  · go_enter Try.func42, Try.ntmps42
    go_wp2_with (go_at_call 49; refine (skip_at _ _ _ [] _ _ 0 0 (Rd.nil _ _) rfl HS (by omega) (by omega)).mono ?_; rintro e w' ⟨rfl, rfl⟩)
    exact bodyPost_ret (v := vNone) (by simp [results, Try.results42, go_sem]) rfl ⟨((Below.refl _ _).alloc (Nat.le_refl _) _).alloc (by simp) _, rfl⟩

/-- What 'ZZParseJSONNumber' gives. -/
def ZZPost (w : World) (zs : List Int) (e : Ending) (w' : World) : Prop :=
  Below w.heap.size w w' ∧
  ∃ (a0 : Option Addr) (n0 c0 : Nat) (ng : Bool) (ai : Option Addr) (ni ci : Nat) (af : Option Addr) (nf cf : Nat) (ae : Option Addr) (ne ce : Nat) (ok : Bool),
      e = .returned (.tuple #[.slice a0 n0 c0, .bool ng, .slice ai ni ci, .slice af nf cf, .slice ae ne ce, .bool ok]) ∧
      (Json.bad zs → n0 = 0 ∧ ng = false ∧ ni = 0 ∧ nf = 0 ∧ ne = 0 ∧ ok = false) ∧
      (¬ Json.bad zs → Rd w a0 n0 zs ∧ ng = decide (Json.at0 zs 0 = 45) ∧ Rd w ai ni (Json.intP zs) ∧ Rd w af nf (Json.fracP zs) ∧ Rd w ae ne (Json.expP zs) ∧ ok = decide (Json.tE zs = zs.length))

/-- 'parseJSONNumber', whatever the text. -/
theorem parse_any (ao : Option Addr) (n c : Nat) (zs : List Int) (w : World) (h : Rd w ao n zs) (hn : n ≤ 1073741824) (hnc : n ≤ c) :
    Calls Try.prog 42 #[.slice ao n c] w fun e w' => Below w.heap.size w w' ∧
      ∃ (a0 : Option Addr) (n0 c0 : Nat) (ng : Bool) (ai : Option Addr) (ni ci : Nat) (af : Option Addr) (nf cf : Nat) (ae : Option Addr) (ne ce : Nat) (ok : Bool),
      e = .returned (.tuple #[.agg #[.slice a0 n0 c0, .bool ng, .slice ai ni ci, .slice af nf cf, .slice ae ne ce], .bool ok]) ∧
      (Json.bad zs → n0 = 0 ∧ ng = false ∧ ni = 0 ∧ nf = 0 ∧ ne = 0 ∧ ok = false) ∧
      (¬ Json.bad zs → Rd w a0 n0 zs ∧ ng = decide (Json.at0 zs 0 = 45) ∧ Rd w ai ni (Json.intP zs) ∧ Rd w af nf (Json.fracP zs) ∧ Rd w ae ne (Json.expP zs) ∧ ok = decide (Json.tE zs = zs.length)) := by
  rcases Nat.eq_zero_or_pos n with rfl | h0
  · obtain rfl : zs = [] := List.length_eq_zero_iff.1 h.1
    refine (parse_empty ao c w).mono ?_
    rintro e w' ⟨hb, rfl⟩
    exact ⟨hb, none, 0, 0, false, none, 0, 0, none, 0, 0, none, 0, 0, false, rfl, fun _ => ⟨rfl, rfl, rfl, rfl, rfl, rfl⟩, fun hnb => absurd bad_nil hnb⟩
  · obtain ⟨b, o, rfl, hc⟩ := h.2.resolve_left (by omega)
    have hb := World.block_lt_of_cell? w _ (hc 0 h0)
    refine (parse_core b o n c zs w h hn hnc h0 hb hc (by have := hc 0 h0; rw [Nat.add_zero] at this; exact this)).mono ?_
    rintro e w' ⟨hbel, ⟨hbad, rfl⟩ | ⟨hnb, ai, ni, ci, af, nf, cf, ae, ne, ce, rfl, h1, h2, h3⟩⟩
    · exact ⟨hbel, none, 0, 0, false, none, 0, 0, none, 0, 0, none, 0, 0, false, rfl, fun _ => ⟨rfl, rfl, rfl, rfl, rfl, rfl⟩, fun hnb => absurd hbad hnb⟩
    · refine ⟨hbel, _, n, c, _, ai, ni, ci, af, nf, cf, ae, ne, ce, _, rfl, fun hbad => absurd hbad hnb, fun _ => ⟨h, rfl, h1, h2, h3, ?_⟩⟩
      rw [h.1]

set_option maxRecDepth 100000 in
set_option maxHeartbeats 400000 in
theorem zz_any (ao : Option Addr) (n c : Nat) (zs : List Int) (w : World) (h : Rd w ao n zs) (hn : n ≤ 1073741824) (hnc : n ≤ c) :
    Calls Try.prog 12 #[.slice ao n c] w fun e w' => ZZPost w zs e w' := by
  have H : Hid (Rd w ao n zs) := h
  clear h
  go_enter Try.func12, Try.ntmps12
  go_wp2_with fail
  refine (parse_any ao n c zs _ H.out hn hnc).mono ?_
  rintro e w1 ⟨hb, a0, n0, c0, ng, ai, ni, ci, af, nf, cf, ae, ne, ce, ok, rfl, p1, p2⟩
  have HP : Hid (_ ∧ _) := ⟨p1, p2⟩
  clear p1 p2
  go_wp2
  go_quiet (fail)
  go_wp2
  refine bodyPost_ret (v := .tuple #[.slice a0 n0 c0, .bool ng, .slice ai ni ci, .slice af nf cf, .slice ae ne ce, .bool ok]) (by simp [results, Try.results12, go_sem]) rfl ⟨?_, a0, n0, c0, ng, ai, ni, ci, af, nf, cf, ae, ne, ce, ok, rfl, HP.out.1, HP.out.2⟩
  exact below_drewN (hb.alloc hb.size _) _
end Go.Proofs.Qxb6603471a
