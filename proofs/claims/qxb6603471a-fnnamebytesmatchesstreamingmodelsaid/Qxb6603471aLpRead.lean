import Derived.Test.Qxb6603471aLpState
import Derived.Test.Qxb6603471aParse
namespace Go.Proofs.Qxb6603471a
open Go.RowKit
set_option linter.unusedSimpArgs false
set_option linter.unusedVariables false

/-- What has been read so far: from the room, or from the input itself. -/
def cur (zs : List Int) (start : Nat) (e : Bool) (ts : List Int) (p : Nat) : List Int := if e then ts else Json.seg zs start p

set_option maxHeartbeats 400000 in
/-- 'nameRead' of a name that has escapes -/
theorem read_esc (R : Nat) (iv : Value) (T0 : Option Nat) (w0 w : World) (p : Nat) (ta : Option Addr) (tl tc : Nat) (ts : List Int) (start : Int) (h : Hid (St R iv T0 w0 w p (.slice ta tl tc) ts)) :
    Calls Try.prog 50 #[.pointer (some ⟨R, 0, none⟩), .int .i64 start, .bool true] w fun e w' => e = .returned (.slice ta tl tc) ∧ ∃ m, w' = w.drewN m := by
  have g3 := h.out.c3
  go_enter Try.func50, Try.ntmps50
  go_wp2
  go_ret
  exact ⟨rfl, 0, rfl⟩

set_option maxHeartbeats 400000 in
/-- 'nameRead' of a name that has none -/
theorem read_plain (R : Nat) (ao : Option Addr) (n c : Nat) (T0 : Option Nat) (w0 w : World) (p : Nat) (tv : Value) (ts : List Int) (start : Nat) (h : Hid (St R (.slice ao n c) T0 w0 w p tv ts)) (hs : start ≤ p) (hp : p ≤ n) (hnc : n ≤ c) (hn : n ≤ 1048576) :
    Calls Try.prog 50 #[.pointer (some ⟨R, 0, none⟩), .int .i64 start, .bool false] w fun e w' => e = .returned (.slice (if c = start then ao else ao.map (·.add start)) (p - start) (c - start)) ∧ ∃ m, w' = w.drewN m := by
  have g0 := h.out.c0
  have g1 := h.out.c1
  go_enter Try.func50, Try.ntmps50
  go_wp2
  go_quiet (fail)
  go_wp2
  all_goals
    go_ret
    exact ⟨rfl, nq, rfl⟩

/-- What 'nameRead' gives, in one. -/
theorem read_any (R : Nat) (ao : Option Addr) (n c : Nat) (T0 : Option Nat) (w0 w : World) (p : Nat) (tv : Value) (ts : List Int) (start : Nat) (esc : Bool) (zs : List Int) (h : Hid (St R (.slice ao n c) T0 w0 w p tv ts)) (hr : Hid (Rd w ao n zs)) (hs : start ≤ p) (hp : p ≤ n) (hnc : n ≤ c) (hn : n ≤ 1048576) :
    Calls Try.prog 50 #[.pointer (some ⟨R, 0, none⟩), .int .i64 start, .bool esc] w fun e w' => ∃ (a' : Option Addr) (l' c' m : Nat), e = .returned (.slice a' l' c') ∧ Rd w' a' l' (cur zs start esc ts p) ∧ w' = w.drewN m := by
  cases esc
  · refine (read_plain R ao n c T0 w0 w p tv ts start h hs hp hnc hn).mono ?_
    rintro e w' ⟨rfl, m, rfl⟩
    refine ⟨_, _, _, m, rfl, ?_, rfl⟩
    show Rd (w.drewN m) _ (p - start) (Json.seg zs start p)
    rcases Nat.eq_zero_or_pos n with h0 | h0
    · have e1 : p - start = 0 := by omega
      refine ⟨?_, .inl e1⟩
      rw [Json.seg_length zs start p hs (by rw [hr.out.1]; exact hp)]
    · obtain ⟨b, o, rfl, hc⟩ := hr.out.2.resolve_left (by omega)
      have := Rd.sub ⟨hr.out.1, .inr ⟨b, o, rfl, hc⟩⟩ start p hs hp
      by_cases hcs : c = start
      · have e1 : p - start = 0 := by omega
        refine ⟨this.1, .inl e1⟩
      · rw [if_neg hcs, Option.map_some, Addr.add_lit]
        exact this
  · obtain ⟨ta, tc, rfl, hrd⟩ := rd_of_ownB h.out.own
    refine (read_esc R _ T0 w0 w p ta ts.length tc ts start h).mono ?_
    rintro e w' ⟨rfl, m, rfl⟩
    exact ⟨ta, ts.length, tc, m, rfl, hrd, rfl⟩
end Go.Proofs.Qxb6603471a
