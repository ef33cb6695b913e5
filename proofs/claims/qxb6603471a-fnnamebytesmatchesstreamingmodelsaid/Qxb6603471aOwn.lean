import Derived.Test.Qxb6603471aBytes
import Derived.Maps.AppendAt
namespace Go.Proofs.Qxb6603471a
open Go.RowKit

/-- Two values whose own blocks, if any, are not one. -/
def Apart (u v : Value) : Prop := u.ownBlock = none ∨ u.ownBlock ≠ v.ownBlock

theorem Apart.symm {u v : Value} (h : Apart u v) : Apart v u := by
  rcases h with h | h
  · cases hv : v.ownBlock with
    | none => exact .inl hv
    | some k => exact .inr (by rw [hv, h]; simp)
  · exact .inr (fun e => h e.symm)

/-- The bytes zs in a row of the call's own. -/
def OwnB (w : World) (B : Nat) (v : Value) (zs : List Int) : Prop := w.ownsRow B 5 1 v zs.length (zs.map (Value.int .u8))

theorem OwnB.nil (w : World) (B : Nat) : OwnB w B (.slice none 0 0) [] := World.ownsRow_nil _ _ _ _

/-- A value beside one that is appended to. -/
theorem beside {w w1 : World} {B : Nat} {u v v' : Value} {m : Nat} {ys : List Value} (hu : w.ownsRow B 5 1 u m ys) (hap : Apart u v) (x : Obj)
    (hg : (w.alloc x).grownBy w1 v.ownBlock) (hat : v'.ownBlock = v.ownBlock ∨ v'.ownBlock = some (w.heap.size + 1)) :
    w1.ownsRow B 5 1 u m ys ∧ Apart u v' := by
  refine ⟨(hu.alloc x).kept hg hap, ?_⟩
  rcases hat with e | e
  · rw [Apart, e]; exact hap
  · cases hb : u.ownBlock with
    | none => exact .inl hb
    | some k =>
      have := (hu.lt k hb).2
      refine .inr ?_
      rw [e, hb]
      simp
      omega

theorem rd_of_ownB {w : World} {B : Nat} {v : Value} {zs : List Int} (h : OwnB w B v zs) : ∃ ao c, v = .slice ao zs.length c ∧ Rd w ao zs.length zs := by
  rcases h.2 with ⟨rfl, h0⟩ | ⟨g, cap, cur, rfl, _⟩
  · exact ⟨none, 0, by rw [h0], rfl, .inl h0⟩
  · exact ⟨_, cap, rfl, rd_of_owns h⟩
end Go.Proofs.Qxb6603471a
