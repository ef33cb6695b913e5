import Derived.Test.Qxb6603471aOwn
import Derived.OpenShut
namespace Go.Proofs.Qxb6603471a
open Go.RowKit
set_option linter.unusedSimpArgs false
set_option linter.unusedVariables false

/-- WHAT THE WALK IS TOLD OF A SLICE OF INTEGERS THAT CAME IN: it is nil; or it leads to a row of 'cap' cells, the numbers 'zs' (the first 'len' are its elements, the rest its spare room), each fitting its kind. -/
def IsRow (k : IntKind) (w : World) (a : Option Addr) (len cap : Nat) (zs : List Int) : Prop :=
  (a = none ∧ len = 0 ∧ cap = 0 ∧ zs = []) ∨
  ∃ x, a = some x ∧ len ≤ cap ∧ cap ≤ maxLen ∧ zs.length = cap ∧ (∀ i, i < zs.length → w.cell? (x.add i) = some (.int k (zs.getD i 0))) ∧ ∀ n ∈ zs, (Lit.int k n).wf = true

/-- Bytes that came in: nil, or a slice that reads as zs. -/
def Arg (w : World) (a : Option Addr) (n c : Nat) (zs : List Int) : Prop :=
  Rd w a n zs ∧ n ≤ c ∧ (a = none → n = 0 ∧ c = 0) ∧ ∀ k, 0 ≤ zs.getD k 0 ∧ zs.getD k 0 ≤ 255

theorem byte_bounds {z : Int} (h : (Lit.int .u8 z).wf = true) : 0 ≤ z ∧ z ≤ 255 := bounds_u8 h

theorem arg_of_row {w : World} {a : Option Addr} {len cap : Nat} {zs : List Int} (h : IsRow .u8 w a len cap zs) : Arg w a len cap (zs.take len) := by
  rcases h with ⟨rfl, rfl, rfl, rfl⟩ | ⟨x, rfl, hl, hm, hz, hcell, hwz⟩
  · exact ⟨⟨rfl, .inl rfl⟩, Nat.le_refl _, fun _ => ⟨rfl, rfl⟩, fun k => by simp⟩
  · refine ⟨⟨by simp; omega, ?_⟩, hl, (fun h => by cases h), fun k => ?_⟩
    · rcases Nat.eq_zero_or_pos len with h0 | h0
      · exact .inl h0
      · obtain ⟨b, off, spot⟩ := x
        have hc := hcell 0 (by omega)
        have hspot : spot = none := by simpa [Addr.add] using World.cell?_spot hc
        subst hspot
        refine .inr ⟨b, off, rfl, fun i hi => ?_⟩
        have := hcell i (by omega)
        rw [Addr.add_lit] at this
        rw [this]
        simp [List.getD, hi]
    · by_cases hk : k < (zs.take len).length
      · have hmem : (zs.take len).getD k 0 ∈ zs := by
          have : (zs.take len).getD k 0 = (zs.take len)[k] := by rw [List.getD, List.getElem?_eq_getElem hk]; rfl
          rw [this]
          exact List.mem_of_mem_take (List.getElem_mem hk)
        exact byte_bounds (hwz _ hmem)
      · have : (zs.take len).getD k 0 = 0 := by simp [List.getD, List.getElem?_eq_none (Nat.le_of_not_lt hk)]
        rw [this]; omega

/-- 'cloneBytes', whatever came in. -/
theorem clone_any (a : Option Addr) (n c : Nat) (zs : List Int) (w : World) (h : Arg w a n c zs) (hn : n ≤ 1073741824) :
    Calls Try.prog 11 #[.slice a n c] w fun e w' => ∃ (ao : Option Addr) (c' : Nat), e = .returned (.slice ao n c') ∧ n ≤ c' ∧ Rd w' ao n zs ∧ Below w.heap.size w w' := by
  cases a with
  | none =>
    obtain ⟨rfl, rfl⟩ := h.2.2.1 rfl
    refine (clone_nil w).mono ?_
    rintro e w' ⟨rfl, rfl⟩
    exact ⟨none, 0, rfl, Nat.le_refl _, h.1, Below.refl _ _⟩
  | some x =>
    refine (clone_some x n c zs w h.1 hn).mono ?_
    rintro e w' ⟨rfl, hown, hb⟩
    exact ⟨_, n, rfl, Nat.le_refl _, rd_of_owns hown, hb⟩
end Go.Proofs.Qxb6603471a
