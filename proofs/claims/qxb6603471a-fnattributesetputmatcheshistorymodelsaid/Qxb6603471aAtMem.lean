import Derived.Test.Qxb6603471aRows
import Derived.WalkKit
import Derived.ProofKit
import Derived.Below
import Derived.WalkSmall
import Derived.WalkSpells
import Derived.Lib.SliceRun
import Derived.BigQuiet
import Derived.Deep.QuietTactic
import Derived.Deep.MidRow
namespace Go.Proofs.Qxb6603471a
open Go.RowKit
set_option linter.unusedSimpArgs false
set_option linter.unusedVariables false

/-- One put of a script. -/
structure Put where
  rank : Int
  key : ByteArray
  ty : Int
  str : ByteArray
  int : Int

instance : Inhabited Put := ⟨⟨0, ByteArray.empty, 0, ByteArray.empty, 0⟩⟩

/-- its five cells -/
def Put.cells (o : Put) : List Value := [.int .u8 o.rank, .string o.key, .int .u8 o.ty, .string o.str, .int .i64 o.int]

/-- Well formed, as what came in is. -/
def Put.ok (o : Put) : Prop := (0 ≤ o.rank ∧ o.rank ≤ 255) ∧ o.key.size ≤ maxLen ∧ (0 ≤ o.ty ∧ o.ty ≤ 255) ∧ o.str.size ≤ maxLen

/-- The slice value at 'ao', of n puts, reads, in w, as the script os. -/
def RdO (w : World) (ao : Option Addr) (n : Nat) (os : List Put) : Prop :=
  os.length = n ∧ (n = 0 ∨ ∃ b o, ao = some ⟨b, o, none⟩ ∧ ∀ i, i < n → w.rangeAt b (o + i * 5) (os.getD i default).cells)

theorem RdO.drewN {w : World} {ao : Option Addr} {n : Nat} {os : List Put} (h : RdO w ao n os) (m : Nat) : RdO (w.drewN m) ao n os := h

theorem rangeAt_below {w w' : World} {B b o : Nat} {cs : List Value} (h : w.rangeAt b o cs) (hb : Below B w w') (hB : b < B) : w'.rangeAt b o cs := by
  intro j v hv
  rw [hb.cell (p := ⟨b, o + j, none⟩) hB]
  exact h j v hv

theorem rangeAt_lt {w : World} {b o : Nat} {o' : Put} (h : w.rangeAt b o o'.cells) : b < w.heap.size := World.block_lt_of_cell? w _ (h 0 _ rfl)

theorem RdO.below {w w' : World} {ao : Option Addr} {n : Nat} {os : List Put} (h : RdO w ao n os) (hb : Below w.heap.size w w') : RdO w' ao n os := by
  refine ⟨h.1, h.2.imp_right ?_⟩
  rintro ⟨b, o, e, hc⟩
  exact ⟨b, o, e, fun i hi => rangeAt_below (hc i hi) hb (rangeAt_lt (hc i hi))⟩

theorem put_c0 {w : World} {b o : Nat} {p : Put} (h : w.rangeAt b o p.cells) : w.cell? ⟨b, o, none⟩ = some (.int .u8 p.rank) := h 0 _ rfl
theorem put_c1 {w : World} {b o : Nat} {p : Put} (h : w.rangeAt b o p.cells) : w.cell? ⟨b, o + 1, none⟩ = some (.string p.key) := h 1 _ rfl
theorem put_c2 {w : World} {b o : Nat} {p : Put} (h : w.rangeAt b o p.cells) : w.cell? ⟨b, o + 2, none⟩ = some (.int .u8 p.ty) := h 2 _ rfl
theorem put_c3 {w : World} {b o : Nat} {p : Put} (h : w.rangeAt b o p.cells) : w.cell? ⟨b, o + 3, none⟩ = some (.string p.str) := h 3 _ rfl
theorem put_c4 {w : World} {b o : Nat} {p : Put} (h : w.rangeAt b o p.cells) : w.cell? ⟨b, o + 4, none⟩ = some (.int .i64 p.int) := h 4 _ rfl

/-- the bytes that a script leads to -/
def weigh : List Put → Nat
  | [] => 0
  | o :: r => 56 + o.key.size + o.str.size + weigh r

end Go.Proofs.Qxb6603471a
