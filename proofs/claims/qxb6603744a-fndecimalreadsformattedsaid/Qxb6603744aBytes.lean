import Derived.Test.Qxb6603744aRows
import Derived.Test.Qxb6603744aPlain
import Derived.WalkKit
import Derived.ProofKit
import Derived.Below
import Derived.OpenShut
import Derived.WalkSmall
import Derived.WalkSpells
import Derived.Lib.SliceRun
import Derived.BigQuiet
import Derived.Deep.QuietTactic
namespace Go.Proofs.Qxb6603744a
open Go.RowKit
set_option linter.unusedSimpArgs false
set_option linter.unusedVariables false

/-- The slice value at 'ao', of n elements, reads, in w, as the bytes zs. -/
def Rd (w : World) (ao : Option Addr) (n : Nat) (zs : List Int) : Prop :=
  zs.length = n ∧ (n = 0 ∨ ∃ b o, ao = some ⟨b, o, none⟩ ∧ ∀ i, i < n → w.cell? ⟨b, o + i, none⟩ = some (.int .u8 (zs.getD i 0)))

theorem Rd.drewN {w : World} {ao : Option Addr} {n : Nat} {zs : List Int} (h : Rd w ao n zs) (m : Nat) : Rd (w.drewN m) ao n zs := h

theorem Rd.below {w w' : World} {ao : Option Addr} {n : Nat} {zs : List Int} (h : Rd w ao n zs) (hb : Below w.heap.size w w') : Rd w' ao n zs := by
  refine ⟨h.1, h.2.imp_right ?_⟩
  rintro ⟨b, o, e, hc⟩
  refine ⟨b, o, e, fun i hi => ?_⟩
  rw [hb.cell (World.block_lt_of_cell? w _ (hc i hi))]
  exact hc i hi

theorem Try.info5 : (Try.prog.info? 5).map (fun i => (i.zero, i.size, i.bytes)) = some (some (.int .u8 0), 1, 1) := by kernel_rfl

def fillTo (zs : List Int) (n k : Nat) : List Value := ((zs.take k) ++ List.replicate (n - k) 0).map (Value.int .u8)

theorem fillTo_length (zs : List Int) (n k : Nat) (h : zs.length = n) (hk : k ≤ n) : (fillTo zs n k).length = n := by
  simp [fillTo]; omega
theorem fillTo_zero (zs : List Int) (n : Nat) : fillTo zs n 0 = List.replicate n (.int .u8 0) := by simp [fillTo]
theorem fillTo_all (zs : List Int) (n : Nat) (h : zs.length = n) : fillTo zs n n = zs.map (Value.int .u8) := by simp [fillTo, ← h]
theorem fillTo_set (zs : List Int) (n k : Nat) (h : zs.length = n) (hk : k < n) : (fillTo zs n k).set k (.int .u8 (zs.getD k 0)) = fillTo zs n (k + 1) := by
  apply List.ext_getElem?
  intro i
  unfold fillTo
  rcases Nat.lt_trichotomy i k with hi | rfl | hi
  · rw [List.getElem?_set_ne (by omega)]
    simp [List.getElem?_append, List.getElem?_take, hi, show i < zs.length by omega, show i < k + 1 by omega, show k ≤ zs.length by omega, show k + 1 ≤ zs.length by omega]
  · rw [List.getElem?_set_self (by simp; omega)]
    simp [List.getElem?_append, h, hk, show ¬ (min (i + 1) n ≤ i) by omega]
  · rw [List.getElem?_set_ne (by omega)]
    simp [List.getElem?_append, List.getElem?_replicate, h, show ¬ i < k by omega, show ¬ i < k + 1 by omega, show min k n = k by omega, show min (k + 1) n = k + 1 by omega]
    have : (i - k < n - k) ↔ (i - (k + 1) < n - (k + 1)) := by omega
    simp [this]

theorem rd_of_owns {w : World} {B g n cap : Nat} {zs : List Int} (h : w.ownsRow B 5 1 (.slice (some ⟨g, 0, none⟩) n cap) n (zs.map (Value.int .u8))) : Rd w (some ⟨g, 0, none⟩) n zs := by
  have hl : zs.length = n := by simpa using h.1
  refine ⟨hl, .inr ⟨g, 0, rfl, fun i hi => ?_⟩⟩
  rw [Nat.zero_add, h.cellAt i (by omega)]
  simp [List.getD, show i < zs.length by omega]

theorem Try.q22 : ∀ (w : World) (a : Option Addr) (n c n' c' : Nat), (binOp .eql 22 (.slice a n c) (.slice none n' c')).run Try.prog w = .ok (.bool a.isNone) w :=
  fun w a n c n' c' => Lib.run_eql_slice_nil w _ _ a n c n' c' Try.underlying22

set_option maxHeartbeats 400000 in
/-- 'cloneBytes' of nil -/
theorem clone_nil (w : World) :
    Calls Try.prog 6 #[.slice none 0 0] w fun e w' => e = .returned (.slice none 0 0) ∧ w' = w := by
  have q := Try.q22
  go_enter Try.func6, Try.ntmps6
  go_wp2
  go_ret
  exact ⟨rfl, rfl⟩

set_option maxHeartbeats 400000 in
/-- 'cloneBytes' -/
theorem clone_some (a : Addr) (n c : Nat) (zs : List Int) (w : World) (h : Rd w (some a) n zs) (hn : n ≤ 1073741824) :
    Calls Try.prog 6 #[.slice (some a) n c] w fun e w' => e = .returned (.slice (some ⟨w.heap.size, 0, none⟩) n n) ∧ w'.ownsRow w.heap.size 5 1 (.slice (some ⟨w.heap.size, 0, none⟩) n n) n (zs.map (Value.int .u8)) ∧ Below w.heap.size w w' := by
  obtain ⟨i0, hi, hz0, hz1, hz2⟩ := info_parts Try.info5
  obtain ⟨l, h⟩ := h
  have L : Hid (zs.length = n) := l
  clear l
  have H : Hid (n = 0 ∨ ∃ b o, some a = some ⟨b, o, none⟩ ∧ ∀ i, i < n → w.cell? ⟨b, o + i, none⟩ = some (.int .u8 (zs.getD i 0))) := h
  clear h
  have q := Try.q22
  go_enter Try.func6, Try.ntmps6
  go_wp2_with (at_make; refine wpList_make_full _ rfl _ _ 22 rfl w.heap.size 5 i0 (.int .u8 0) 1 Try.underlying22 hi hz0 hz1 _ _ _ _ n rfl rfl rfl rfl ?_ ?_ (Nat.le_refl _) ?_)
  · rw [hz2]; omega
  · unfold maxLen; omega
  · intro w1 hown hgrow
    rw [toList_madeCells_one, ← fillTo_zero zs n] at hown
    have hb : Below w.heap.size w w1 := (Below.refl _ _).grown hgrow (Nat.le_refl _) (by intro k hk; cases hk)
    clear hgrow
    go_wp2
    go_loopw [4] (fun i wr => ∃ k : Nat, k ≤ n ∧ i = .int .i64 k ∧ wr.ownsRow w.heap.size 5 1 (.slice (some ⟨w.heap.size, 0, none⟩) n n) n (fillTo zs n k) ∧ Below w.heap.size w wr) (fun i _ => n - (intOf i).toNat)
    case atStart => exact ⟨0, Nat.zero_le _, rfl, hown, hb⟩
    case round =>
      clear hown hb
      obtain ⟨k, hk, rfl, hown, hb⟩ := hrel
      by_cases hlt : k < n
      · obtain ⟨b, o, e, hc⟩ := H.out.resolve_left (by omega)
        obtain rfl := Option.some.inj e
        have hck := hc k hlt
        have hbl := World.block_lt_of_cell? w _ hck
        have g1 : wr.cell? ⟨b, o + k, none⟩ = some (.int .u8 (zs.getD k 0)) := (hb.cell hbl).trans hck
        have g2 : ∃ v, wr.cell? ⟨w.heap.size, k, none⟩ = some v := by
          rw [hown.cellAt k (by omega)]
          exact ⟨_, List.getElem?_eq_getElem (by rw [fillTo_length zs n k L.out hk]; exact hlt)⟩
        obtain ⟨v, g2⟩ := g2
        have g3 : wr.frozen? ⟨w.heap.size, k, none⟩ = false := hown.frozenAt k
        obtain ⟨z, hz⟩ : ∃ z, z = zs.getD k 0 := ⟨_, rfl⟩
        have HO := (hown.stored k (.int .u8 z)).1
        rw [hz, fillTo_set zs n k L.out hlt, ← hz] at HO
        have HO1 : Hid ((wr.setCell ⟨w.heap.size, k, none⟩ (.int .u8 z)).ownsRow w.heap.size 5 1 (.slice (some ⟨w.heap.size, 0, none⟩) n n) n (fillTo zs n (k + 1))) := HO
        rw [← hz] at g1
        clear HO hc hck e hz
        go_wp2
        go_roundw
        case rel => exact ⟨k + 1, by omega, by go_num, HO1.out, hb.setCell (Nat.le_refl _) _⟩
        case measure => simp [intOf]; omega
      · go_wp2
        go_ret
        obtain rfl : k = n := by omega
        rw [fillTo_all zs k L.out] at hown
        exact ⟨rfl, hown, hb⟩
/-- WHAT THE WALK IS TOLD OF A SLICE OF INTEGERS THAT CAME IN: it is nil; or it leads to a row of 'cap' cells, the numbers 'zs' (the first 'len' are its elements, the rest its spare room), each fitting its kind. -/
def IsRow (k : IntKind) (w : World) (a : Option Addr) (len cap : Nat) (zs : List Int) : Prop :=
  (a = none ∧ len = 0 ∧ cap = 0 ∧ zs = []) ∨
  ∃ x, a = some x ∧ len ≤ cap ∧ cap ≤ maxLen ∧ zs.length = cap ∧ (∀ i, i < zs.length → w.cell? (x.add i) = some (.int k (zs.getD i 0))) ∧ ∀ n ∈ zs, (Lit.int k n).wf = true

/-- Bytes that came in: nil, or a slice that reads as zs. -/
def Arg (w : World) (a : Option Addr) (n c : Nat) (zs : List Int) : Prop :=
  Rd w a n zs ∧ n ≤ c ∧ (a = none → n = 0 ∧ c = 0) ∧ ∀ k, 0 ≤ zs.getD k 0 ∧ zs.getD k 0 ≤ 255

theorem byte_bounds {z : Int} (h : (Lit.int .u8 z).wf = true) : 0 ≤ z ∧ z ≤ 255 := bounds_u8 h

theorem arg_of_row {w : World} {a : Option Addr} {len cap : Nat} {zs : List Int} (h : IsRow .u8 w a len cap zs) : Arg w a len cap (zs.take len) := by
  rcases h with ⟨rfl, rfl, rfl, rfl⟩ | ⟨x, rfl, hl, hm, hz, hcell, hwz⟩
  · exact ⟨⟨rfl, .inl rfl⟩, Nat.le_refl _, fun _ => ⟨rfl, rfl⟩, fun k => by simp⟩
  · refine ⟨⟨by simp; omega, ?_⟩, hl, (fun h => by cases h), fun k => ?_⟩
    · rcases Nat.eq_zero_or_pos len with h0 | h0
      · exact .inl h0
      · obtain ⟨b, off, spot⟩ := x
        have hc := hcell 0 (by omega)
        have hspot : spot = none := by simpa [Addr.add] using World.cell?_spot hc
        subst hspot
        refine .inr ⟨b, off, rfl, fun i hi => ?_⟩
        have := hcell i (by omega)
        rw [Addr.add_lit] at this
        rw [this]
        simp [List.getD, hi]
    · by_cases hk : k < (zs.take len).length
      · have hmem : (zs.take len).getD k 0 ∈ zs := by
          have : (zs.take len).getD k 0 = (zs.take len)[k] := by rw [List.getD, List.getElem?_eq_getElem hk]; rfl
          rw [this]
          exact List.mem_of_mem_take (List.getElem_mem hk)
        exact byte_bounds (hwz _ hmem)
      · have : (zs.take len).getD k 0 = 0 := by simp [List.getD, List.getElem?_eq_none (Nat.le_of_not_lt hk)]
        rw [this]; omega

/-- 'cloneBytes', whatever came in. -/
theorem clone_any (a : Option Addr) (n c : Nat) (zs : List Int) (w : World) (h : Arg w a n c zs) (hn : n ≤ 1073741824) :
    Calls Try.prog 6 #[.slice a n c] w fun e w' => ∃ (ao : Option Addr) (c' : Nat), e = .returned (.slice ao n c') ∧ n ≤ c' ∧ Rd w' ao n zs ∧ Below w.heap.size w w' := by
  cases a with
  | none =>
    obtain ⟨rfl, rfl⟩ := h.2.2.1 rfl
    refine (clone_nil w).mono ?_
    rintro e w' ⟨rfl, rfl⟩
    exact ⟨none, 0, rfl, Nat.le_refl _, h.1, Below.refl _ _⟩
  | some x =>
    refine (clone_some x n c zs w h.1 hn).mono ?_
    rintro e w' ⟨rfl, hown, hb⟩
    exact ⟨_, n, rfl, Nat.le_refl _, rd_of_owns hown, hb⟩
end Go.Proofs.Qxb6603744a
