import Derived.Test.Qxb6603471aRows
import Derived.WalkKit
import Derived.ProofKit
import Derived.Below
import Derived.WalkSmall
import Derived.WalkSpells
import Derived.Lib.SliceRun
import Derived.BigQuiet
import Derived.Deep.QuietTactic
namespace Go.Proofs.Qxb6603471a
open Go.RowKit
set_option linter.unusedSimpArgs false
set_option linter.unusedVariables false

/-- The slice value at 'ao', of n elements, reads, in w, as the bytes zs. -/
def Rd (w : World) (ao : Option Addr) (n : Nat) (zs : List Int) : Prop :=
  zs.length = n ∧ (n = 0 ∨ ∃ b o, ao = some ⟨b, o, none⟩ ∧ ∀ i, i < n → w.cell? ⟨b, o + i, none⟩ = some (.int .u8 (zs.getD i 0)))

theorem Rd.drewN {w : World} {ao : Option Addr} {n : Nat} {zs : List Int} (h : Rd w ao n zs) (m : Nat) : Rd (w.drewN m) ao n zs := h

/-- Do the bytes from place k on agree? -/
def eqFrom (xs ys : List Int) (k : Nat) : Bool := decide (xs.drop k = ys.drop k)

theorem eqFrom_step (xs ys : List Int) (k : Nat) (h : k < xs.length) (h' : k < ys.length) :
    eqFrom xs ys k = (if xs.getD k 0 = ys.getD k 0 then eqFrom xs ys (k + 1) else false) := by
  unfold eqFrom
  have e1 : xs.drop k = xs.getD k 0 :: xs.drop (k + 1) := by rw [List.drop_eq_getElem_cons h]; simp [List.getD, h]
  have e2 : ys.drop k = ys.getD k 0 :: ys.drop (k + 1) := by rw [List.drop_eq_getElem_cons h']; simp [List.getD, h']
  rw [e1, e2]
  by_cases e : xs.getD k 0 = ys.getD k 0
  · rw [if_pos e, e]; simp
  · rw [if_neg e]; simp only [List.cons.injEq, e, false_and, decide_false]

theorem eqFrom_zero (xs ys : List Int) : eqFrom xs ys 0 = decide (xs = ys) := by simp [eqFrom]
theorem eqFrom_end (xs ys : List Int) (k : Nat) (h : xs.length ≤ k) (h' : ys.length ≤ k) : eqFrom xs ys k = true := by
  simp [eqFrom, List.drop_of_length_le h, List.drop_of_length_le h']

set_option maxHeartbeats 400000 in
/-- 'sameBytes' -/
theorem same_any (a1 a2 : Option Addr) (n1 n2 c1 c2 : Nat) (xs ys : List Int) (w : World) (h1 : Rd w a1 n1 xs) (h2 : Rd w a2 n2 ys)
    (b1 : n1 ≤ 1073741824) (b2 : n2 ≤ 1073741824) :
    Calls Try.prog 14 #[.slice a1 n1 c1, .slice a2 n2 c2] w fun e w' => e = .returned (.bool (decide (xs = ys))) ∧ ∃ n, w' = w.drewN n := by
  obtain ⟨l1, h1⟩ := h1
  obtain ⟨l2, h2⟩ := h2
  by_cases hl : n1 = n2
  · subst hl
    have L1 : Hid (xs.length = n1) := l1
    have L2 : Hid (ys.length = n1) := l2
    clear l1 l2
    rcases Nat.eq_zero_or_pos n1 with rfl | hp
    · go_enter Try.func14, Try.ntmps14
      go_wp2
      refine wp_loop_rounds 1 ?_
      rw [rounds_succ]
      go_wp2
      go_ret
      have : xs = ys := by rw [List.length_eq_zero_iff.1 L1.out, List.length_eq_zero_iff.1 L2.out]
      exact ⟨by simp [this], 0, rfl⟩
    · obtain ⟨b, o, rfl, hc1⟩ := h1.resolve_left (by omega)
      obtain ⟨b', o', rfl, hc2⟩ := h2.resolve_left (by omega)
      clear h1 h2
      have H1 : Hid (∀ i, i < n1 → w.cell? ⟨b, o + i, none⟩ = some (.int .u8 (xs.getD i 0))) := hc1
      have H2 : Hid (∀ i, i < n1 → w.cell? ⟨b', o' + i, none⟩ = some (.int .u8 (ys.getD i 0))) := hc2
      clear hc1 hc2
      go_enter Try.func14, Try.ntmps14
      go_wp2
      go_loopw [5] (fun i wr => ∃ k n : Nat, k ≤ n1 ∧ i = .int .i64 k ∧ wr = w.drewN n ∧ Hid (decide (xs = ys) = eqFrom xs ys k)) (fun i _ => n1 - (intOf i).toNat)
      case atStart => exact ⟨0, 0, Nat.zero_le _, rfl, rfl, (eqFrom_zero xs ys).symm⟩
      case round =>
        obtain ⟨k, n, hk, rfl, rfl, HE⟩ := hrel
        by_cases hlt : k < n1
        · have g1 : w.cell? ⟨b, o + k, none⟩ = some (.int .u8 (xs.getD k 0)) := H1.out k hlt
          have g2 : w.cell? ⟨b', o' + k, none⟩ = some (.int .u8 (ys.getD k 0)) := H2.out k hlt
          have hs := eqFrom_step xs ys k (by rw [L1.out]; exact hlt) (by rw [L2.out]; exact hlt)
          have HS : Hid (eqFrom xs ys k = if xs.getD k 0 = ys.getD k 0 then eqFrom xs ys (k + 1) else false) := hs
          clear hs
          obtain ⟨x, hx⟩ : ∃ x, x = xs.getD k 0 := ⟨_, rfl⟩
          obtain ⟨y, hy⟩ : ∃ y, y = ys.getD k 0 := ⟨_, rfl⟩
          rw [← hx] at g1
          rw [← hy] at g2
          rw [← hx, ← hy] at HS
          clear hx hy
          go_wp2
          go_quiet (fail)
          go_wp2
          · go_ret
            refine ⟨?_, n + nq, by simp⟩
            have hne : (x != y) = true := by assumption
            rw [HE.out, HS.out, if_neg (by simpa using hne)]
            rfl
          · have heq : (x != y) = false := by assumption
            go_roundw
            case rel => exact ⟨k + 1, _, by omega, by go_num, rfl, by rw [HE.out, HS.out, if_pos (by simpa using heq)]; exact rfl⟩
            case measure => simp [intOf]; omega
        · go_wp2
          go_ret
          refine ⟨?_, n, rfl⟩
          rw [HE.out, eqFrom_end xs ys k (by rw [L1.out]; omega) (by rw [L2.out]; omega)]
          rfl
  · have hl' : ((n1 : Int) == (n2 : Int)) = false := by simp; omega
    have L1 : Hid (xs.length = n1) := l1
    have L2 : Hid (ys.length = n2) := l2
    clear l1 l2
    go_enter Try.func14, Try.ntmps14
    go_wp2
    go_ret
    have : ¬ xs = ys := by intro e; rw [e, L2.out] at L1; exact hl L1.out.symm
    exact ⟨by simp [this], 0, rfl⟩
theorem Rd.below {w w' : World} {ao : Option Addr} {n : Nat} {zs : List Int} (h : Rd w ao n zs) (hb : Below w.heap.size w w') : Rd w' ao n zs := by
  refine ⟨h.1, h.2.imp_right ?_⟩
  rintro ⟨b, o, e, hc⟩
  refine ⟨b, o, e, fun i hi => ?_⟩
  rw [hb.cell (World.block_lt_of_cell? w _ (hc i hi))]
  exact hc i hi

theorem Try.info5 : (Try.prog.info? 5).map (fun i => (i.zero, i.size, i.bytes)) = some (some (.int .u8 0), 1, 1) := by kernel_rfl

def fillTo (zs : List Int) (n k : Nat) : List Value := ((zs.take k) ++ List.replicate (n - k) 0).map (Value.int .u8)

theorem fillTo_length (zs : List Int) (n k : Nat) (h : zs.length = n) (hk : k ≤ n) : (fillTo zs n k).length = n := by
  simp [fillTo]; omega
theorem fillTo_zero (zs : List Int) (n : Nat) : fillTo zs n 0 = List.replicate n (.int .u8 0) := by simp [fillTo]
theorem fillTo_all (zs : List Int) (n : Nat) (h : zs.length = n) : fillTo zs n n = zs.map (Value.int .u8) := by simp [fillTo, ← h]
theorem fillTo_set (zs : List Int) (n k : Nat) (h : zs.length = n) (hk : k < n) : (fillTo zs n k).set k (.int .u8 (zs.getD k 0)) = fillTo zs n (k + 1) := by
  apply List.ext_getElem?
  intro i
  unfold fillTo
  rcases Nat.lt_trichotomy i k with hi | rfl | hi
  · rw [List.getElem?_set_ne (by omega)]
    simp [List.getElem?_append, List.getElem?_take, hi, show i < zs.length by omega, show i < k + 1 by omega, show k ≤ zs.length by omega, show k + 1 ≤ zs.length by omega]
  · rw [List.getElem?_set_self (by simp; omega)]
    simp [List.getElem?_append, h, hk, show ¬ (min (i + 1) n ≤ i) by omega]
  · rw [List.getElem?_set_ne (by omega)]
    simp [List.getElem?_append, List.getElem?_replicate, h, show ¬ i < k by omega, show ¬ i < k + 1 by omega, show min k n = k by omega, show min (k + 1) n = k + 1 by omega]
    have : (i - k < n - k) ↔ (i - (k + 1) < n - (k + 1)) := by omega
    simp [this]

theorem rd_of_owns {w : World} {B g n cap : Nat} {zs : List Int} (h : w.ownsRow B 5 1 (.slice (some ⟨g, 0, none⟩) n cap) n (zs.map (Value.int .u8))) : Rd w (some ⟨g, 0, none⟩) n zs := by
  have hl : zs.length = n := by simpa using h.1
  refine ⟨hl, .inr ⟨g, 0, rfl, fun i hi => ?_⟩⟩
  rw [Nat.zero_add, h.cellAt i (by omega)]
  simp [List.getD, show i < zs.length by omega]

theorem Try.q22 : ∀ (w : World) (a : Option Addr) (n c n' c' : Nat), (binOp .eql 22 (.slice a n c) (.slice none n' c')).run Try.prog w = .ok (.bool a.isNone) w :=
  fun w a n c n' c' => Lib.run_eql_slice_nil w _ _ a n c n' c' Try.underlying22

set_option maxHeartbeats 400000 in
/-- 'cloneBytes' of nil -/
theorem clone_nil (w : World) :
    Calls Try.prog 11 #[.slice none 0 0] w fun e w' => e = .returned (.slice none 0 0) ∧ w' = w := by
  have q := Try.q22
  go_enter Try.func11, Try.ntmps11
  go_wp2
  go_ret
  exact ⟨rfl, rfl⟩

set_option maxHeartbeats 400000 in
/-- 'cloneBytes' -/
theorem clone_some (a : Addr) (n c : Nat) (zs : List Int) (w : World) (h : Rd w (some a) n zs) (hn : n ≤ 1073741824) :
    Calls Try.prog 11 #[.slice (some a) n c] w fun e w' => e = .returned (.slice (some ⟨w.heap.size, 0, none⟩) n n) ∧ w'.ownsRow w.heap.size 5 1 (.slice (some ⟨w.heap.size, 0, none⟩) n n) n (zs.map (Value.int .u8)) ∧ Below w.heap.size w w' := by
  obtain ⟨i0, hi, hz0, hz1, hz2⟩ := info_parts Try.info5
  obtain ⟨l, h⟩ := h
  have L : Hid (zs.length = n) := l
  clear l
  have H : Hid (n = 0 ∨ ∃ b o, some a = some ⟨b, o, none⟩ ∧ ∀ i, i < n → w.cell? ⟨b, o + i, none⟩ = some (.int .u8 (zs.getD i 0))) := h
  clear h
  have q := Try.q22
  go_enter Try.func11, Try.ntmps11
  go_wp2_with (at_make; refine wpList_make_full _ rfl _ _ 22 rfl w.heap.size 5 i0 (.int .u8 0) 1 Try.underlying22 hi hz0 hz1 _ _ _ _ n rfl rfl rfl rfl ?_ ?_ (Nat.le_refl _) ?_)
  · rw [hz2]; omega
  · unfold maxLen; omega
  · intro w1 hown hgrow
    rw [toList_madeCells_one, ← fillTo_zero zs n] at hown
    have hb : Below w.heap.size w w1 := (Below.refl _ _).grown hgrow (Nat.le_refl _) (by intro k hk; cases hk)
    clear hgrow
    go_wp2
    go_loopw [4] (fun i wr => ∃ k : Nat, k ≤ n ∧ i = .int .i64 k ∧ wr.ownsRow w.heap.size 5 1 (.slice (some ⟨w.heap.size, 0, none⟩) n n) n (fillTo zs n k) ∧ Below w.heap.size w wr) (fun i _ => n - (intOf i).toNat)
    case atStart => exact ⟨0, Nat.zero_le _, rfl, hown, hb⟩
    case round =>
      clear hown hb
      obtain ⟨k, hk, rfl, hown, hb⟩ := hrel
      by_cases hlt : k < n
      · obtain ⟨b, o, e, hc⟩ := H.out.resolve_left (by omega)
        obtain rfl := Option.some.inj e
        have hck := hc k hlt
        have hbl := World.block_lt_of_cell? w _ hck
        have g1 : wr.cell? ⟨b, o + k, none⟩ = some (.int .u8 (zs.getD k 0)) := (hb.cell hbl).trans hck
        have g2 : ∃ v, wr.cell? ⟨w.heap.size, k, none⟩ = some v := by
          rw [hown.cellAt k (by omega)]
          exact ⟨_, List.getElem?_eq_getElem (by rw [fillTo_length zs n k L.out hk]; exact hlt)⟩
        obtain ⟨v, g2⟩ := g2
        have g3 : wr.frozen? ⟨w.heap.size, k, none⟩ = false := hown.frozenAt k
        obtain ⟨z, hz⟩ : ∃ z, z = zs.getD k 0 := ⟨_, rfl⟩
        have HO := (hown.stored k (.int .u8 z)).1
        rw [hz, fillTo_set zs n k L.out hlt, ← hz] at HO
        have HO1 : Hid ((wr.setCell ⟨w.heap.size, k, none⟩ (.int .u8 z)).ownsRow w.heap.size 5 1 (.slice (some ⟨w.heap.size, 0, none⟩) n n) n (fillTo zs n (k + 1))) := HO
        rw [← hz] at g1
        clear HO hc hck e hz
        go_wp2
        go_roundw
        case rel => exact ⟨k + 1, by omega, by go_num, HO1.out, hb.setCell (Nat.le_refl _) _⟩
        case measure => simp [intOf]; omega
      · go_wp2
        go_ret
        obtain rfl : k = n := by omega
        rw [fillTo_all zs k L.out] at hown
        exact ⟨rfl, hown, hb⟩
end Go.Proofs.Qxb6603471a
