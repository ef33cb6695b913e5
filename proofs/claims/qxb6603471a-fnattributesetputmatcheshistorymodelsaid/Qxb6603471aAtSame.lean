import Derived.Test.Qxb6603471aAtDoors
namespace Go.Proofs.Qxb6603471a
open Go.RowKit Go.Maps
set_option linter.unusedSimpArgs false
set_option linter.unusedVariables false

theorem f00 (w : World) : (binOp .eql 45 (.float .f64 0) (.float .f64 0)).run Try.prog w = .ok (.bool true) w := by kernel_rfl

set_option maxRecDepth 100000 in
set_option maxHeartbeats 2000000 in
/-- 'valueEq' of a value with itself -/
theorem valueEq_same (vt : Int) (vs : ByteArray) (vi : Int) (w : World) :
    Calls Try.prog 48 #[.agg #[.int .u8 vt, .string vs, .bool false, .int .i64 vi, .float .f64 0, .slice none 0 0, .slice none 0 0, .slice none 0 0], .agg #[.int .u8 vt, .string vs, .bool false, .int .i64 vi, .float .f64 0, .slice none 0 0, .slice none 0 0, .slice none 0 0]] w fun e w' => e = .returned (.bool true) ∧ Below w.heap.size w w' := by
  have HB : Hid (Below w.heap.size w ((w.alloc (.cells #[.int .u8 vt, .string vs, .bool false, .int .i64 vi, .float .f64 0, .slice none 0 0, .slice none 0 0, .slice none 0 0] 49)).alloc (.cells #[.int .u8 vt, .string vs, .bool false, .int .i64 vi, .float .f64 0, .slice none 0 0, .slice none 0 0, .slice none 0 0] 49))) := ((Below.refl _ _).alloc (Nat.le_refl _) _).alloc (by simp) _
  have q := f00
  go_enter Try.func48, Try.ntmps48
  go_wp2
  go_ret
  exact ⟨rfl, HB.out⟩

theorem valueEq_any (ov : List Value) (vt : Int) (vs : ByteArray) (vi : Int) (h : Hid (ov = vcells vt vs vi)) (w : World) :
    Calls Try.prog 48 #[.agg ov.toArray, .agg ov.toArray] w fun e w' => e = .returned (.bool true) ∧ Below w.heap.size w w' := by
  rw [h.out]; exact valueEq_same vt vs vi w

/-- Two keys of two sets agree in all but their place. -/
def Alike (e f : Ent) : Prop := e.ty = f.ty ∧ e.str = f.str ∧ e.int = f.int ∧ e.rank = f.rank ∧ e.held = f.held

/-- what a new block of a value is good for -/
theorem new49 (w : World) : (w.alloc (.cells #[.int .u8 0, .string ⟨#[]⟩, .bool false, .int .i64 0, .float .f64 0, .slice none 0 0, .slice none 0 0, .slice none 0 0] 49)).there w.heap.size 0 8 := by
  have e2 := heap_alloc_new w (.cells (vcells 0 ⟨#[]⟩ 0).toArray 49)
  have r2 : (w.alloc (.cells (vcells 0 ⟨#[]⟩ 0).toArray 49)).rangeAt w.heap.size 0 (vcells 0 ⟨#[]⟩ 0) := fun j v hv => by
    rw [cell_of_row _ _ (0 + j) _ _ _ e2, Nat.zero_add, ← hv]; simp
  exact fun j hj => ⟨r2.isSome j hj, frozen_of_row _ _ _ _ _ e2⟩

set_option maxRecDepth 100000 in
set_option maxHeartbeats 4000000 in
/-- 'sameEntries' -/
theorem sameEntries_any (Sa Ba Sb Bb : Nat) (av mv xv bv nv yv : Value) (ea eb : List Ent) (xs ys : Option (Nat × Nat × DataW Unit)) (ao : Option Addr) (n c : Nat) (os : List Put) (w : World)
    (ha : Hid (SetAt w Sa Ba av mv xv ea xs)) (hb : Hid (SetAt w Sb Bb bv nv yv eb ys)) (hr : Hid (RdO w ao n os)) (hn : n ≤ 1048576) (hla : Hid (ea.length ≤ 1048576)) (hlb : Hid (eb.length ≤ 1048576))
    (hok : Hid (∀ p ∈ os, p.ok)) (hag : Hid (∀ p ∈ os, ∃ i j, findE ea p.key = some i ∧ findE eb p.key = some j ∧ Alike (ea.getD i default) (eb.getD j default))) :
    Calls Try.prog 41 #[.pointer (some ⟨Sa, 0, none⟩), .pointer (some ⟨Sb, 0, none⟩), .slice ao n c] w fun e w' => e = .returned (.bool true) ∧ Below w.heap.size w w' := by
  obtain ⟨na, hna⟩ : ∃ na, na = ea.length := ⟨_, rfl⟩
  obtain ⟨nb, hnb⟩ : ∃ nb, nb = eb.length := ⟨_, rfl⟩
  have HNA : Hid (na = ea.length) := hna
  have HNB : Hid (nb = eb.length) := hnb
  have hna1 : na ≤ 1048576 := by rw [hna]; exact hla.out
  have hnb1 : nb ≤ 1048576 := by rw [hnb]; exact hlb.out
  clear hna hnb
  have L34a : Calls Try.prog 34 #[.pointer (some ⟨Sa, 0, none⟩)] w fun e w' => e = .returned (.int .i64 na) ∧ w = w' := by rw [HNA.out]; exact len_any Sa Ba av mv xv ea xs w ha
  have L34b : Calls Try.prog 34 #[.pointer (some ⟨Sb, 0, none⟩)] w fun e w' => e = .returned (.int .i64 nb) ∧ w = w' := by rw [HNB.out]; exact len_any Sb Bb bv nv yv eb ys w hb
  have HLA : Hid (Calls Try.prog 34 #[.pointer (some ⟨Sa, 0, none⟩)] w fun e w' => e = .returned (.int .i64 na) ∧ w = w') := L34a
  have HLB : Hid (Calls Try.prog 34 #[.pointer (some ⟨Sb, 0, none⟩)] w fun e w' => e = .returned (.int .i64 nb) ∧ w = w') := L34b
  clear L34a L34b
  go_enter Try.func41, Try.ntmps41
  go_wp2_with fail
  refine HLA.out.mono ?_
  rintro e w' ⟨rfl, rfl⟩
  go_wp2_with fail
  refine HLB.out.mono ?_
  rintro e w' ⟨rfl, rfl⟩
  go_wp2_with fail
  go_loopw [9] (fun t wr => ∃ (k : Nat), k ≤ n ∧ t = .int .i64 k ∧ Hid (Below w.heap.size w wr)) (fun t _ => n - (intOf t).toNat)
  case atStart => exact ⟨0, Nat.zero_le _, rfl, Below.refl _ _⟩
  case round =>
    obtain ⟨k, hk, rfl, HBr⟩ := hrel
    by_cases hlt : k < n
    · obtain ⟨b, o, rfl, hc⟩ := (hr.out.below HBr.out).2.resolve_left (by omega)
      have hkl : k < os.length := by rw [hr.out.1]; exact hlt
      obtain ⟨p, hp⟩ : ∃ p, p = os.getD k default := ⟨_, rfl⟩
      have hp2 : os[k]'hkl = p := by rw [hp]; simp [List.getD, hkl]
      have hpm : p ∈ os := by rw [← hp2]; exact List.getElem_mem hkl
      have hpr := hc k hlt
      rw [← hp] at hpr
      have hblt := rangeAt_lt hpr
      obtain ⟨i, j, hfi, hfj, hal⟩ := hag.out p hpm
      have hpk := (hok.out p hpm).2.1
      obtain ⟨pr, pk, pt, ps, pi⟩ := p
      dsimp only at hpk hfi hfj
      have g1 : wr.cell? ⟨b, o + k * 5 + 1, none⟩ = some (.string pk) := put_c1 hpr
      have G1 : Hid (wr.cell? ⟨b, o + k * 5 + 1, none⟩ = some (.string pk)) := g1
      obtain ⟨hi, hki, _⟩ := findE_some hfi
      obtain ⟨hj, hkj, _⟩ := findE_some hfj
      have egi : ea.getD i default = ea[i]'hi := by simp [List.getD, hi]
      have egj : eb.getD j default = eb[j]'hj := by simp [List.getD, hj]
      rw [egi, egj] at hal
      rw [egi] at hki
      rw [egj] at hkj
      have HSa : Hid (SetAt wr Sa Ba av mv xv ea xs) := ha.out.below HBr.out
      have HSb : Hid (SetAt wr Sb Bb bv nv yv eb ys) := hb.out.below HBr.out
      have hz1 : (ea[i]'hi).val = vcells (ea[i]'hi).ty (ea[i]'hi).str (ea[i]'hi).int := rfl
      have hz2 : (eb[j]'hj).val = vcells (ea[i]'hi).ty (ea[i]'hi).str (ea[i]'hi).int := by rw [hal.1, hal.2.1, hal.2.2.1]; rfl
      have CP1 : Hid (Calls Try.prog 38 #[.pointer (some ⟨Sa, 0, none⟩), .string pk] wr fun e w' => e = .returned (.tuple #[.int .i64 i, .bool true]) ∧ wr = w') := by
        refine (zplace_any Sa Ba av mv xv ea xs pk wr HSa hpk hla).mono ?_
        rintro e w' ⟨rfl, rfl⟩
        rw [hfi]; exact ⟨rfl, rfl⟩
      have CP2 : Hid (Calls Try.prog 38 #[.pointer (some ⟨Sb, 0, none⟩), .string pk] wr fun e w' => e = .returned (.tuple #[.int .i64 j, .bool true]) ∧ wr = w') := by
        refine (zplace_any Sb Bb bv nv yv eb ys pk wr HSb hpk hlb).mono ?_
        rintro e w' ⟨rfl, rfl⟩
        rw [hfj]; exact ⟨rfl, rfl⟩
      obtain ⟨vt, hvt⟩ : ∃ vt, vt = (ea[i]'hi).ty := ⟨_, rfl⟩
      obtain ⟨vs, hvs⟩ : ∃ vs, vs = (ea[i]'hi).str := ⟨_, rfl⟩
      obtain ⟨vi, hvi⟩ : ∃ vi, vi = (ea[i]'hi).int := ⟨_, rfl⟩
      obtain ⟨er, her⟩ : ∃ er, er = (ea[i]'hi).rank := ⟨_, rfl⟩
      obtain ⟨eh, heh⟩ : ∃ eh, eh = (ea[i]'hi).held := ⟨_, rfl⟩
      obtain ⟨ov, hov⟩ : ∃ ov, ov = vcells vt vs vi := ⟨_, rfl⟩
      rw [← hvt, ← hvs, ← hvi, ← hov] at hz1 hz2
      have CA : Hid (∀ wx, Hid (SetAt wx Sa Ba av mv xv ea xs) → Calls Try.prog 36 #[.pointer (some ⟨Sa, 0, none⟩), .int .i64 i] wx fun e w' => e = .returned (.tuple #[.string pk, .agg ov.toArray, .int .u8 er, .int .u8 eh]) ∧ Below wx.heap.size wx w') := by
        intro wx hx
        have := at_any Sa Ba av mv xv ea xs i wx hx hi hla
        rw [hki, hz1, ← her, ← heh] at this
        exact this
      have CB : Hid (∀ wx, Hid (SetAt wx Sb Bb bv nv yv eb ys) → Calls Try.prog 36 #[.pointer (some ⟨Sb, 0, none⟩), .int .i64 j] wx fun e w' => e = .returned (.tuple #[.string pk, .agg ov.toArray, .int .u8 er, .int .u8 eh]) ∧ Below wx.heap.size wx w') := by
        intro wx hx
        have := at_any Sb Bb bv nv yv eb ys j wx hx hj hlb
        rw [hkj, hz2, ← hal.2.2.2.1, ← hal.2.2.2.2, ← her, ← heh] at this
        exact this
      have HOV : Hid (ov = vcells vt vs vi) := hov
      have HOL : Hid (ov.length = 8 ∧ ov.all (·.oneCell') = true) := by rw [hov]; exact ⟨rfl, rfl⟩
      have HOS : Hid (ov.toArray.size = 8) := by rw [hov]; exact rfl
      have hia : i < na := by rw [HNA.out]; exact hi
      have hjb : j < nb := by rw [HNB.out]; exact hj
      have HBL : Hid (b < wr.heap.size) := hblt
      clear hz1 hz2 hvt hvs hvi her heh hov hal hki hkj egi egj hi hj hfi hfj hp hp2 hpm hpr hc hkl hpk hblt
      go_wp2_with fail
      refine CP1.out.mono ?_
      rintro e w' ⟨rfl, rfl⟩
      go_wp2_with fail
      refine CP2.out.mono ?_
      rintro e w' ⟨rfl, rfl⟩
      go_wp2_with fail
      refine (CA.out wr HSa).mono ?_
      rintro e w1 ⟨rfl, hb1⟩
      have HB1 : Hid (Below wr.heap.size wr w1) := hb1
      clear hb1 g1
      go_upto_region 11 with (refine wpList_store_mid rfl 49 _ _ rfl w1.heap.size 0 ov.toArray rfl rfl (by rw [HOS.out]; exact new49 w1) (by rw [HOS.out]; exact info49s) (by simpa using HOL.out.2) ?_)
      obtain ⟨W1, hW1⟩ : ∃ W1, W1 = (w1.alloc (.cells #[.int .u8 0, .string ⟨#[]⟩, .bool false, .int .i64 0, .float .f64 0, .slice none 0 0, .slice none 0 0, .slice none 0 0] 49)).setCells w1.heap.size 0 ov := ⟨_, rfl⟩
      have HR1 : Hid (W1.rangeAt w1.heap.size 0 ov) := by rw [hW1]; exact World.rangeAt_setCells_same _ _ _ _ (by rw [HOL.out.1]; exact new49 w1)
      have HBa : Hid (Below wr.heap.size wr W1) := by
        rw [hW1]
        exact (HB1.out.alloc HB1.out.size _).grown (grown_setCells _ _ _ _) (by simp; have := HB1.out.size; omega) (fun k e => by cases e; exact HB1.out.size)
      have hlt1 : w1.heap.size < W1.heap.size := by rw [hW1]; exact Nat.lt_of_lt_of_le (by simp) (grown_setCells _ _ _ _).size
      have HLT1 : Hid (w1.heap.size < W1.heap.size) := hlt1
      rw [show (w1.alloc (.cells #[.int .u8 0, .string ⟨#[]⟩, .bool false, .int .i64 0, .float .f64 0, .slice none 0 0, .slice none 0 0, .slice none 0 0] 49)).setCells w1.heap.size 0 ov.toArray.toList = W1 from hW1.symm]
      clear hW1 hlt1
      have HSb1 : Hid (SetAt W1 Sb Bb bv nv yv eb ys) := HSb.out.below HBa.out
      go_wp2_with fail
      refine (CB.out W1 HSb1).mono ?_
      rintro e w2 ⟨rfl, hb2⟩
      have HB2 : Hid (Below W1.heap.size W1 w2) := hb2
      clear hb2
      go_upto_region 12 with (refine wpList_store_mid rfl 49 _ _ rfl w2.heap.size 0 ov.toArray rfl rfl (by rw [HOS.out]; exact new49 w2) (by rw [HOS.out]; exact info49s) (by simpa using HOL.out.2) ?_)
      obtain ⟨W2, hW2⟩ : ∃ W2, W2 = (w2.alloc (.cells #[.int .u8 0, .string ⟨#[]⟩, .bool false, .int .i64 0, .float .f64 0, .slice none 0 0, .slice none 0 0, .slice none 0 0] 49)).setCells w2.heap.size 0 ov := ⟨_, rfl⟩
      have HR2 : Hid (W2.rangeAt w2.heap.size 0 ov) := by rw [hW2]; exact World.rangeAt_setCells_same _ _ _ _ (by rw [HOL.out.1]; exact new49 w2)
      have HBb : Hid (Below W1.heap.size W1 W2) := by
        rw [hW2]
        exact (HB2.out.alloc HB2.out.size _).grown (grown_setCells _ _ _ _) (by simp; have := HB2.out.size; omega) (fun k e => by cases e; exact HB2.out.size)
      rw [show (w2.alloc (.cells #[.int .u8 0, .string ⟨#[]⟩, .bool false, .int .i64 0, .float .f64 0, .slice none 0 0, .slice none 0 0, .slice none 0 0] 49)).setCells w2.heap.size 0 ov.toArray.toList = W2 from hW2.symm]
      clear hW2
      have HR1' : Hid (W2.rangeAt w1.heap.size 0 ov) := rangeAt_below HR1.out HBb.out HLT1.out
      have HBc : Hid (Below wr.heap.size wr W2) := HBa.out.trans (HBb.out.mono HBa.out.size)
      have g2 : W2.cell? ⟨b, o + k * 5 + 1, none⟩ = some (.string pk) := by
        rw [HBc.out.cell (p := ⟨b, o + k * 5 + 1, none⟩) HBL.out]; exact G1.out
      have q00 : W2.cell? ⟨w1.heap.size, 0, none⟩ = some (.int .u8 vt) := HR1'.out 0 _ (by rw [HOV.out]; rfl)
      have q01 : W2.cell? ⟨w1.heap.size, 1, none⟩ = some (.string vs) := HR1'.out 1 _ (by rw [HOV.out]; rfl)
      have q02 : W2.cell? ⟨w1.heap.size, 2, none⟩ = some (.bool false) := HR1'.out 2 _ (by rw [HOV.out]; rfl)
      have q03 : W2.cell? ⟨w1.heap.size, 3, none⟩ = some (.int .i64 vi) := HR1'.out 3 _ (by rw [HOV.out]; rfl)
      have q04 : W2.cell? ⟨w1.heap.size, 4, none⟩ = some (.float .f64 0) := HR1'.out 4 _ (by rw [HOV.out]; rfl)
      have q05 : W2.cell? ⟨w1.heap.size, 5, none⟩ = some (.slice none 0 0) := HR1'.out 5 _ (by rw [HOV.out]; rfl)
      have q06 : W2.cell? ⟨w1.heap.size, 6, none⟩ = some (.slice none 0 0) := HR1'.out 6 _ (by rw [HOV.out]; rfl)
      have q07 : W2.cell? ⟨w1.heap.size, 7, none⟩ = some (.slice none 0 0) := HR1'.out 7 _ (by rw [HOV.out]; rfl)
      have q10 : W2.cell? ⟨w2.heap.size, 0, none⟩ = some (.int .u8 vt) := HR2.out 0 _ (by rw [HOV.out]; rfl)
      have q11 : W2.cell? ⟨w2.heap.size, 1, none⟩ = some (.string vs) := HR2.out 1 _ (by rw [HOV.out]; rfl)
      have q12 : W2.cell? ⟨w2.heap.size, 2, none⟩ = some (.bool false) := HR2.out 2 _ (by rw [HOV.out]; rfl)
      have q13 : W2.cell? ⟨w2.heap.size, 3, none⟩ = some (.int .i64 vi) := HR2.out 3 _ (by rw [HOV.out]; rfl)
      have q14 : W2.cell? ⟨w2.heap.size, 4, none⟩ = some (.float .f64 0) := HR2.out 4 _ (by rw [HOV.out]; rfl)
      have q15 : W2.cell? ⟨w2.heap.size, 5, none⟩ = some (.slice none 0 0) := HR2.out 5 _ (by rw [HOV.out]; rfl)
      have q16 : W2.cell? ⟨w2.heap.size, 6, none⟩ = some (.slice none 0 0) := HR2.out 6 _ (by rw [HOV.out]; rfl)
      have q17 : W2.cell? ⟨w2.heap.size, 7, none⟩ = some (.slice none 0 0) := HR2.out 7 _ (by rw [HOV.out]; rfl)
      go_wp2_with fail
      refine (valueEq_same vt vs vi W2).mono ?_
      rintro e w3 ⟨rfl, hb3⟩
      have HB3 : Hid (Below w.heap.size w w3) := (HBr.out.trans (HBc.out.mono HBr.out.size)).trans (hb3.mono (Nat.le_trans HBr.out.size HBc.out.size))
      clear hb3 q00 q01 q02 q03 q04 q05 q06 q07 q10 q11 q12 q13 q14 q15 q16 q17 g2
      go_wp2
      go_roundw
      case rel => exact ⟨k + 1, by omega, by go_num, HB3⟩
      case measure => simp [intOf]; omega
    · go_wp2
      go_ret
      exact ⟨rfl, HBr.out⟩
end Go.Proofs.Qxb6603471a
