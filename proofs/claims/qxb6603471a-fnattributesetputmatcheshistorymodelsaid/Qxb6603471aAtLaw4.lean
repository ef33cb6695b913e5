import Derived.Test.Qxb6603471aAtFold
import Derived.Deep.CutBlock
import Derived.Deep.DeepCutAuto
namespace Go.Proofs.Qxb6603471a
open Go.RowKit Go.Maps
set_option linter.unusedSimpArgs false
set_option linter.unusedVariables false

/-- A script that came in. -/
def ArgO (w : World) (a : Option Addr) (n c : Nat) (os : List Put) : Prop := RdO w a n os ∧ (a = none → n = 0 ∧ c = 0) ∧ ∀ p ∈ os, p.ok

theorem ArgO.below {w w' : World} {a : Option Addr} {n c : Nat} {os : List Put} (h : ArgO w a n c os) (hb : Below w.heap.size w w') : ArgO w' a n c os := ⟨h.1.below hb, h.2⟩

/-- 'new' of a type whose zero value is known. -/
theorem wpList_alloc_z {P : Program} {ops : Array Oper} {rest : List Oper} {o : Oper} {a : Act} {w : World} {Q : Exit → Act → World → Prop} (hgd : o.guard = none) (ty : TypeId) (ho : o.op = .alloc ty)
    (i : TypeInfo) (z : Value) (hi : P.info? ty = some i) (hz : i.zero = some z) (cs : Array Value) (hcs : z.cells = cs)
    (h : wpList P ops Q rest (a.put o.dst (.pointer (some ⟨w.heap.size, 0, none⟩))) (w.alloc (.cells cs ty))) : wpList P ops Q (o :: rest) a w := by
  subst hcs
  refine wpList_plain hgd fun K hK => ?_
  unfold Oper.wp execOp
  have e1 : (zeroValue ty).run P w = .ok z w := by
    have e0 : (typeInfo ty).run P w = .ok i w := by simp [typeInfo, hi]
    simp only [zeroValue, Sem.run_bind, e0, Result.andThen_ok, hz, Sem.run_pure]
  have e2 : (Instr.alloc ty true (.tuple #[])).run P w = .ok (.pointer (some ⟨w.heap.size, 0, none⟩)) (w.alloc (.cells z.cells ty)) := by
    simp only [Instr.alloc, Sem.run_bind, e1, Result.andThen_ok, newVar, newRow, run_newObj, Sem.run_pure]
    rfl
  simp only [ho, Sem.run_bind, e2, Result.andThen_ok, Sem.run_pure]
  exact hK _ _ h

theorem zero31 : (Try.prog.info? 31).map (fun i => i.zero) = some (some (.agg (Array.replicate 256 (.bool false)))) := by kernel_rfl
theorem zero31_parts : ∃ i z cs, Try.prog.info? 31 = some i ∧ i.zero = some z ∧ z.cells = cs ∧ ∀ x : Int, 0 ≤ x → x ≤ 255 → cs[x.toNat]? = some (.bool false) := by
  have h := zero31
  cases hq : Try.prog.info? 31 with
  | none => rw [hq] at h; cases h
  | some i =>
    rw [hq] at h
    simp only [Option.map_some, Option.some.injEq] at h
    refine ⟨i, _, _, rfl, h, rfl, fun x h0 h1 => ?_⟩
    show (Array.replicate 256 (Value.bool false))[x.toNat]? = _
    rw [Array.getElem?_replicate, if_pos (by omega)]

/-- is a rank among a script's? -/
def inR (L : List Put) (x : Int) : Bool := L.any fun p => decide (p.rank = x)

theorem inR_snoc (L : List Put) (p : Put) (x : Int) : inR (L ++ [p]) x = (inR L x || decide (p.rank = x)) := by simp [inR]
theorem inR_false {L : List Put} {x : Int} (h : inR L x = false) : ∀ p ∈ L, p.rank ≠ x := by
  intro p hp
  unfold inR at h
  rw [List.any_eq_false] at h
  simpa using h p hp

/-- A set that another set's puts leave alone. -/
theorem SetAt.bel {w w' : World} {S B S' : Nat} {av mv xv : Value} {es : List Ent} {xs : Option (Nat × Nat × DataW Unit)} (h : SetAt w S B av mv xv es xs) {cs : Array Value} {fr : Nat × Nat} (hr : w.heap[S']? = some (.cells cs 88 fr)) (hne : S ≠ S') (hb : BelS S' w.heap.size w w') : SetAt w' S B av mv xv es xs := by
  refine ⟨h.toSetMem.kept (row := some S') ⟨hb.os, hb.tape, hb.output, hb.size, fun k hk hs => hb.block k hk (fun e => hs (by rw [e]))⟩ (fun k e => ?_), h.nd, h.ko, h.ix⟩
  cases e
  refine .inr ⟨fun e => hne e.symm, fun e => ?_, fun e => ?_, fun X c D e => ?_⟩
  · obtain ⟨cur, hh, _⟩ := own_block h.oa e; rw [hr] at hh; cases hh
  · obtain ⟨cur, hh, _⟩ := own_block h.om e; rw [hr] at hh; cases hh
  · subst e; exact map_ne h.toSetMem.map.1 hr

theorem BelS.below {S B m : Nat} {w w' : World} (h : BelS S B w w') (hB : m ≤ B) (hS : m ≤ S) : Below m w w' := ⟨h.os, h.tape, h.output, h.size, fun k hk => h.block k (by omega) (by omega)⟩

theorem below_drewN4 {B : Nat} {a w : World} (h : Below B a w) (m : Nat) : Below B a (w.drewN m) := ⟨h.os, h.tape, h.output, h.size, h.block⟩

set_option maxRecDepth 100000 in
set_option maxHeartbeats 4000000 in
theorem law4 (a1 a2 : Option Addr) (n1 c1 n2 c2 : Nat) (o1 o2 : List Put) (w : World) (A1 : ArgO w a1 n1 c1 o1) (A2 : ArgO w a2 n2 c2 o2) (m1 : n1 ≤ 9223372036854775807) (m2 : n2 ≤ 9223372036854775807) :
    Calls Try.prog 9 #[.slice a1 n1 c1, .slice a2 n2 c2] w fun e w' => e = .returned (.bool true) ∧ Below w.heap.size w w' := by
  have H1 : Hid (ArgO w a1 n1 c1 o1) := A1
  have H2 : Hid (ArgO w a2 n2 c2 o2) := A2
  have R1 : Hid (RdO w a1 n1 o1) := A1.1
  have R2 : Hid (RdO w a2 n2 o2) := A2.1
  clear A1 A2
  go_enter Try.func9, Try.ntmps9
  go_wp2_with fail
  refine (bytes4 a1 a2 n1 c1 n2 c2 o1 o2 w R1 R2 m1 m2).mono ?_
  rintro e w' ⟨⟨b, rfl, hbn⟩, rfl⟩
  cases b with
  | false =>
    go_wp2
    go_ret
    exact ⟨rfl, Below.refl _ _⟩
  | true =>
    have hn := hbn rfl
    clear hbn
    go_wp2_with fail
    refine (opsSize_any a1 n1 c1 o1 w R1 (by omega)).mono ?_
    rintro e w' ⟨⟨z1, rfl, hz10, hz11⟩, x1, rfl⟩
    go_wp2_with fail
    refine (opsSize_any a2 n2 c2 o2 _ (R2.out.drewN x1) (by omega)).mono ?_
    rintro e w' ⟨⟨z2, rfl, hz20, hz21⟩, x2, rfl⟩
    by_cases hz : 1048576 < z1 + z2
    · go_wp2
      go_ret
      exact ⟨rfl, below_drewN4 (Below.refl _ _) _⟩
    · obtain ⟨W, hW⟩ : ∃ W, W = (w.drewN x1).drewN x2 := ⟨_, rfl⟩
      have HBW : Hid (Below w.heap.size w W) := by rw [hW]; exact below_drewN4 (below_drewN4 (Below.refl _ _) _) _
      obtain ⟨i31, z31, cs31, h31⟩ := zero31_parts
      have HZ : Hid (Try.prog.info? 31 = some i31 ∧ i31.zero = some z31 ∧ z31.cells = cs31) := ⟨h31.1, h31.2.1, h31.2.2.1⟩
      have HZ0 : Hid (∀ x : Int, 0 ≤ x → x ≤ 255 → cs31[x.toNat]? = some (.bool false)) := h31.2.2.2
      clear h31
      rw [← hW]
      clear hW
      obtain ⟨Q, hQ⟩ : ∃ Q, Q = W.heap.size := ⟨_, rfl⟩
      obtain ⟨W0, hW0⟩ : ∃ W0, W0 = W.alloc (.cells cs31 31) := ⟨_, rfl⟩
      have HQw : Hid (w.heap.size ≤ Q) := by rw [hQ]; exact HBW.out.size
      have HB0 : Hid (Below w.heap.size w W0) := by rw [hW0]; exact HBW.out.alloc HBW.out.size _
      have hrow0 : W0.heap[Q]? = some (.cells cs31 31 (0, 0)) := by rw [hW0, hQ]; exact heap_alloc_new _ _
      have HC0 : Hid ((∀ x : Int, 0 ≤ x → x ≤ 255 → W0.cell? ⟨Q, x.toNat, none⟩ = some (.bool (inR (o1.take 0) x))) ∧ ∀ j, W0.frozen? ⟨Q, j, none⟩ = false) := by
        refine ⟨fun x h0 h1 => ?_, fun j => frozen_of_row W0 Q j _ _ hrow0⟩
        rw [cell_of_row W0 Q _ _ _ _ hrow0, HZ0.out x h0 h1]; rfl
      clear hrow0
      go_upto_region 6 with (refine wpList_alloc_z rfl 31 rfl i31 z31 HZ.out.1 HZ.out.2.1 cs31 HZ.out.2.2 ?_)
      rw [← hW0, ← hQ]
      clear hW0 hQ HZ HZ0
      go_wp2
      go_loopw [6] (fun t wr => ∃ (k : Nat), k ≤ n1 ∧ t = .int .i64 k ∧ Hid (Below w.heap.size w wr) ∧ Hid ((∀ x : Int, 0 ≤ x → x ≤ 255 → wr.cell? ⟨Q, x.toNat, none⟩ = some (.bool (inR (o1.take k) x))) ∧ ∀ j, wr.frozen? ⟨Q, j, none⟩ = false)) (fun t _ => n1 - (intOf t).toNat)
      case atStart => exact ⟨0, Nat.zero_le _, rfl, HB0, HC0⟩
      case round =>
        clear HB0 HC0 HBW
        obtain ⟨k, hk, rfl, HBr, HCr⟩ := hrel
        by_cases hlt : k < n1
        · obtain ⟨b, o, rfl, hc⟩ := (R1.out.below HBr.out).2.resolve_left (by omega)
          have hkl : k < o1.length := by rw [R1.out.1]; exact hlt
          obtain ⟨p, hp⟩ : ∃ p, p = o1.getD k default := ⟨_, rfl⟩
          have hp2 : o1[k]'hkl = p := by rw [hp]; simp [List.getD, hkl]
          have hpr := hc k hlt
          rw [← hp] at hpr
          have hok := (H1.out.2.2 p (by rw [← hp2]; exact List.getElem_mem hkl)).1
          obtain ⟨pr, pk, pt, ps, pi⟩ := p
          dsimp only at hok
          obtain ⟨r0, r1⟩ := hok
          have g0 : wr.cell? ⟨b, o + k * 5, none⟩ = some (.int .u8 pr) := put_c0 hpr
          have g1 := HCr.out.1 pr r0 r1
          have g2 := HCr.out.2 pr.toNat
          have HNX : Hid ((∀ x : Int, 0 ≤ x → x ≤ 255 → (wr.setCell ⟨Q, pr.toNat, none⟩ (.bool true)).cell? ⟨Q, x.toNat, none⟩ = some (.bool (inR (o1.take (k + 1)) x))) ∧ ∀ j, (wr.setCell ⟨Q, pr.toNat, none⟩ (.bool true)).frozen? ⟨Q, j, none⟩ = false) := by
            refine ⟨fun x h0 h1 => ?_, fun j => ?_⟩
            · rw [List.take_succ_eq_append_getElem hkl, hp2, inR_snoc]
              by_cases hx : pr = x
              · subst hx
                rw [World.cell?_setCell_same _ _ _ g1] <;> simp
              · rw [World.cell?_setCell_other _ _ _ _ (by intro e; simp at e <;> omega), HCr.out.1 x h0 h1]
                simp [hx]
            · rw [World.frozen?_setCell]; exact HCr.out.2 j
          have HBN : Hid (Below w.heap.size w (wr.setCell ⟨Q, pr.toNat, none⟩ (.bool true))) := HBr.out.setCell HQw.out _
          obtain ⟨bb, hbb⟩ : ∃ bb, bb = inR (o1.take k) pr := ⟨_, rfl⟩
          rw [← hbb] at g1
          clear hp hp2 hpr hc hkl hbb
          go_wp2
          go_roundw
          case rel => exact ⟨k + 1, by omega, by go_num, HBN, HNX⟩
          case measure => simp [intOf]; omega
        · obtain rfl : k = n1 := by omega
          have HCF : Hid (∀ x : Int, 0 ≤ x → x ≤ 255 → wr.cell? ⟨Q, x.toNat, none⟩ = some (.bool (inR o1 x))) := by
            have := HCr.out.1
            rw [List.take_of_length_le (by rw [R1.out.1]; exact Nat.le_refl _)] at this
            exact this
          clear HCr
          go_wp2
          go_loopw [7] (fun t wr' => ∃ (j : Nat), j ≤ n2 ∧ t = .int .i64 j ∧ Hid (∀ q ∈ o2.take j, inR o1 q.rank = false) ∧ wr = wr') (fun t _ => n2 - (intOf t).toNat)
          case atStart => exact ⟨0, Nat.zero_le _, rfl, (by intro q hq; simp at hq), by first | rfl | trivial⟩
          case round =>
            obtain ⟨j, hj, rfl, HD, rfl⟩ := hrel
            by_cases hlt2 : j < n2
            · obtain ⟨b, o, rfl, hc⟩ := (R2.out.below HBr.out).2.resolve_left (by omega)
              have hkl : j < o2.length := by rw [R2.out.1]; exact hlt2
              obtain ⟨p, hp⟩ : ∃ p, p = o2.getD j default := ⟨_, rfl⟩
              have hp2 : o2[j]'hkl = p := by rw [hp]; simp [List.getD, hkl]
              have hpr := hc j hlt2
              rw [← hp] at hpr
              have hok := (H2.out.2.2 p (by rw [← hp2]; exact List.getElem_mem hkl)).1
              obtain ⟨pr, pk, pt, ps, pi⟩ := p
              dsimp only at hok
              obtain ⟨r0, r1⟩ := hok
              have g0 : wr.cell? ⟨b, o + j * 5, none⟩ = some (.int .u8 pr) := put_c0 hpr
              have g1 := HCF.out pr r0 r1
              obtain ⟨bb, hbb⟩ : ∃ bb, bb = inR o1 pr := ⟨_, rfl⟩
              rw [← hbb] at g1
              have HBB : Hid (bb = inR o1 pr) := hbb
              have HTK : Hid (o2.take (j + 1) = o2.take j ++ [⟨pr, pk, pt, ps, pi⟩]) := by unfold Hid; rw [List.take_succ_eq_append_getElem hkl, hp2]
              clear hp hp2 hpr hc hkl hbb
              cases bb with
              | true =>
                go_wp2
                go_ret
                exact ⟨rfl, HBr.out⟩
              | false =>
                go_wp2
                go_roundw
                case rel =>
                  refine ⟨j + 1, by omega, by go_num, fun q hq => ?_, by first | rfl | trivial⟩
                  rw [HTK.out, List.mem_append] at hq
                  rcases hq with hq | hq
                  · exact HD.out q hq
                  · simp at hq; subst hq; exact HBB.out.symm
                case measure => simp [intOf]; omega
            · obtain rfl : j = n2 := by omega
              have HDJ : Hid (∀ p ∈ o1, ∀ q ∈ o2, p.rank ≠ q.rank) := by
                intro p hp q hq
                have := HD.out q (by rw [List.take_of_length_le (by rw [R2.out.1]; exact Nat.le_refl _)]; exact hq)
                exact inR_false this p hp
              clear HD HCF
              go_wp2_with fail
              refine (cloneOps_any a1 k c1 o1 wr (R1.out.below HBr.out) H1.out.2.1 (by omega)).mono ?_
              rintro e W1 ⟨p1, d1, rfl, hd1, hr1, hl1, hb1⟩
              have HR1 : Hid (RdO W1 p1 k o1) := hr1
              have HL1 : Hid (∀ b o, p1 = some ⟨b, o, none⟩ → b < W1.heap.size) := fun b o e => (hl1 b o e).2
              have HB1 : Hid (Below w.heap.size w W1) := HBr.out.trans (hb1.mono HBr.out.size)
              clear hr1 hl1 hb1 HBr
              go_wp2_with fail
              refine (cloneOps_any a2 j c2 o2 W1 (R2.out.below HB1.out) H2.out.2.1 (by omega)).mono ?_
              rintro e W2 ⟨p2, d2, rfl, hd2, hr2, hl2, hb2⟩
              have HR2 : Hid (RdO W2 p2 j o2) := hr2
              have HL2 : Hid (∀ b o, p2 = some ⟨b, o, none⟩ → b < W2.heap.size) := fun b o e => (hl2 b o e).2
              have HR1' : Hid (RdO W2 p1 k o1) := HR1.out.below hb2
              have HL1' : Hid (∀ b o, p1 = some ⟨b, o, none⟩ → b < W2.heap.size) := fun b o e => Nat.lt_of_lt_of_le (HL1.out b o e) hb2.size
              have HB2 : Hid (Below w.heap.size w W2) := HB1.out.trans (hb2.mono HB1.out.size)
              clear hr2 hl2 hb2 HB1 HR1 HL1
              go_wp2_with fail
              refine (new_any W2).mono ?_
              rintro e W3 ⟨rfl, hW3⟩
              have HS3 : Hid (W3.heap.size = W2.heap.size + 1) := by unfold Hid; rw [← hW3]; simp
              have HA3 : Hid (W3.heap[W2.heap.size]? = some (.cells #[.slice none 0 0, .slice none 0 0, .map none] 88 (0, 0))) := by rw [← hW3]; exact heap_alloc_new _ _
              have HB3 : Hid (Below W2.heap.size W2 W3) := by rw [← hW3]; exact (Below.refl _ _).alloc (Nat.le_refl _) _
              clear hW3
              go_wp2_with fail
              refine (new_any W3).mono ?_
              rintro e W4 ⟨rfl, hW4⟩
              have HS4 : Hid (W4.heap.size = W2.heap.size + 2) := by unfold Hid; rw [← hW4]; simp; have := HS3.out; omega
              have HA4 : Hid (W4.heap[W2.heap.size]? = some (.cells #[.slice none 0 0, .slice none 0 0, .map none] 88 (0, 0))) := by
                unfold Hid
                rw [← hW4, Below.heap_alloc _ _ _ (by have := HS3.out; omega)]; exact HA3.out
              have HT4 : Hid (W4.heap[W3.heap.size]? = some (.cells #[.slice none 0 0, .slice none 0 0, .map none] 88 (0, 0))) := by rw [← hW4]; exact heap_alloc_new _ _
              have HB4 : Hid (Below W2.heap.size W2 W4) := by rw [← hW4]; exact HB3.out.alloc HB3.out.size _
              clear hW4
              obtain ⟨Sa, hSa⟩ : ∃ Sa, Sa = W2.heap.size := ⟨_, rfl⟩
              obtain ⟨Sb, hSb⟩ : ∃ Sb, Sb = W3.heap.size := ⟨_, rfl⟩
              rw [← hSa] at HA4
              rw [← hSb] at HT4
              rw [← hSa, ← hSb]
              have E3 : Hid (Sb = Sa + 1) := by unfold Hid; rw [hSb, hSa]; exact HS3.out
              have HS4' : Hid (W4.heap.size = Sa + 2) := by unfold Hid; rw [hSa]; exact HS4.out
              have HSW : Hid (Sa = W2.heap.size) := hSa
              have hwS : w.heap.size ≤ Sa := by rw [hSa]; exact HB2.out.size
              clear hSa hSb
              have HX4 : Hid (SetAt W4 Sa W4.heap.size (.slice none 0 0) (.slice none 0 0) (.map none) [] none) := setAt_new HA4.out (Nat.le_refl _)
              have HI1 : Hid (∀ b o, p1 = some ⟨b, o, none⟩ → b < W4.heap.size ∧ b ≠ Sa) := fun b o e => by have := HL1'.out b o e; have := HS4'.out; have := HSW.out; omega
              have HI2 : Hid (∀ b o, p2 = some ⟨b, o, none⟩ → b < W4.heap.size ∧ b ≠ Sa) := fun b o e => by have := HL2.out b o e; have := HS4'.out; have := HSW.out; omega
              have Q1 : Hid (RdO W4 p1 k o1) := HR1'.out.below HB4.out
              have Q2 : Hid (RdO W4 p2 j o2) := HR2.out.below HB4.out
              have HOK1 : Hid (∀ p ∈ o1, p.ok) := H1.out.2.2
              have HOK2 : Hid (∀ p ∈ o2, p.ok) := H2.out.2.2
              have len1 : (putL [] o1).length ≤ k := by have := putL_length o1 []; have := R1.out.1; simp at *; omega
              have len2 : (putL [] o2).length ≤ j := by have := putL_length o2 []; have := R2.out.1; simp at *; omega
              have len12 : (putL (putL [] o1) o2).length ≤ k + j := by have := putL_length o2 (putL [] o1); have := R2.out.1; omega
              have len21 : (putL (putL [] o2) o1).length ≤ k + j := by have := putL_length o1 (putL [] o2); have := R1.out.1; omega
              have HN1 : Hid (([] : List Ent).length + k ≤ 1048576) := by unfold Hid; simp; omega
              have HN2 : Hid ((putL [] o1).length + j ≤ 1048576) := by unfold Hid; omega
              have HN3 : Hid (([] : List Ent).length + j ≤ 1048576) := by unfold Hid; simp; omega
              have HN4 : Hid ((putL [] o2).length + k ≤ 1048576) := by unfold Hid; omega
              have HN5 : Hid ((putL (putL [] o1) o2).length ≤ 1048576) := by unfold Hid; omega
              have HN6 : Hid ((putL (putL [] o2) o1).length ≤ 1048576) := by unfold Hid; omega
              clear len1 len2 len12 len21
              go_wp2_with fail
              refine (putAll_any Sa W4.heap.size _ _ _ [] _ p1 k d1 o1 W4 HX4 Q1 HI1 HOK1 (by omega) HN1).mono ?_
              rintro e W5 ⟨av5, mv5, xv5, xs5, rfl, hs5, hb5⟩
              have HX5 : Hid (SetAt W5 Sa W4.heap.size av5 mv5 xv5 (putL [] o1) xs5) := hs5
              have HB5 : Hid (BelS Sa W4.heap.size W4 W5) := hb5
              clear hs5 hb5
              go_wp2_with fail
              refine (putAll_any Sa W4.heap.size _ _ _ (putL [] o1) _ p2 j d2 o2 W5 HX5 (Q2.out.bel HB5.out HI2.out) HI2 HOK2 (by omega) HN2).mono ?_
              rintro e W6 ⟨av6, mv6, xv6, xs6, rfl, hs6, hb6⟩
              have HX6 : Hid (SetAt W6 Sa W4.heap.size av6 mv6 xv6 (putL (putL [] o1) o2) xs6) := hs6
              have HB6 : Hid (BelS Sa W4.heap.size W4 W6) := HB5.out.trans hb6
              have HT6 : Hid (W6.heap[Sb]? = some (.cells #[.slice none 0 0, .slice none 0 0, .map none] 88 (0, 0))) := by
                unfold Hid
                rw [HB6.out.block Sb (by have := HS4'.out; have := E3.out; omega) (by have := E3.out; omega)]; exact HT4.out
              clear hs6 hb6 HB5 HX5
              have HY6 : Hid (SetAt W6 Sb W6.heap.size (.slice none 0 0) (.slice none 0 0) (.map none) [] none) := setAt_new HT6.out (Nat.le_refl _)
              have P1 : Hid (RdO W6 p1 k o1) := Q1.out.bel HB6.out HI1.out
              have P2 : Hid (RdO W6 p2 j o2) := Q2.out.bel HB6.out HI2.out
              have J1 : Hid (∀ b o, p1 = some ⟨b, o, none⟩ → b < W6.heap.size ∧ b ≠ Sb) := fun b o e => by have := HL1'.out b o e; have := HS4'.out; have := HSW.out; have := HB6.out.size; have := E3.out; omega
              have J2 : Hid (∀ b o, p2 = some ⟨b, o, none⟩ → b < W6.heap.size ∧ b ≠ Sb) := fun b o e => by have := HL2.out b o e; have := HS4'.out; have := HSW.out; have := HB6.out.size; have := E3.out; omega
              go_wp2_with fail
              refine (putAll_any Sb W6.heap.size _ _ _ [] _ p2 j d2 o2 W6 HY6 P2 J2 HOK2 (by omega) HN3).mono ?_
              rintro e W7 ⟨av7, mv7, xv7, xs7, rfl, hs7, hb7⟩
              have HX7 : Hid (SetAt W7 Sb W6.heap.size av7 mv7 xv7 (putL [] o2) xs7) := hs7
              have HB7 : Hid (BelS Sb W6.heap.size W6 W7) := hb7
              clear hs7 hb7
              go_wp2_with fail
              refine (putAll_any Sb W6.heap.size _ _ _ (putL [] o2) _ p1 k d1 o1 W7 HX7 (P1.out.bel HB7.out J1.out) J1 HOK1 (by omega) HN4).mono ?_
              rintro e W8 ⟨av8, mv8, xv8, xs8, rfl, hs8, hb8⟩
              have HX8 : Hid (SetAt W8 Sb W6.heap.size av8 mv8 xv8 (putL (putL [] o2) o1) xs8) := hs8
              have HB8 : Hid (BelS Sb W6.heap.size W6 W8) := HB7.out.trans hb8
              have HY8 : Hid (SetAt W8 Sa W4.heap.size av6 mv6 xv6 (putL (putL [] o1) o2) xs6) := HX6.out.bel HT6.out (by have := E3.out; omega) HB8.out
              have T1 : Hid (RdO W8 p1 k o1) := P1.out.bel HB8.out J1.out
              have T2 : Hid (RdO W8 p2 j o2) := P2.out.bel HB8.out J2.out
              have HBX : Hid (Below w.heap.size w W8) := ((HB2.out.trans (HB4.out.mono HB2.out.size)).trans (HB6.out.below (by have := HS4'.out; omega) hwS)).trans (HB8.out.below (by have := HS4'.out; have := HB6.out.size; omega) (by have := E3.out; omega))
              have HLEN : Hid ((putL (putL [] o1) o2).length = (putL (putL [] o2) o1).length) := commute_len o1 o2 HY8.out.nd HX8.out.nd
              have HAG1 : Hid (∀ p ∈ o1, ∃ i i', findE (putL (putL [] o1) o2) p.key = some i ∧ findE (putL (putL [] o2) o1) p.key = some i' ∧ Alike ((putL (putL [] o1) o2).getD i default) ((putL (putL [] o2) o1).getD i' default)) := fun p hp => commute o1 o2 HDJ.out p.key (.inl ⟨p, hp, rfl⟩)
              have HAG2 : Hid (∀ p ∈ o2, ∃ i i', findE (putL (putL [] o1) o2) p.key = some i ∧ findE (putL (putL [] o2) o1) p.key = some i' ∧ Alike ((putL (putL [] o1) o2).getD i default) ((putL (putL [] o2) o1).getD i' default)) := fun p hp => commute o1 o2 HDJ.out p.key (.inr ⟨p, hp, rfl⟩)
              clear hs8 hb8 HB7 HX7 HX6 HT6 HY6 P1 P2 HX4 Q1 Q2 HB6 HB8
              obtain ⟨ea, hea⟩ : ∃ ea, ea = putL (putL [] o1) o2 := ⟨_, rfl⟩
              obtain ⟨eb, heb⟩ : ∃ eb, eb = putL (putL [] o2) o1 := ⟨_, rfl⟩
              rw [← hea] at HY8 HLEN HAG1 HAG2 HN5
              rw [← heb] at HX8 HLEN HAG1 HAG2 HN6
              clear hea heb
              obtain ⟨ne, hne⟩ : ∃ ne, ne = ea.length := ⟨_, rfl⟩
              have CL1 : Hid (Calls Try.prog 34 #[.pointer (some ⟨Sa, 0, none⟩)] W8 fun e w' => e = .returned (.int .i64 ne) ∧ W8 = w') := by rw [hne]; exact len_any Sa W4.heap.size _ _ _ ea _ W8 HY8
              have CL2 : Hid (Calls Try.prog 34 #[.pointer (some ⟨Sb, 0, none⟩)] W8 fun e w' => e = .returned (.int .i64 ne) ∧ W8 = w') := by rw [hne, HLEN.out]; exact len_any Sb W6.heap.size _ _ _ eb _ W8 HX8
              clear hne
              go_wp2_with fail
              refine CL1.out.mono ?_
              rintro e w' ⟨rfl, rfl⟩
              go_wp2_with fail
              refine CL2.out.mono ?_
              rintro e w' ⟨rfl, rfl⟩
              go_wp2_with fail
              refine (sameEntries_any Sa W4.heap.size Sb W6.heap.size _ _ _ _ _ _ ea eb _ _ p1 k d1 o1 W8 HY8 HX8 T1 (by omega) HN5 HN6 HOK1 HAG1).mono ?_
              rintro e W9 ⟨rfl, hb9⟩
              have HB9 : Hid (Below W8.heap.size W8 W9) := hb9
              clear hb9
              go_wp2_with fail
              refine (sameEntries_any Sa W4.heap.size Sb W6.heap.size _ _ _ _ _ _ ea eb _ _ p2 j d2 o2 W9 (HY8.out.below HB9.out) (HX8.out.below HB9.out) (T2.out.below HB9.out) (by omega) HN5 HN6 HOK2 HAG2).mono ?_
              rintro e W10 ⟨rfl, hb10⟩
              have HBF : Hid (Below w.heap.size w W10) := (HBX.out.trans (HB9.out.mono HBX.out.size)).trans (hb10.mono (Nat.le_trans HBX.out.size HB9.out.size))
              clear hb10
              go_wp2
              go_ret
              exact ⟨rfl, HBF.out⟩
end Go.Proofs.Qxb6603471a
