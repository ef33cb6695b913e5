import Derived.Test.Qxb6603744aBytes
import Derived.Deep.CutBlock
import Derived.Deep.DeepCutAuto
import Derived.Laws.CopyOwn
namespace Go.Proofs.Qxb6603744a
open Go.RowKit
set_option linter.unusedSimpArgs false
set_option linter.unusedVariables false

/-- The array of twenty bytes in block B holds S at its end. -/
def Buf (wr : World) (B : Nat) (S : List Int) : Prop :=
  ∃ xs : List Value, wr.ownsRow B 30 1 (.slice (some ⟨B, 0, none⟩) 20 20) 20 xs ∧ xs.drop (20 - S.length) = S.map (Value.int .u8)

theorem Buf.cell {wr : World} {B : Nat} {S : List Int} (h : Buf wr B S) (j : Nat) (hj : j < 20) : (∃ v, wr.cell? ⟨B, j, none⟩ = some v) ∧ wr.frozen? ⟨B, j, none⟩ = false := by
  obtain ⟨xs, ho, _⟩ := h
  refine ⟨?_, ho.frozenAt j⟩
  rw [ho.cellAt j (by omega)]
  exact ⟨_, List.getElem?_eq_getElem (by have := ho.1; omega)⟩

theorem Buf.put {wr : World} {B : Nat} {S : List Int} (h : Buf wr B S) (j : Nat) (hj : S.length + (j + 1) = 20) (x : Int) : Buf (wr.setCell ⟨B, j, none⟩ (.int .u8 x)) B (x :: S) := by
  obtain ⟨xs, ho, hd⟩ := h
  refine ⟨_, (ho.stored j (.int .u8 x)).1, ?_⟩
  have hl : xs.length = 20 := by have := ho.1; omega
  have e : 20 - (x :: S).length = j := by simp; omega
  rw [e, List.drop_eq_getElem_cons (by simp; omega)]
  simp only [List.getElem_set_self, List.map_cons, List.cons.injEq, true_and]
  rw [List.drop_set, if_pos (by omega), ← hd]
  congr 1
  omega

theorem Buf.read {wr : World} {B : Nat} {S : List Int} (h : Buf wr B S) (hS : S.length ≤ 20) : ∀ j v, (S.map (Value.int .u8))[j]? = some v → wr.cell? ((⟨B, 20 - S.length, none⟩ : Addr).add j) = some v := by
  intro j v hj
  obtain ⟨xs, ho, hd⟩ := h
  have hjl : j < S.length := by have := (List.getElem?_eq_some_iff.1 hj).1; simpa using this
  rw [Addr.add_lit, ho.cellAt _ (by omega), ← hj, ← hd, List.getElem?_drop]

theorem Buf.later {wr w2 : World} {B : Nat} {S : List Int} (h : Buf wr B S) (hb : Below wr.heap.size wr w2) : Buf w2 B S := by
  obtain ⟨xs, ho, hd⟩ := h
  refine ⟨xs, ?_, hd⟩
  have hlt := (ho.lt B rfl).2
  refine ho.kept (row := none) ⟨hb.os, hb.tape, hb.output, hb.size, fun k hk _ => hb.block k hk⟩ (.inr (by simp [Value.ownBlock]))

theorem digs_19 (m : Int) (h : 0 ≤ m) (hm : m ≤ 9223372036854775808) : (Dec.digs 20 m).length ≤ 19 := by
  obtain ⟨h1, h2, h3, h4⟩ := Dec.digs_len 20 m h (by rw [Dec.p10_20]; omega) (by omega)
  apply Classical.byContradiction; intro hn
  have h5 := h4 (by omega)
  have := Dec.p10_mono 19 ((Dec.digs 20 m).length - 1) (by omega)
  rw [Dec.p10_19] at this
  omega

theorem neg_u64 (n : Int) (h1 : -9223372036854775808 ≤ n) (h2 : n < 0) : IntKind.u64.wrap (-IntKind.u64.wrap n) = -n := by
  have e1 : IntKind.u64.wrap n = n + 18446744073709551616 := by
    have : ∀ x : Int, IntKind.u64.wrap x = x % 18446744073709551616 := fun x => rfl
    rw [this]; omega
  have this : ∀ x : Int, IntKind.u64.wrap x = x % 18446744073709551616 := fun x => rfl
  rw [e1, this]; omega

theorem rd_setRow {w : World} {g L : Nat} {cur A : Array Value} {e : TypeId} {T : List Int} (hg : w.heap[g]? = some (.cells cur e (0, 0))) (hl : T.length = L) (hA : ∀ i, i < L → A[i]? = some (.int .u8 (T.getD i 0))) :
    Rd (w.setRow g A) (some ⟨g, 0, none⟩) L T := by
  refine ⟨hl, .inr ⟨g, 0, rfl, fun i hi => ?_⟩⟩
  have := setRow_heap w g cur A e (0, 0) hg
  rw [cell_of_row _ g (0 + i) A e (0, 0) this, Nat.zero_add]
  exact hA i hi

/-- 'buf[o:]' of the array. -/
theorem slice_buf (B o : Nat) (ho : o ≤ 19) (w : World) : (Instr.sliceAt 30 (.pointer (some ⟨B, 0, none⟩)) (some (.int .i64 (o : Int))) none none).run Try.prog w = .ok (.slice (some ⟨B, o, none⟩) (20 - o) (20 - o)) w := by
  rw [run_sliceAt_array_l w 30 ⟨B, 0, none⟩ (by kernel_rfl) .i64 (o : Int) (by omega) (by rw [show Try.prog.arrayLen 30 = 20 by kernel_rfl]; omega)]
  rw [show Try.prog.arrayLen 30 = 20 by kernel_rfl]
  rw [show (sizeOf (Try.prog.elem 30)).run Try.prog w = .ok 1 w from by kernel_rfl]
  have e : ¬ 20 = o := by omega
  simp [slicedAt, Result.andThen, e, Addr.add]
  omega

set_option maxRecDepth 100000 in
set_option maxHeartbeats 1000000 in
/-- 'formatInt' -/
theorem format_any (n : Int) (w : World) (h1 : -9223372036854775808 ≤ n) (h2 : n ≤ 9223372036854775807) :
    Calls Try.prog 9 #[.int .i64 n] w fun e w' => ∃ (g L : Nat), e = .returned (.slice (some ⟨g, 0, none⟩) L L) ∧ L ≤ 20 ∧ Rd w' (some ⟨g, 0, none⟩) L (Dec.fmt n) ∧ Below w.heap.size w w' := by
  obtain ⟨i0, hi, hz0, hz1, hz2⟩ := info_parts Try.info5
  go_enter Try.func9, Try.ntmps9
  go_upto_if 8 with fail
  go_cut [5] (fun t wx => ∃ m : Int, t = .int .u64 m ∧ Hid (m = Dec.mag n) ∧ 0 ≤ m ∧ m ≤ 9223372036854775808 ∧ Hid (Buf wx w.heap.size []) ∧ Below w.heap.size w wx)
  case first =>
    have hbuf : Hid (Buf (w.alloc (.cells #[.int .u8 0, .int .u8 0, .int .u8 0, .int .u8 0, .int .u8 0, .int .u8 0, .int .u8 0, .int .u8 0, .int .u8 0, .int .u8 0, .int .u8 0, .int .u8 0, .int .u8 0, .int .u8 0, .int .u8 0, .int .u8 0, .int .u8 0, .int .u8 0, .int .u8 0, .int .u8 0] 30)) w.heap.size []) :=
      ⟨_, World.ownsRow_lit w _ 20 (Nat.le_refl _) (by unfold maxLen; omega) rfl, rfl⟩
    by_cases hneg : n < 0
    · go_wp2
      go_meet
      case rel =>
        refine ⟨-n, by rw [neg_u64 n h1 hneg], ?_, by omega, by omega, hbuf, (Below.refl _ _).alloc (Nat.le_refl _) _⟩
        unfold Hid Dec.mag; rw [if_pos hneg]
    · go_wp2
      go_meet
      case rel =>
        refine ⟨n, rfl, ?_, by omega, by omega, hbuf, (Below.refl _ _).alloc (Nat.le_refl _) _⟩
        unfold Hid Dec.mag; rw [if_neg (by omega)]
  case rest =>
    obtain ⟨M, rfl, HM, hM0, hM1, HBF, hb⟩ := hcut
    have hp20 : M < Dec.p10 20 := by rw [Dec.p10_20]; omega
    go_upto_block 0 with fail
    go_cut [4] (fun t wx => ∃ S : List Int, t = .int .i64 (20 - (S.length : Int)) ∧ Hid (S = Dec.digs 20 M) ∧ Hid (Buf wx w.heap.size S) ∧ Below w.heap.size w wx)
    case first =>
      have HP20 : Hid (M < Dec.p10 20) := hp20
      clear hp20
      go_wp2_with fail
      go_loopw [4, 5] (fun t u wr => ∃ (S : List Int) (m : Int), t = .int .i64 (20 - (S.length : Int)) ∧ u = .int .u64 m ∧ S.length ≤ 19 ∧ 0 ≤ m ∧ m ≤ 9223372036854775808 ∧ Hid (m < Dec.p10 (20 - S.length)) ∧ Hid (Dec.digs 20 M = Dec.digs (20 - S.length) m ++ S) ∧ Hid (Buf wr w.heap.size S) ∧ Below w.heap.size w wr) (fun t _ _ => (intOf t).toNat)
      case atStart => exact ⟨[], M, rfl, rfl, by simp, hM0, hM1, HP20, by unfold Hid; simp, HBF, hb⟩
      case round =>
        clear HBF hb
        obtain ⟨S, m, rfl, rfl, hS, hm0, hm1, HP, HD, HBF, hb⟩ := hrel
        obtain ⟨k, hk⟩ : ∃ k, k = S.length := ⟨_, rfl⟩
        rw [← hk] at hS HP HD
        rw [← hk]
        have HK : Hid (k = S.length) := hk
        clear hk
        obtain ⟨j, hj⟩ : ∃ j : Nat, k + (j + 1) = 20 := ⟨19 - k, by omega⟩
        obtain ⟨⟨v0, g1⟩, g2⟩ := HBF.out.cell j (by omega)
        have hput := HBF.out.put j (by rw [← HK.out]; exact hj) (48 + m % 10)
        have HPUT : Hid (Buf (wr.setCell ⟨w.heap.size, j, none⟩ (.int .u8 (48 + m % 10))) w.heap.size ((48 + m % 10) :: S)) := hput
        have hbs : Below w.heap.size w (wr.setCell ⟨w.heap.size, j, none⟩ (.int .u8 (48 + m % 10))) := hb.setCell (Nat.le_refl _) _
        have HDS : Hid (Dec.digs (20 - k) m = if m < 10 then [48 + m] else Dec.digs j (m / 10) ++ [48 + m % 10]) := by
          unfold Hid; rw [show 20 - k = j + 1 by omega, Dec.digs]
        have hkj : (20 : Int) - (k : Int) = (j : Int) + 1 := by omega
        rw [hkj]
        have HPJ : Hid (m < 10 * Dec.p10 j) := by
          have := HP.out; rw [show 20 - k = j + 1 by omega] at this; exact this
        have HJ : Hid (k + (j + 1) = 20) := hj
        have hj20 : j ≤ 19 := by omega
        clear hput hkj hj HP
        by_cases hm10 : m < 10
        · go_wp2
          go_meet
          case rel =>
            refine ⟨(48 + m % 10) :: S, ?_, ?_, HPUT, hbs⟩
            · have e : (20 : Int) - (((48 + m % 10) :: S).length : Int) = (j : Int) := by have := HJ.out; rw [HK.out] at this; simp; omega
              rw [e]
            · unfold Hid
              rw [HD.out, HDS.out, if_pos hm10]
              have : m % 10 = m := by omega
              rw [this]; rfl
        · go_wp2
          go_roundw
          case rel =>
            refine ⟨(48 + m % 10) :: S, m / 10, ?_, rfl, ?_, by omega, by omega, ?_, ?_, HPUT, hbs⟩
            · have e : (20 : Int) - (((48 + m % 10) :: S).length : Int) = (j : Int) := by have := HJ.out; rw [HK.out] at this; simp; omega
              rw [e]
            · have h1 := HJ.out
              have h2 := HPJ.out
              have h3 : j ≠ 0 := by
                intro e; rw [e] at h2; simp [Dec.p10] at h2; omega
              rw [HK.out] at h1; simp; omega
            · unfold Hid
              have e : 20 - ((48 + m % 10) :: S).length = j := by have := HJ.out; rw [HK.out] at this; simp; omega
              rw [e]
              have := HPJ.out
              omega
            · unfold Hid
              have e : 20 - ((48 + m % 10) :: S).length = j := by have := HJ.out; rw [HK.out] at this; simp; omega
              rw [e, HD.out, HDS.out, if_neg (by omega)]
              simp
          case measure => simp [intOf]
    case rest =>
      clear HBF hb
      obtain ⟨S, rfl, HS, HBF, hb⟩ := hcut
      have hS19 : S.length ≤ 19 := by rw [HS.out]; exact digs_19 M hM0 hM1
      have HFM : Hid (Dec.fmt n = if n < 0 then 45 :: S else S) := by unfold Hid Dec.fmt; rw [HS.out, HM.out]
      have hS1 : 1 ≤ S.length := by rw [HS.out]; exact (Dec.digs_len 20 M hM0 hp20 (by omega)).1
      go_upto_if 27 with fail
      go_cut [4] (fun t wx => ∃ o : Nat, t = .int .i64 o ∧ o ≤ 19 ∧ Hid (o + (Dec.fmt n).length = 20) ∧ Hid (Buf wx w.heap.size (Dec.fmt n)) ∧ Below w.heap.size w wx)
      case first =>
        obtain ⟨k, hk⟩ : ∃ k, k = S.length := ⟨_, rfl⟩
        rw [← hk] at hS19 hS1
        rw [← hk]
        have HK : Hid (k = S.length) := hk
        clear hk
        by_cases hneg : n < 0
        · obtain ⟨j, hj⟩ : ∃ j : Nat, k + (j + 1) = 20 := ⟨19 - k, by omega⟩
          obtain ⟨⟨v0, g1⟩, g2⟩ := HBF.out.cell j (by omega)
          have HPUT : Hid (Buf (wc.setCell ⟨w.heap.size, j, none⟩ (.int .u8 45)) w.heap.size (45 :: S)) := HBF.out.put j (by rw [← HK.out]; exact hj) 45
          have hbs : Below w.heap.size w (wc.setCell ⟨w.heap.size, j, none⟩ (.int .u8 45)) := hb.setCell (Nat.le_refl _) _
          have hkj : (20 : Int) - (k : Int) = (j : Int) + 1 := by omega
          rw [hkj]
          have HJ : Hid (k + (j + 1) = 20) := hj
          have hj20 : j ≤ 19 := by omega
          clear hkj hj
          go_wp2
          go_meet
          case rel =>
            have e : Dec.fmt n = 45 :: S := by rw [HFM.out, if_pos hneg]
            refine ⟨j, by go_num, hj20, ?_, ?_, hbs⟩
            · unfold Hid; rw [e]; have := HJ.out; rw [HK.out] at this; simp; omega
            · unfold Hid; rw [e]; exact HPUT.out
        · obtain ⟨j, hj⟩ : ∃ j : Nat, k + j = 20 := ⟨20 - k, by omega⟩
          have hkj : (20 : Int) - (k : Int) = (j : Int) := by omega
          rw [hkj]
          have HJ : Hid (k + j = 20) := hj
          have hj20 : j ≤ 19 := by omega
          clear hkj hj
          go_wp2
          go_meet
          case rel =>
            have e : Dec.fmt n = S := by rw [HFM.out, if_neg (by omega)]
            refine ⟨j, rfl, hj20, ?_, ?_, hb⟩
            · unfold Hid; rw [e]; have := HJ.out; rw [HK.out] at this; omega
            · unfold Hid; rw [e]; exact HBF.out
      case rest =>
        clear HBF hb HFM HS hS19 hS1
        obtain ⟨o, rfl, ho, HL, HBF, hb⟩ := hcut
        obtain ⟨T, hT⟩ : ∃ T, T = Dec.fmt n := ⟨_, rfl⟩
        rw [← hT] at HL HBF
        have HT : Hid (T = Dec.fmt n) := hT
        clear hT
        obtain ⟨L, hL⟩ : ∃ L, L = T.length := ⟨_, rfl⟩
        have HLT : Hid (L = T.length) := hL
        rw [← hL] at HL
        have hoL : o + L = 20 := HL.out
        have hLo : L ≤ 20 := by omega
        have hL1 : 1 ≤ L := by omega
        clear hL HL
        go_wp2_with (at_make; refine wpList_make_full _ rfl _ _ 22 rfl w.heap.size 5 i0 (.int .u8 0) 1 Try.underlying22 hi hz0 hz1 _ _ _ _ L rfl rfl (by omega) (by omega) ?_ ?_ hb.size ?_)
        · rw [hz2]; omega
        · unfold maxLen; omega
        · intro w2 hown hgrow
          have hb2 : Below wc.heap.size wc w2 := (Below.refl _ _).grown hgrow (Nat.le_refl _) (by intro k hk; cases hk)
          have HBF2 : Hid (Buf w2 w.heap.size T) := HBF.out.later hb2
          have hbw : Below w.heap.size w w2 := hb.trans (hb2.mono hb.size)
          have hrow : ∃ cur : Array Value, w2.heap[wc.heap.size]? = some (.cells cur 5 (0, 0)) ∧ cur.size = L := by
            rcases hown.2 with ⟨h', _⟩ | ⟨g, cap, cur, h', _, hg, _, _, hcs, _⟩
            · simp at h'
            · simp only [Value.slice.injEq, Option.some.injEq, Addr.mk.injEq, and_true, true_and] at h'
              obtain ⟨rfl, rfl⟩ := h'
              exact ⟨cur, hg, by omega⟩
          obtain ⟨cur, hg, hcs⟩ := hrow
          have HG : Hid (w2.heap[wc.heap.size]? = some (.cells cur 5 (0, 0))) := hg
          clear hown hgrow hg
          have hsl := slice_buf w.heap.size o ho
          go_wp2_with (refine wpList_copy_own rfl (.tmp 35) (.tmp 37) 22 22 rfl 5 Try.underlying22 (by kernel_rfl) wc.heap.size 0 L L ⟨w.heap.size, o, none⟩ (20 - o) (20 - o) rfl rfl cur 5 HG.out (T.map (Value.int .u8)) ?_ ?_ ?_ (by intro v hv; obtain ⟨_, _, rfl⟩ := List.mem_map.1 hv; rfl) ?_)
          · simp only [List.length_map]; rw [← HLT.out]; exact (Nat.min_eq_right (by omega)).symm
          · have := HBF2.out.read (by rw [← HLT.out]; omega)
            rw [← HLT.out, show 20 - L = o by omega] at this
            exact this
          · simp only [List.length_map]; rw [← HLT.out]; omega
          · go_ret
            refine ⟨wc.heap.size, L, rfl, hLo, ?_, below_setRow hbw hb.size _⟩
            rw [← HT.out]
            refine rd_setRow HG.out HLT.out.symm ?_
            intro i hiL
            have hiT : i < T.length := by rw [← HLT.out]; exact hiL
            simp [List.getElem?_append, hiT, List.getD]
end Go.Proofs.Qxb6603744a
