import Derived.Test.Qxb6603471aAtKeys
import Derived.Test.Qxb6603471aAtLaw4
namespace Go.Proofs.Qxb6603471a
open Go.RowKit Go.Maps
set_option linter.unusedSimpArgs false
set_option linter.unusedVariables false

theorem rangeAt_ltN {w : World} {b o : Nat} {pl : List Value} (h : w.rangeAt b o pl) (hp : pl ≠ []) : b < w.heap.size := by
  cases pl with
  | nil => exact absurd rfl hp
  | cons v r => exact World.block_lt_of_cell? w _ (h 0 v rfl)

theorem there49 {w : World} {L : Nat} {cs : Array Value} (h : w.heap[L]? = some (.cells cs 49 (0, 0))) (hc : 8 ≤ cs.size := by decide) : w.there L 0 8 := fun j hj => by
  refine ⟨?_, frozen_of_row w L _ _ _ h⟩
  rw [cell_of_row w L _ _ _ _ h]
  simp; omega

/-- A put leaves a local block alone. -/
theorem PutPost.keep {S B : Nat} {av mv xv : Value} {es : List Ent} {xs : Option (Nat × Nat × DataW Unit)} {p : Put} {w w' : World} {e : Ending} (hp : PutPost S B (Owns av mv xs) es p w e w') (h : SetMem w S B av mv xv es es xs) {L : Nat} {cs : Array Value} {t : TypeId} {fr : Nat × Nat} (hL : w.heap[L]? = some (.cells cs t fr)) (h1 : t ≠ 55) (h2 : t ≠ 92) (h3 : t ≠ 88) : w'.heap[L]? = w.heap[L]? := by
  obtain ⟨_, _, _, _, _, _, hf⟩ := hp
  refine hf.block L (Array.getElem?_eq_some_iff.1 hL).1 (fun e => ?_) ?_
  · subst e; rw [h.row] at hL; cases hL; exact h3 rfl
  · rintro (e | e | ⟨c, D, e⟩)
    · obtain ⟨_, hh, _⟩ := own_block h.oa e; rw [hL] at hh; cases hh; exact h1 rfl
    · obtain ⟨_, hh, _⟩ := own_block h.om e; rw [hL] at hh; cases hh; exact h2 rfl
    · subst e; exact map_ne h.map.1 hL rfl

theorem valueIs_any (pl : List Value) (lv : List Value) (p : Put) (hp : Hid (pl = p.cells)) (hl : Hid (lv = p.val)) (w : World) :
    Calls Try.prog 33 #[.agg lv.toArray, .agg pl.toArray] w fun e w' => e = .returned (.bool true) ∧ Below w.heap.size w w' := by
  rw [hp.out, hl.out]; exact valueIs_same p.rank p.key p.ty p.str p.int w
theorem valueIsZero_any (lv : List Value) (hl : Hid (lv = vcells 0 ⟨#[]⟩ 0)) (w : World) :
    Calls Try.prog 32 #[.agg lv.toArray] w fun e w' => e = .returned (.bool true) ∧ Below w.heap.size w w' := by
  rw [hl.out]; exact valueIsZero_zero w

set_option maxRecDepth 100000 in
set_option maxHeartbeats 4000000 in
theorem law5 (a1 : Option Addr) (n c : Nat) (os : List Put) (w : World) (A1 : ArgO w a1 n c os) (m1 : n ≤ 9223372036854775807) :
    Calls Try.prog 8 #[.slice a1 n c] w fun e w' => e = .returned (.bool true) ∧ Below w.heap.size w w' := by
  have H1 : Hid (ArgO w a1 n c os) := A1
  have R1 : Hid (RdO w a1 n os) := A1.1
  clear A1
  go_enter Try.func8, Try.ntmps8
  go_wp2_with fail
  refine (bytes5 a1 n c os w R1 m1).mono ?_
  rintro e w' ⟨⟨b, rfl, hbn⟩, rfl⟩
  cases b with
  | false =>
    go_wp2
    go_ret
    exact ⟨rfl, Below.refl _ _⟩
  | true =>
    have hn := hbn rfl
    clear hbn
    by_cases h4 : 4096 < n
    · go_wp2
      go_ret
      exact ⟨rfl, Below.refl _ _⟩
    · go_wp2_with fail
      refine (opsSize_any a1 n c os w R1 (by omega)).mono ?_
      rintro e w' ⟨⟨z1, rfl, hz10, hz11⟩, x1, rfl⟩
      by_cases hz : 1048576 < z1
      · go_wp2
        go_ret
        exact ⟨rfl, below_drewN4 (Below.refl _ _) _⟩
      · go_wp2_with fail
        refine (cloneOps_any a1 n c os (w.drewN x1) (R1.out.drewN x1) H1.out.2.1 (by omega)).mono ?_
        rintro e W1 ⟨p1, d1, rfl, hd1, hr1, hl1, hb1⟩
        have HR1 : Hid (RdO W1 p1 n os) := hr1
        have HL1 : Hid (∀ b o, p1 = some ⟨b, o, none⟩ → b < W1.heap.size) := fun b o e => (hl1 b o e).2
        have HB1 : Hid (Below w.heap.size w W1) := ⟨hb1.os, hb1.tape, hb1.output, hb1.size, hb1.block⟩
        clear hr1 hl1 hb1
        go_wp2_with fail
        refine (new_any W1).mono ?_
        rintro e W2 ⟨rfl, hW2⟩
        have HS2 : Hid (W2.heap.size = W1.heap.size + 1) := by unfold Hid; rw [← hW2]; simp
        have HA2 : Hid (W2.heap[W1.heap.size]? = some (.cells #[.slice none 0 0, .slice none 0 0, .map none] 88 (0, 0))) := by rw [← hW2]; exact heap_alloc_new _ _
        have HB2 : Hid (Below W1.heap.size W1 W2) := by rw [← hW2]; exact (Below.refl _ _).alloc (Nat.le_refl _) _
        clear hW2
        obtain ⟨S, hS⟩ : ∃ S, S = W1.heap.size := ⟨_, rfl⟩
        rw [← hS] at HA2 HS2
        rw [← hS]
        have HSW : Hid (S = W1.heap.size) := hS
        have HwS : Hid (w.heap.size ≤ S) := by rw [hS]; exact HB1.out.size
        clear hS
        obtain ⟨B, hB⟩ : ∃ B, B = W2.heap.size := ⟨_, rfl⟩
        have HX2 : Hid (SetAt W2 S B (.slice none 0 0) (.slice none 0 0) (.map none) [] none) := setAt_new HA2.out (by rw [hB]; exact Nat.le_refl _)
        have HBS : Hid (B = S + 1) := by rw [hB]; exact HS2.out
        have HI1 : Hid (∀ b o, p1 = some ⟨b, o, none⟩ → b < B ∧ b ≠ S) := fun b o e => by have := HL1.out b o e; have := HBS.out; have := HSW.out; omega
        have Q2 : Hid (RdO W2 p1 n os) := HR1.out.below HB2.out
        have HOK : Hid (∀ p ∈ os, p.ok) := H1.out.2.2
        have HBW2 : Hid (Below w.heap.size w W2) := HB1.out.trans (HB2.out.mono HB1.out.size)
        clear hB HA2 HS2 HR1 HL1 HB1 HB2
        go_wp2_with fail
        go_loopw [4] (fun t wr => ∃ (k : Nat) (av mv xv : Value) (xs : Option (Nat × Nat × DataW Unit)), k ≤ n ∧ t = .int .i64 k ∧ Hid (SetAt wr S B av mv xv (putL [] (os.take k)) xs) ∧ Hid (BelS S B W2 wr)) (fun t _ => n - (intOf t).toNat)
        case atStart => exact ⟨0, _, _, _, _, Nat.zero_le _, rfl, HX2, BelS.refl _ _ _⟩
        case round =>
          clear HX2
          obtain ⟨k, av, mv, xv, xs, hk, rfl, HSr, HBr⟩ := hrel
          by_cases hlt : k < n
          · have hkl : k < os.length := by rw [Q2.out.1]; exact hlt
            obtain ⟨b, o, rfl, hc⟩ := (Q2.out.bel HBr.out HI1.out).2.resolve_left (by omega)
            obtain ⟨p, hp⟩ : ∃ p, p = os.getD k default := ⟨_, rfl⟩
            have hp2 : os[k]'hkl = p := by rw [hp]; simp [List.getD, hkl]
            have hpr := hc k hlt
            rw [← hp] at hpr
            have HPK : Hid (p.ok) := HOK.out p (by rw [← hp2]; exact List.getElem_mem hkl)
            have HTK : Hid (putL [] (os.take (k + 1)) = putE (putL [] (os.take k)) p) := by unfold Hid; rw [take_snoc os k hkl, hp]
            have HEL : Hid ((putL [] (os.take k)).length ≤ 1048576) := by
              have h1 := putL_length (os.take k) []
              simp at h1
              unfold Hid
              omega
            have HAN : Hid ((ansOf os k).1 = (findE (putL [] (os.take k)) p.key).isSome ∧ ((ansOf os k).2 = -1 ∧ leftE (putL [] (os.take k)) p = vcells 0 ⟨#[]⟩ 0 ∨ ∃ f : Nat, (ansOf os k).2 = f ∧ f ≤ k ∧ leftE (putL [] (os.take k)) p = (os.getD f default).val)) := by rw [hp]; exact ans_ok os k hkl
            have HIB : Hid (b < B ∧ b ≠ S) := HI1.out b o rfl
            obtain ⟨es', hes'⟩ : ∃ es', es' = putL [] (os.take k) := ⟨_, rfl⟩
            rw [← hes'] at HSr HTK HEL HAN
            clear hes'
            obtain ⟨lv, hlv⟩ : ∃ lv, lv = leftE es' p := ⟨_, rfl⟩
            have HLV : Hid (lv = leftE es' p) := hlv
            have HVL : Hid (lv.length = 8 ∧ lv.all (·.oneCell') = true) := by rw [hlv]; exact left_facts es' p
            have HVS : Hid (lv.toArray.size = 8) := by unfold Hid; rw [List.size_toArray]; exact HVL.out.1
            rw [← hlv] at HAN
            clear hlv
            obtain ⟨hld, hhl⟩ : ∃ hld, hld = (findE es' p.key).isSome := ⟨_, rfl⟩
            have HHL : Hid (hld = (findE es' p.key).isSome) := hhl
            rw [← hhl] at HAN
            clear hhl
            obtain ⟨pr, pk, pt, ps, pi⟩ := p
            obtain ⟨pl, hpl⟩ : ∃ pl, pl = Put.cells ⟨pr, pk, pt, ps, pi⟩ := ⟨_, rfl⟩
            rw [← hpl] at hpr
            have HPR : Hid (wr.rangeAt b (o + k * 5) pl) := hpr
            have HP0 : Hid (pl[0]? = some (.int .u8 pr)) := by rw [hpl]; exact rfl
            have HPL : Hid (pl.length = 5) := by rw [hpl]; exact rfl
            have HPN : Hid (pl ≠ []) := by rw [hpl]; intro e; cases e
            have HPA : Hid (pl.toArray = (Put.cells ⟨pr, pk, pt, ps, pi⟩).toArray) := by rw [hpl]; exact rfl
            clear hp hp2 hpr hc hpl hkl
            have hkn : (k : Int) < (n : Int) := by omega
            go_upto_region 10 with fail
            go_cut [5, 6] (fun t5 t6 wx => ∃ (L : Nat) (av' mv' xv' : Value) (xs' : Option (Nat × Nat × DataW Unit)), t5 = .pointer (some ⟨L, 0, none⟩) ∧ t6 = .bool hld ∧ Hid (wx.rangeAt L 0 lv) ∧ Hid (SetAt wx S B av' mv' xv' (putL [] (os.take (k + 1))) xs') ∧ Hid (BelS S B W2 wx))
            case first =>
              refine Until.start (fun w' => w'.rangeAt b (o + k * 5) pl) 18 (by kernel_rfl) ?_
              have hSW : wr.drew.rangeAt b (o + k * 5) pl := HPR.out
              have hc5 : ∀ w' : World, w'.rangeAt b (o + k * 5) pl → w'.cell? ⟨b, o + k * 5, none⟩ = some (.int .u8 pr) := fun w' h => h 0 _ HP0.out
              refine Until.take_any (i := 0) (v := ?_) rfl (by kernel_rfl) (by kernel_rfl) (by kernel_rfl) (by kernel_rfl) (fun _ _ _ h => h) (.inr hSW) (Or.inl ⟨by rfl, ?_⟩) ?_
              rotate_left
              · intro w; go_simp; try with_reducible rfl
              simp only [Act.put, List.setIfInBounds_toArray, List.set_cons_zero, List.set_cons_succ]
              refine Until.take_any (i := 1) (v := ?_) rfl (by kernel_rfl) (by kernel_rfl) (by kernel_rfl) (by kernel_rfl) (fun _ _ _ h => h) (.inr hSW) (Or.inl ⟨by rfl, ?_⟩) ?_
              rotate_left
              · intro w; go_simp; try with_reducible rfl
              simp only [Act.put, List.setIfInBounds_toArray, List.set_cons_zero, List.set_cons_succ]
              refine Until.take_any (i := 2) (v := ?_) rfl (by kernel_rfl) (by kernel_rfl) (by kernel_rfl) (by kernel_rfl) (fun _ _ _ h => h) (.inr hSW) (Or.inl ⟨by rfl, ?_⟩) ?_
              rotate_left
              · intro w; go_simp; try with_reducible rfl
              simp only [Act.put, List.setIfInBounds_toArray, List.set_cons_zero, List.set_cons_succ]
              refine Until.take_any (i := 3) (v := ?_) rfl (by kernel_rfl) (by kernel_rfl) (by kernel_rfl) (by kernel_rfl) (fun _ _ _ h => h) (.inr hSW) (Or.inl ⟨by rfl, ?_⟩) ?_
              rotate_left
              · intro w; go_simp; try with_reducible rfl
              simp only [Act.put, List.setIfInBounds_toArray, List.set_cons_zero, List.set_cons_succ]
              refine Until.take_any (i := 4) (v := ?_) rfl (by kernel_rfl) (by kernel_rfl) (by kernel_rfl) (by kernel_rfl) (fun _ _ _ h => h) (.inr hSW) (Or.inl ⟨by rfl, ?_⟩) ?_
              rotate_left
              · intro w; go_simp; try with_reducible rfl
              simp only [Act.put, List.setIfInBounds_toArray, List.set_cons_zero, List.set_cons_succ]
              refine Until.take_held (i := 5) (v := ?_) rfl (by kernel_rfl) (by kernel_rfl) (by kernel_rfl) (by kernel_rfl) (fun _ _ _ h => h) hSW (Or.inl ⟨by rfl, ?_⟩) ?_
              rotate_left
              · intro w hw; have hw0 := hc5 w hw; go_simp; try with_reducible rfl
              simp only [Act.put, List.setIfInBounds_toArray, List.set_cons_zero, List.set_cons_succ]
              refine Until.take_any (i := 6) (v := ?_) rfl (by kernel_rfl) (by kernel_rfl) (by kernel_rfl) (by kernel_rfl) (fun _ _ _ h => h) (.inr hSW) (Or.inl ⟨by rfl, ?_⟩) ?_
              rotate_left
              · intro w; go_simp; try with_reducible rfl
              simp only [Act.put, List.setIfInBounds_toArray, List.set_cons_zero, List.set_cons_succ]
              refine Until.take_any (i := 7) (v := ?_) rfl (by kernel_rfl) (by kernel_rfl) (by kernel_rfl) (by kernel_rfl) (fun _ _ _ h => h) (.inr hSW) (Or.inl ⟨by rfl, ?_⟩) ?_
              rotate_left
              · intro w; go_simp; try with_reducible rfl
              simp only [Act.put, List.setIfInBounds_toArray, List.set_cons_zero, List.set_cons_succ]
              refine Until.take_any (i := 8) (v := ?_) rfl (by kernel_rfl) (by kernel_rfl) (by kernel_rfl) (by kernel_rfl) (fun _ _ _ h => h) (.inr hSW) (Or.inl ⟨by rfl, ?_⟩) ?_
              rotate_left
              · intro w; go_simp; try with_reducible rfl
              simp only [Act.put, List.setIfInBounds_toArray, List.set_cons_zero, List.set_cons_succ]
              refine Until.take_held (i := 9) (v := .agg pl.toArray) rfl (by kernel_rfl) (by kernel_rfl) (by kernel_rfl) (by kernel_rfl) (fun _ _ _ h => h) hSW (yieldsIf_load_mid (by rfl) 53 _ rfl b (o + k * 5) rfl pl _ (fun _ h => h) Try.underlying53 rfl (by rw [HPL.out]; exact info53s)) ?_
              simp only [Act.put, List.setIfInBounds_toArray, List.set_cons_zero, List.set_cons_succ]
              clear hc5
              have HSd : Hid (SetAt wr.drew S B av mv xv es' xs) := ⟨HSr.out.toSetMem.drewN 1, HSr.out.nd, HSr.out.ko, HSr.out.ix⟩
              have HBd : Hid (BelS S B W2 wr.drew) := HBr.out.drewN 1
              refine Until.pair (i := 10) (j := 15) (by kernel_rfl) rfl rfl (fun K hK => ?_) (fun K hK => ?_)
              · go_simp
                refine (kvOf_any ⟨pr, pk, pt, ps, pi⟩ pl.toArray HPA _).mono ?_
                rintro e w2 ⟨rfl, hb2⟩
                have hSW2 : w2.rangeAt b (o + k * 5) pl := rangeAt_below hSW hb2 (rangeAt_ltN hSW HPN.out)
                have HBw2 : Hid (Below wr.drew.heap.size wr.drew w2) := hb2
                clear hb2
                refine hK _ _ (.inr hSW2) ?_
                clear hK K
                clear hSW
                have HS2 : Hid (SetAt w2 S B av mv xv es' xs) := HSd.out.below HBw2.out
                have HB2 : Hid (BelS S B W2 w2) := HBd.out.trans (BelS.of_below HBw2.out HSd.out.size)
                refine Until.pair (i := 11) (j := 15) (by kernel_rfl) rfl rfl (fun K hK => ?_) (fun K hK => ?_)
                · go_simp
                  refine (zput_any S B av mv xv es' xs ⟨pr, pk, pt, ps, pi⟩ _ rfl w2 HS2 HPK.out HEL).mono ?_
                  rintro e w3 hpost
                  have hbel := hpost.bel HS2.out.toSetMem
                  have HKEEP := fun (L : Nat) cs (hL : w2.heap[L]? = some (.cells cs 49 (0, 0))) => hpost.keep HS2.out.toSetMem hL (by decide) (by decide) (by decide)
                  obtain ⟨av', mv', xv', xs', he, hset, _⟩ := hpost
                  rw [← HLV.out, ← HHL.out] at he
                  subst he
                  have HS3 : Hid (SetAt w3 S B av' mv' xv' (putL [] (os.take (k + 1))) xs') := by unfold Hid; rw [HTK.out]; exact hset
                  have HB3 : Hid (BelS S B W2 w3) := HB2.out.trans hbel
                  have hSW3 : w3.rangeAt b (o + k * 5) pl := fun j v hv => by
                    rw [World.cell?_of_block (w := w2) (hbel.block b (HIB.out).1 (HIB.out).2)]
                    exact hSW2 j v hv
                  clear HKEEP hset hbel
                  refine hK _ _ (.inr hSW3) ?_
                  clear hK K hSW2
                  refine Until.take_any (i := 12) (v := ?_) rfl (by kernel_rfl) (by kernel_rfl) (by kernel_rfl) (by kernel_rfl) (fun _ _ _ h => h) (.inr hSW3) (Or.inl ⟨by rfl, ?_⟩) ?_
                  rotate_left
                  · intro w; go_simp; try with_reducible rfl
                  simp only [Act.put, List.setIfInBounds_toArray, List.set_cons_zero, List.set_cons_succ]
                  refine Until.take_any (i := 13) (v := ?_) rfl (by kernel_rfl) (by kernel_rfl) (by kernel_rfl) (by kernel_rfl) (fun _ _ _ h => h) (.inr hSW3) (Or.inl ⟨by rfl, ?_⟩) ?_
                  rotate_left
                  · intro w; go_simp; try with_reducible rfl
                  simp only [Act.put, List.setIfInBounds_toArray, List.set_cons_zero, List.set_cons_succ]
                  refine Until.take_any (i := 14) (v := ?_) rfl (by kernel_rfl) (by kernel_rfl) (by kernel_rfl) (by kernel_rfl) (fun _ _ _ h => h) (.inr hSW3) (Or.inl ⟨by rfl, ?_⟩) ?_
                  rotate_left
                  · intro w; go_simp; try with_reducible rfl
                  simp only [Act.put, List.setIfInBounds_toArray, List.set_cons_zero, List.set_cons_succ]
                  refine Until.only (i := 15) (by kernel_rfl) rfl (fun K hK => ?_)
                  go_simp
                  obtain ⟨Wl, hWl⟩ : ∃ Wl, Wl = w3.alloc (.cells #[.int .u8 0, .string ⟨#[]⟩, .bool false, .int .i64 0, .float .f64 0, .slice none 0 0, .slice none 0 0, .slice none 0 0] 49) := ⟨_, rfl⟩
                  have HLR : Hid (Wl.heap[w3.heap.size]? = some (.cells #[.int .u8 0, .string ⟨#[]⟩, .bool false, .int .i64 0, .float .f64 0, .slice none 0 0, .slice none 0 0, .slice none 0 0] 49 (0, 0))) := by rw [hWl]; exact heap_alloc_new _ _
                  have HTL : Hid (Wl.there w3.heap.size 0 8) := by rw [hWl]; exact new49 w3
                  have hbl : Below w3.heap.size w3 Wl := by rw [hWl]; exact (Below.refl _ _).alloc (Nat.le_refl _) _
                  rw [← hWl]
                  clear hWl
                  have HSl : Hid (SetAt Wl S B av' mv' xv' (putL [] (os.take (k + 1))) xs') := HS3.out.below hbl
                  have HBl : Hid (BelS S B W2 Wl) := HB3.out.trans (BelS.of_below hbl HS3.out.size)
                  have hSl : Wl.rangeAt b (o + k * 5) pl := rangeAt_below hSW3 hbl (rangeAt_ltN hSW3 HPN.out)
                  have HBL : Hid (B ≤ w3.heap.size) := HS3.out.size
                  clear hbl
                  refine hK _ _ (.inr hSl) ?_
                  clear hK K hSW3
                  refine Until.only (i := 16) (by kernel_rfl) rfl (fun K hK => ?_)
                  refine step_store_mid rfl 49 _ _ rfl (w3.heap.size) 0 lv.toArray rfl rfl (by rw [HVS.out]; exact HTL.out) (by rw [HVS.out]; exact info49s) (by simpa using HVL.out.2) ?_
                  obtain ⟨W5, hW5⟩ : ∃ W5, W5 = Wl.setCells (w3.heap.size) 0 lv.toArray.toList := ⟨_, rfl⟩
                  have hg5 : Wl.grownBy W5 (some (w3.heap.size)) := by rw [hW5]; exact grown_setCells _ _ _ _
                  have HR5 : Hid (W5.rangeAt (w3.heap.size) 0 lv) := by rw [hW5]; exact World.rangeAt_setCells_same _ _ _ _ (by rw [show lv.toArray.toList = lv from rfl, HVL.out.1]; exact HTL.out)
                  rw [← hW5]
                  clear hW5
                  have HS5 : Hid (SetAt W5 S B av' mv' xv' (putL [] (os.take (k + 1))) xs') := ⟨HSl.out.toSetMem.besideT HLR.out (by decide) (by decide) (by decide) hg5, HSl.out.nd, HSl.out.ko, HSl.out.ix⟩
                  have HB5 : Hid (BelS S B W2 W5) := HBl.out.trans (BelS.of_grown hg5 HSl.out.size (fun j e => by cases e; exact .inr (by have := HBL.out; omega)))
                  have hS5 : W5.rangeAt b (o + k * 5) pl := rangeAt_grown hSl hg5 (fun e => by have e' := Option.some.inj e; have := HBL.out; have := HIB.out; omega)
                  refine hK _ _ (.inr hS5) ?_
                  clear hK K hg5
                  simp only [Act.put, List.setIfInBounds_toArray, List.set_cons_zero, List.set_cons_succ]
                  refine Until.only (i := 17) (by kernel_rfl) rfl (fun K hK => ?_)
                  go_simp
                  refine hK _ _ (.inr hS5) ?_
                  clear hK K hS5
                  refine Until.done (by kernel_rfl) ?_ _
                  go_wp2
                  go_meet
                  case rel => exact ⟨_, av', mv', xv', xs', rfl, rfl, HR5, HS5, HB5⟩
                · go_simp
                  obtain ⟨Wl, hWl⟩ : ∃ Wl, Wl = w2.alloc (.cells #[.int .u8 0, .string ⟨#[]⟩, .bool false, .int .i64 0, .float .f64 0, .slice none 0 0, .slice none 0 0, .slice none 0 0] 49) := ⟨_, rfl⟩
                  have HLR0 : Hid (Wl.heap[w2.heap.size]? = some (.cells #[.int .u8 0, .string ⟨#[]⟩, .bool false, .int .i64 0, .float .f64 0, .slice none 0 0, .slice none 0 0, .slice none 0 0] 49 (0, 0))) := by rw [hWl]; exact heap_alloc_new _ _
                  have hbl : Below w2.heap.size w2 Wl := by rw [hWl]; exact (Below.refl _ _).alloc (Nat.le_refl _) _
                  rw [← hWl]
                  clear hWl
                  have HSWl : Hid (SetAt Wl S B av mv xv es' xs) := HS2.out.below hbl
                  have HBWl : Hid (BelS S B W2 Wl) := HB2.out.trans (BelS.of_below hbl HS2.out.size)
                  have hSl : Wl.rangeAt b (o + k * 5) pl := rangeAt_below hSW2 hbl (rangeAt_ltN hSW2 HPN.out)
                  have HBL : Hid (B ≤ w2.heap.size) := HS2.out.size
                  clear hbl
                  refine hK _ _ (.inr hSl) ?_
                  clear hK K
                  refine Until.only (i := 11) (by kernel_rfl) rfl (fun K hK => ?_)
                  go_simp
                  refine (zput_any S B av mv xv es' xs ⟨pr, pk, pt, ps, pi⟩ _ rfl Wl HSWl HPK.out HEL).mono ?_
                  rintro e w3 hpost
                  have hbel := hpost.bel HSWl.out.toSetMem
                  have HKEEP := fun (L : Nat) cs (hL : Wl.heap[L]? = some (.cells cs 49 (0, 0))) => hpost.keep HSWl.out.toSetMem hL (by decide) (by decide) (by decide)
                  obtain ⟨av', mv', xv', xs', he, hset, _⟩ := hpost
                  rw [← HLV.out, ← HHL.out] at he
                  subst he
                  have HS3 : Hid (SetAt w3 S B av' mv' xv' (putL [] (os.take (k + 1))) xs') := by unfold Hid; rw [HTK.out]; exact hset
                  have HB3 : Hid (BelS S B W2 w3) := HBWl.out.trans hbel
                  have hSW3 : w3.rangeAt b (o + k * 5) pl := fun j v hv => by
                    rw [World.cell?_of_block (w := Wl) (hbel.block b (HIB.out).1 (HIB.out).2)]
                    exact hSl j v hv
                  have HLR : Hid (w3.heap[w2.heap.size]? = some (.cells #[.int .u8 0, .string ⟨#[]⟩, .bool false, .int .i64 0, .float .f64 0, .slice none 0 0, .slice none 0 0, .slice none 0 0] 49 (0, 0))) := (HKEEP _ _ HLR0.out).trans HLR0.out
                  clear HKEEP hset hbel
                  refine hK _ _ (.inr hSW3) ?_
                  clear hK K
                  refine Until.take_any (i := 12) (v := ?_) rfl (by kernel_rfl) (by kernel_rfl) (by kernel_rfl) (by kernel_rfl) (fun _ _ _ h => h) (.inr hSW3) (Or.inl ⟨by rfl, ?_⟩) ?_
                  rotate_left
                  · intro w; go_simp; try with_reducible rfl
                  simp only [Act.put, List.setIfInBounds_toArray, List.set_cons_zero, List.set_cons_succ]
                  refine Until.take_any (i := 13) (v := ?_) rfl (by kernel_rfl) (by kernel_rfl) (by kernel_rfl) (by kernel_rfl) (fun _ _ _ h => h) (.inr hSW3) (Or.inl ⟨by rfl, ?_⟩) ?_
                  rotate_left
                  · intro w; go_simp; try with_reducible rfl
                  simp only [Act.put, List.setIfInBounds_toArray, List.set_cons_zero, List.set_cons_succ]
                  refine Until.take_any (i := 14) (v := ?_) rfl (by kernel_rfl) (by kernel_rfl) (by kernel_rfl) (by kernel_rfl) (fun _ _ _ h => h) (.inr hSW3) (Or.inl ⟨by rfl, ?_⟩) ?_
                  rotate_left
                  · intro w; go_simp; try with_reducible rfl
                  simp only [Act.put, List.setIfInBounds_toArray, List.set_cons_zero, List.set_cons_succ]
                  have HTL : Hid (w3.there (w2.heap.size) 0 8) := there49 HLR.out
                  refine Until.only (i := 16) (by kernel_rfl) rfl (fun K hK => ?_)
                  refine step_store_mid rfl 49 _ _ rfl (w2.heap.size) 0 lv.toArray rfl rfl (by rw [HVS.out]; exact HTL.out) (by rw [HVS.out]; exact info49s) (by simpa using HVL.out.2) ?_
                  obtain ⟨W5, hW5⟩ : ∃ W5, W5 = w3.setCells (w2.heap.size) 0 lv.toArray.toList := ⟨_, rfl⟩
                  have hg5 : w3.grownBy W5 (some (w2.heap.size)) := by rw [hW5]; exact grown_setCells _ _ _ _
                  have HR5 : Hid (W5.rangeAt (w2.heap.size) 0 lv) := by rw [hW5]; exact World.rangeAt_setCells_same _ _ _ _ (by rw [show lv.toArray.toList = lv from rfl, HVL.out.1]; exact HTL.out)
                  rw [← hW5]
                  clear hW5
                  have HS5 : Hid (SetAt W5 S B av' mv' xv' (putL [] (os.take (k + 1))) xs') := ⟨HS3.out.toSetMem.besideT HLR.out (by decide) (by decide) (by decide) hg5, HS3.out.nd, HS3.out.ko, HS3.out.ix⟩
                  have HB5 : Hid (BelS S B W2 W5) := HB3.out.trans (BelS.of_grown hg5 HS3.out.size (fun j e => by cases e; exact .inr (by have := HBL.out; omega)))
                  have hS5 : W5.rangeAt b (o + k * 5) pl := rangeAt_grown hSW3 hg5 (fun e => by have e' := Option.some.inj e; have := HBL.out; have := HIB.out; omega)
                  refine hK _ _ (.inr hS5) ?_
                  clear hK K hg5
                  simp only [Act.put, List.setIfInBounds_toArray, List.set_cons_zero, List.set_cons_succ]
                  refine Until.only (i := 17) (by kernel_rfl) rfl (fun K hK => ?_)
                  go_simp
                  refine hK _ _ (.inr hS5) ?_
                  clear hK K hS5
                  refine Until.done (by kernel_rfl) ?_ _
                  go_wp2
                  go_meet
                  case rel => exact ⟨_, av', mv', xv', xs', rfl, rfl, HR5, HS5, HB5⟩
              · go_simp
                obtain ⟨Wl, hWl⟩ : ∃ Wl, Wl = (wr.alloc (.cells #[.int .u8 0, .string ⟨#[]⟩, .bool false, .int .i64 0, .float .f64 0, .slice none 0 0, .slice none 0 0, .slice none 0 0] 49)).drew := ⟨_, rfl⟩
                have HLR0 : Hid (Wl.heap[wr.drew.heap.size]? = some (.cells #[.int .u8 0, .string ⟨#[]⟩, .bool false, .int .i64 0, .float .f64 0, .slice none 0 0, .slice none 0 0, .slice none 0 0] 49 (0, 0))) := by rw [hWl]; exact heap_alloc_new _ _
                have hbl : Below wr.drew.heap.size wr.drew Wl := by rw [hWl]; exact (Below.refl wr.drew.heap.size wr.drew).alloc (Nat.le_refl _) _
                rw [← hWl]
                clear hWl
                have HSWl : Hid (SetAt Wl S B av mv xv es' xs) := HSd.out.below hbl
                have HBWl : Hid (BelS S B W2 Wl) := HBd.out.trans (BelS.of_below hbl HSd.out.size)
                have hSl : Wl.rangeAt b (o + k * 5) pl := rangeAt_below hSW hbl (rangeAt_ltN hSW HPN.out)
                have HBL : Hid (B ≤ wr.heap.size) := HSd.out.size
                clear hbl
                refine hK _ _ (.inr hSl) ?_
                clear hK K
                refine Until.only (i := 10) (by kernel_rfl) rfl (fun K hK => ?_)
                go_simp
                refine (kvOf_any ⟨pr, pk, pt, ps, pi⟩ pl.toArray HPA _).mono ?_
                rintro e w2 ⟨rfl, hb2⟩
                have hSW2 : w2.rangeAt b (o + k * 5) pl := rangeAt_below hSl hb2 (rangeAt_ltN hSl HPN.out)
                have HBw2 : Hid (Below Wl.heap.size Wl w2) := hb2
                clear hb2
                refine hK _ _ (.inr hSW2) ?_
                clear hK K
                have HS2 : Hid (SetAt w2 S B av mv xv es' xs) := HSWl.out.below HBw2.out
                have HB2 : Hid (BelS S B W2 w2) := HBWl.out.trans (BelS.of_below HBw2.out HSWl.out.size)
                have HLR1 : Hid (w2.heap[wr.heap.size]? = some (.cells #[.int .u8 0, .string ⟨#[]⟩, .bool false, .int .i64 0, .float .f64 0, .slice none 0 0, .slice none 0 0, .slice none 0 0] 49 (0, 0))) := (HBw2.out.block _ (Array.getElem?_eq_some_iff.1 HLR0.out).1).trans HLR0.out
                refine Until.only (i := 11) (by kernel_rfl) rfl (fun K hK => ?_)
                go_simp
                refine (zput_any S B av mv xv es' xs ⟨pr, pk, pt, ps, pi⟩ _ rfl w2 HS2 HPK.out HEL).mono ?_
                rintro e w3 hpost
                have hbel := hpost.bel HS2.out.toSetMem
                have HKEEP := fun (L : Nat) cs (hL : w2.heap[L]? = some (.cells cs 49 (0, 0))) => hpost.keep HS2.out.toSetMem hL (by decide) (by decide) (by decide)
                obtain ⟨av', mv', xv', xs', he, hset, _⟩ := hpost
                rw [← HLV.out, ← HHL.out] at he
                subst he
                have HS3 : Hid (SetAt w3 S B av' mv' xv' (putL [] (os.take (k + 1))) xs') := by unfold Hid; rw [HTK.out]; exact hset
                have HB3 : Hid (BelS S B W2 w3) := HB2.out.trans hbel
                have hSW3 : w3.rangeAt b (o + k * 5) pl := fun j v hv => by
                  rw [World.cell?_of_block (w := w2) (hbel.block b (HIB.out).1 (HIB.out).2)]
                  exact hSW2 j v hv
                have HLR : Hid (w3.heap[wr.heap.size]? = some (.cells #[.int .u8 0, .string ⟨#[]⟩, .bool false, .int .i64 0, .float .f64 0, .slice none 0 0, .slice none 0 0, .slice none 0 0] 49 (0, 0))) := (HKEEP _ _ HLR1.out).trans HLR1.out
                clear HKEEP hset hbel
                refine hK _ _ (.inr hSW3) ?_
                clear hK K
                refine Until.take_any (i := 12) (v := ?_) rfl (by kernel_rfl) (by kernel_rfl) (by kernel_rfl) (by kernel_rfl) (fun _ _ _ h => h) (.inr hSW3) (Or.inl ⟨by rfl, ?_⟩) ?_
                rotate_left
                · intro w; go_simp; try with_reducible rfl
                simp only [Act.put, List.setIfInBounds_toArray, List.set_cons_zero, List.set_cons_succ]
                refine Until.take_any (i := 13) (v := ?_) rfl (by kernel_rfl) (by kernel_rfl) (by kernel_rfl) (by kernel_rfl) (fun _ _ _ h => h) (.inr hSW3) (Or.inl ⟨by rfl, ?_⟩) ?_
                rotate_left
                · intro w; go_simp; try with_reducible rfl
                simp only [Act.put, List.setIfInBounds_toArray, List.set_cons_zero, List.set_cons_succ]
                refine Until.take_any (i := 14) (v := ?_) rfl (by kernel_rfl) (by kernel_rfl) (by kernel_rfl) (by kernel_rfl) (fun _ _ _ h => h) (.inr hSW3) (Or.inl ⟨by rfl, ?_⟩) ?_
                rotate_left
                · intro w; go_simp; try with_reducible rfl
                simp only [Act.put, List.setIfInBounds_toArray, List.set_cons_zero, List.set_cons_succ]
                have HTL : Hid (w3.there (wr.heap.size) 0 8) := there49 HLR.out
                refine Until.only (i := 16) (by kernel_rfl) rfl (fun K hK => ?_)
                refine step_store_mid rfl 49 _ _ rfl (wr.heap.size) 0 lv.toArray rfl rfl (by rw [HVS.out]; exact HTL.out) (by rw [HVS.out]; exact info49s) (by simpa using HVL.out.2) ?_
                obtain ⟨W5, hW5⟩ : ∃ W5, W5 = w3.setCells (wr.heap.size) 0 lv.toArray.toList := ⟨_, rfl⟩
                have hg5 : w3.grownBy W5 (some (wr.heap.size)) := by rw [hW5]; exact grown_setCells _ _ _ _
                have HR5 : Hid (W5.rangeAt (wr.heap.size) 0 lv) := by rw [hW5]; exact World.rangeAt_setCells_same _ _ _ _ (by rw [show lv.toArray.toList = lv from rfl, HVL.out.1]; exact HTL.out)
                rw [← hW5]
                clear hW5
                have HS5 : Hid (SetAt W5 S B av' mv' xv' (putL [] (os.take (k + 1))) xs') := ⟨HS3.out.toSetMem.besideT HLR.out (by decide) (by decide) (by decide) hg5, HS3.out.nd, HS3.out.ko, HS3.out.ix⟩
                have HB5 : Hid (BelS S B W2 W5) := HB3.out.trans (BelS.of_grown hg5 HS3.out.size (fun j e => by cases e; exact .inr (by have := HBL.out; omega)))
                have hS5 : W5.rangeAt b (o + k * 5) pl := rangeAt_grown hSW3 hg5 (fun e => by have e' := Option.some.inj e; have := HBL.out; have := HIB.out; omega)
                refine hK _ _ (.inr hS5) ?_
                clear hK K hg5
                simp only [Act.put, List.setIfInBounds_toArray, List.set_cons_zero, List.set_cons_succ]
                refine Until.only (i := 17) (by kernel_rfl) rfl (fun K hK => ?_)
                go_simp
                refine hK _ _ (.inr hS5) ?_
                clear hK K hS5
                refine Until.done (by kernel_rfl) ?_ _
                go_wp2
                go_meet
                case rel => exact ⟨_, av', mv', xv', xs', rfl, rfl, HR5, HS5, HB5⟩
            case rest =>
              obtain ⟨L, av', mv', xv', xs', rfl, rfl, HRL, HS3, HB3⟩ := hcut
              have HQ3 : Hid (RdO wc (some ⟨b, o, none⟩) n os) := Q2.out.bel HB3.out HI1.out
              have HVN : Hid (lv ≠ []) := by
                intro e; have := HVL.out.1; rw [e] at this; cases this
              clear HSr HBr HPR
              go_wp2_with fail
              refine (ans_any (some ⟨b, o, none⟩) n d1 os k wc HQ3 HOK hlt (by omega)).mono ?_
              rintro e w' ⟨rfl, x, rfl⟩
              obtain ⟨h1, h2⟩ := HAN.out
              rw [h1]
              rcases h2 with ⟨e2, hz⟩ | ⟨f, e2, hf, hv⟩
              · rw [e2]
                have HLZ : Hid (lv = vcells 0 ⟨#[]⟩ 0) := hz
                have HRL' : Hid ((wc.drewN x).rangeAt L 0 lv) := HRL.out
                clear h1 e2 hz HAN
                go_wp2_with (refine wpList_load_mid rfl 49 _ rfl L 0 rfl lv _ HRL'.out Try.underlying49 rfl (by rw [HVL.out.1]; exact info49s) ?_)
                refine (valueIsZero_any lv HLZ _).mono ?_
                rintro e w5 ⟨rfl, hb5⟩
                have HS5 : Hid (SetAt w5 S B av' mv' xv' (putL [] (os.take (k + 1))) xs') := SetAt.below (w := wc.drewN x) ⟨HS3.out.toSetMem.drewN x, HS3.out.nd, HS3.out.ko, HS3.out.ix⟩ hb5
                have HB5 : Hid (BelS S B W2 w5) := (HB3.out.drewN x).trans (BelS.of_below hb5 HS3.out.size)
                clear hb5
                go_wp2
                go_roundw
                case rel => exact ⟨k + 1, av', mv', xv', xs', by omega, by go_num, HS5, HB5⟩
                case measure => simp [intOf]; omega
              · rw [e2]
                have hfn : f < n := by omega
                have hfn' : (f : Int) < (n : Int) := by omega
                have hf0 : ¬ ((f : Int) < 0) := by omega
                have HLF : Hid (lv = (os.getD f default).val) := hv
                obtain ⟨_, o', e', hcf⟩ := HQ3.out.2.resolve_left (by omega)
                simp only [Option.some.injEq, Addr.mk.injEq, and_true] at e'
                obtain ⟨rfl, rfl⟩ := e'
                have hfr := hcf f hfn
                obtain ⟨fl, hfl⟩ : ∃ fl, fl = (os.getD f default).cells := ⟨_, rfl⟩
                rw [← hfl] at hfr
                have HFR : Hid (wc.rangeAt b (o + f * 5) fl) := hfr
                have HFC : Hid (fl = (os.getD f default).cells) := hfl
                have HFL5 : Hid (fl.length = 5) := by rw [hfl]; exact rfl
                have HFN : Hid (fl ≠ []) := by rw [hfl]; intro e; cases e
                clear h1 e2 hv HAN hcf hfr hfl
                go_upto_region 17 with fail
                refine Until.start (fun w' => w'.rangeAt L 0 lv ∧ w'.rangeAt b (o + f * 5) fl) 7 (by kernel_rfl) ?_
                have hSW : (wc.drewN x).drew.rangeAt L 0 lv ∧ (wc.drewN x).drew.rangeAt b (o + f * 5) fl := ⟨HRL.out, HFR.out⟩
                refine Until.take_held (i := 0) (v := .agg lv.toArray) rfl (by kernel_rfl) (by kernel_rfl) (by kernel_rfl) (by kernel_rfl) (fun _ _ _ h => h) hSW (yieldsIf_load_mid (by rfl) 49 _ rfl L 0 rfl lv _ (fun _ h => h.1) Try.underlying49 rfl (by rw [HVL.out.1]; exact info49s)) ?_
                simp only [Act.put, List.setIfInBounds_toArray, List.set_cons_zero, List.set_cons_succ]
                refine Until.take_any (i := 1) (v := ?_) rfl (by kernel_rfl) (by kernel_rfl) (by kernel_rfl) (by kernel_rfl) (fun _ _ _ h => h) (.inr hSW) (Or.inl ⟨by rfl, ?_⟩) ?_
                rotate_left
                · intro w; go_simp; try with_reducible rfl
                simp only [Act.put, List.setIfInBounds_toArray, List.set_cons_zero, List.set_cons_succ]
                refine Until.take_any (i := 2) (v := ?_) rfl (by kernel_rfl) (by kernel_rfl) (by kernel_rfl) (by kernel_rfl) (fun _ _ _ h => h) (.inr hSW) (Or.inl ⟨by rfl, ?_⟩) ?_
                rotate_left
                · intro w; go_simp; try with_reducible rfl
                simp only [Act.put, List.setIfInBounds_toArray, List.set_cons_zero, List.set_cons_succ]
                refine Until.take_any (i := 3) (v := ?_) rfl (by kernel_rfl) (by kernel_rfl) (by kernel_rfl) (by kernel_rfl) (fun _ _ _ h => h) (.inr hSW) (Or.inl ⟨by rfl, ?_⟩) ?_
                rotate_left
                · intro w; go_simp; try with_reducible rfl
                simp only [Act.put, List.setIfInBounds_toArray, List.set_cons_zero, List.set_cons_succ]
                refine Until.take_held (i := 4) (v := .agg fl.toArray) rfl (by kernel_rfl) (by kernel_rfl) (by kernel_rfl) (by kernel_rfl) (fun _ _ _ h => h) hSW (yieldsIf_load_mid (by rfl) 53 _ rfl b (o + f * 5) rfl fl _ (fun _ h => h.2) Try.underlying53 rfl (by rw [HFL5.out]; exact info53s)) ?_
                simp only [Act.put, List.setIfInBounds_toArray, List.set_cons_zero, List.set_cons_succ]
                refine Until.only (i := 5) (by kernel_rfl) rfl (fun K hK => ?_)
                go_simp
                refine (valueIs_any fl lv (os.getD f default) HFC HLF _).mono ?_
                rintro e w5 ⟨rfl, hb5⟩
                have hSW5 : w5.rangeAt L 0 lv ∧ w5.rangeAt b (o + f * 5) fl := ⟨rangeAt_below hSW.1 hb5 (rangeAt_ltN hSW.1 HVN.out), rangeAt_below hSW.2 hb5 (rangeAt_ltN hSW.2 HFN.out)⟩
                have HS5 : Hid (SetAt w5 S B av' mv' xv' (putL [] (os.take (k + 1))) xs') := SetAt.below (w := (wc.drewN x).drew) ⟨HS3.out.toSetMem.drewN (x + 1), HS3.out.nd, HS3.out.ko, HS3.out.ix⟩ hb5
                have HB5 : Hid (BelS S B W2 w5) := (HB3.out.drewN (x + 1)).trans (BelS.of_below hb5 HS3.out.size)
                clear hb5
                refine hK _ _ (.inr hSW5) ?_
                clear hK K hSW
                refine Until.only (i := 6) (by kernel_rfl) rfl (fun K hK => ?_)
                go_simp
                refine hK _ _ (.inr hSW5) ?_
                clear hK K hSW5
                refine Until.done (by kernel_rfl) ?_ _
                go_wp2
                go_roundw
                case rel => exact ⟨k + 1, av', mv', xv', xs', by omega, by go_num, HS5, HB5⟩
                case measure => simp [intOf]; omega
          · obtain rfl : k = n := by omega
            obtain ⟨wl, hwl⟩ : ∃ wl, wl = wr := ⟨_, rfl⟩
            subst hwl
            have HTA : Hid (os.take k = os) := List.take_of_length_le (by rw [Q2.out.1]; exact Nat.le_refl _)
            rw [HTA.out] at HSr
            have HQr : Hid (RdO wl p1 k os) := Q2.out.bel HBr.out HI1.out
            have HBwr : Hid (Below w.heap.size w wl) := HBW2.out.trans (HBr.out.below (by have := HwS.out; have := HBS.out; omega) HwS.out)
            have HLO : Hid (k = os.length) := Q2.out.1.symm
            have HEL : Hid ((putL [] os).length ≤ 1048576) := by
              have h1 := putL_length os []
              have := HLO.out
              simp at h1
              unfold Hid
              omega
            obtain ⟨nk, hnk⟩ : ∃ nk, nk = (putL [] os).length := ⟨_, rfl⟩
            have HNK : Hid (nk = (putL [] os).length) := hnk
            have CL : Hid (Calls Try.prog 34 #[.pointer (some ⟨S, 0, none⟩)] wl fun e w' => e = .returned (.int .i64 nk) ∧ wl = w') := by rw [hnk]; exact len_any S B _ _ _ _ _ wl HSr
            clear hnk Q2 HBr HBW2
            go_wp2_with fail
            refine CL.out.mono ?_
            rintro e w' ⟨rfl, rfl⟩
            go_wp2_with fail
            go_loopw [10, 11] (fun td ti wr => ∃ (i d : Nat), i ≤ k ∧ ti = .int .i64 i ∧ td = .int .i64 d ∧ Hid (d = (putL [] (os.take i)).length) ∧ Hid (Below wl.heap.size wl wr)) (fun _ t _ => k - (intOf t).toNat)
            case atStart => exact ⟨0, 0, Nat.zero_le _, rfl, rfl, (by unfold Hid; simp [putL]), Below.refl _ _⟩
            case round =>
              obtain ⟨i, d, hik, rfl, rfl, HD, HBq⟩ := hrel
              by_cases hlt2 : i < k
              · have hil : i < os.length := by rw [← HLO.out]; exact hlt2
                have HQq : Hid (RdO wr p1 k os) := HQr.out.below HBq.out
                have HSq : Hid (SetAt wr S B av mv xv (putL [] os) xs) := HSr.out.below HBq.out
                go_wp2_with fail
                refine (first_any p1 k d1 os i wr HQq hlt2 (by omega)).mono ?_
                rintro e w' ⟨rfl, x, rfl⟩
                cases hff : isFirst os i with
                | false =>
                  have HDN : Hid (d = (putL [] (os.take (i + 1))).length) := by
                    have := congrArg List.length (notfirst_step os i hil hff)
                    simp only [List.length_map] at this
                    unfold Hid; rw [this]; exact HD.out
                  clear hff hil
                  go_wp2
                  go_roundw
                  case rel => exact ⟨i + 1, d, by omega, by go_num, rfl, HDN, below_drewN4 HBq.out _⟩
                  case measure => simp [intOf]; omega
                | true =>
                  obtain ⟨d', bst, hd', hdl, hfd, hkb, hent⟩ := at_first os i hil hff HSr.out.nd
                  obtain rfl : d = d' := by rw [hd']; exact HD.out
                  have HDN : Hid (d + 1 = (putL [] (os.take (i + 1))).length) := by unfold Hid; rw [first_step os i hil hff, List.length_append, ← hd']; rfl
                  obtain ⟨ki, hki⟩ : ∃ ki, ki = (os.getD i default).key := ⟨_, rfl⟩
                  rw [← hki] at hfd hkb hent
                  rw [← HLO.out] at hkb hent
                  have hbk := kh_lt os ki k bst hkb
                  have egd : (putL [] os).getD d default = (putL [] os)[d]'hdl := by simp [List.getD, hdl]
                  rw [egd] at hent
                  have hkm := (HOK.out (os.getD i default) (by rw [show os.getD i default = os[i] by simp [List.getD, hil]]; exact List.getElem_mem hil)).2.1
                  rw [← hki] at hkm
                  obtain ⟨lv, hlv⟩ : ∃ lv, lv = (os.getD bst default).val := ⟨_, rfl⟩
                  obtain ⟨rb, hrb⟩ : ∃ rb, rb = (os.getD bst default).rank := ⟨_, rfl⟩
                  obtain ⟨bt, hbt⟩ : ∃ bt, bt = (kh os ki k).2 := ⟨_, rfl⟩
                  have CA : Hid (∀ wx, Hid (SetAt wx S B av mv xv (putL [] os) xs) → Calls Try.prog 36 #[.pointer (some ⟨S, 0, none⟩), .int .i64 d] wx fun e w' => e = .returned (.tuple #[.string ki, .agg lv.toArray, .int .u8 rb, .int .u8 bt]) ∧ Below wx.heap.size wx w') := by
                    intro wx hx
                    have := at_any S B av mv xv (putL [] os) xs d wx hx hdl HEL
                    rw [hent] at this
                    dsimp only [Ent.val] at this
                    rw [hlv, hrb, hbt]
                    exact this
                  have CP : Hid (∀ wx, Hid (SetAt wx S B av mv xv (putL [] os) xs) → Calls Try.prog 38 #[.pointer (some ⟨S, 0, none⟩), .string ki] wx fun e w' => e = .returned (.tuple #[.int .i64 d, .bool true]) ∧ wx = w') := by
                    intro wx hx
                    refine (zplace_any S B av mv xv (putL [] os) xs ki wx hx hkm HEL).mono ?_
                    rintro e w' ⟨rfl, rfl⟩
                    rw [hfd]; exact ⟨rfl, rfl⟩
                  have CH : Hid (∀ wx, Hid (RdO wx p1 k os) → Calls Try.prog 37 #[.slice p1 k d1, .string ki, .int .i64 k] wx fun e w' => e = .returned (.tuple #[.int .i64 bst, .int .u8 bt]) ∧ ∃ x, w' = wx.drewN x) := by
                    intro wx hx
                    refine (hist_any p1 k d1 os ki k wx hx HOK (Nat.le_refl _) (by omega)).mono ?_
                    rintro e w' ⟨rfl, x, rfl⟩
                    rw [hkb, ← hbt]; exact ⟨rfl, x, rfl⟩
                  obtain ⟨b, o, rfl, hc⟩ := HQr.out.2.resolve_left (by omega)
                  have gki : wl.cell? ⟨b, o + i * 5 + 1, none⟩ = some (.string ki) := by rw [hki]; exact put_c1 (hc i hlt2)
                  have hbr := hc bst hbk
                  have grb : wl.cell? ⟨b, o + bst * 5, none⟩ = some (.int .u8 rb) := by rw [hrb]; exact put_c0 hbr
                  have HBB : Hid (b < wl.heap.size) := rangeAt_lt hbr
                  obtain ⟨fl, hfl⟩ : ∃ fl, fl = (os.getD bst default).cells := ⟨_, rfl⟩
                  rw [← hfl] at hbr
                  have HF0 : Hid (wl.rangeAt b (o + bst * 5) fl) := hbr
                  have HFC : Hid (fl = (os.getD bst default).cells) := hfl
                  have HFL5 : Hid (fl.length = 5) := by rw [hfl]; exact rfl
                  have HFN : Hid (fl ≠ []) := by rw [hfl]; intro e; cases e
                  have HLF : Hid (lv = (os.getD bst default).val) := hlv
                  have HVL : Hid (lv.length = 8 ∧ lv.all (·.oneCell') = true) := by rw [hlv]; exact ⟨rfl, rfl⟩
                  have HVS : Hid (lv.toArray.size = 8) := by rw [hlv]; exact rfl
                  have HVN : Hid (lv ≠ []) := by rw [hlv]; intro e; cases e
                  have GKI : Hid (wl.cell? ⟨b, o + i * 5 + 1, none⟩ = some (.string ki)) := gki
                  have GRB : Hid (wl.cell? ⟨b, o + bst * 5, none⟩ = some (.int .u8 rb)) := grb
                  have hdk : d < nk := by rw [HNK.out]; exact hdl
                  have hkn2 : nk ≤ 1048576 := by rw [HNK.out]; exact HEL.out
                  have hbk' : (bst : Int) < (k : Int) := by omega
                  have hik' : (i : Int) < (k : Int) := by omega
                  have hself : (ki.toList != ki.toList) = false := by rw [str_ne]; simp
                  clear hff hil hd' hfd hkb hent hki egd hkm hlv hrb hbt hc hbr hfl gki grb hdl
                  have HSx : Hid (SetAt (wr.drewN x) S B av mv xv (putL [] os) xs) := ⟨HSq.out.toSetMem.drewN x, HSq.out.nd, HSq.out.ko, HSq.out.ix⟩
                  go_wp2_with fail
                  refine (CA.out (wr.drewN x) HSx).mono ?_
                  rintro e w1 ⟨rfl, hb1⟩
                  have HB1 : Hid (Below wl.heap.size wl w1) := HBq.out.trans (Below.mono ⟨hb1.os, hb1.tape, hb1.output, hb1.size, hb1.block⟩ HBq.out.size)
                  clear hb1
                  go_upto_region 28 with (refine wpList_store_mid rfl 49 _ _ rfl w1.heap.size 0 lv.toArray rfl rfl (by rw [HVS.out]; exact new49 w1) (by rw [HVS.out]; exact info49s) (by simpa using HVL.out.2) ?_)
                  obtain ⟨V1, hV1⟩ : ∃ V1, V1 = (w1.alloc (.cells #[.int .u8 0, .string ⟨#[]⟩, .bool false, .int .i64 0, .float .f64 0, .slice none 0 0, .slice none 0 0, .slice none 0 0] 49)).setCells w1.heap.size 0 lv := ⟨_, rfl⟩
                  have HR1 : Hid (V1.rangeAt w1.heap.size 0 lv) := by rw [hV1]; exact World.rangeAt_setCells_same _ _ _ _ (by rw [HVL.out.1]; exact new49 w1)
                  have HBV1 : Hid (Below wl.heap.size wl V1) := by
                    rw [hV1]
                    exact (HB1.out.alloc HB1.out.size _).grown (grown_setCells _ _ _ _) (by simp; have := HB1.out.size; omega) (fun k e => by cases e; exact HB1.out.size)
                  rw [show (w1.alloc (.cells #[.int .u8 0, .string ⟨#[]⟩, .bool false, .int .i64 0, .float .f64 0, .slice none 0 0, .slice none 0 0, .slice none 0 0] 49)).setCells w1.heap.size 0 lv.toArray.toList = V1 from hV1.symm]
                  clear hV1
                  have gk1 : V1.cell? ⟨b, o + i * 5 + 1, none⟩ = some (.string ki) := (HBV1.out.cell HBB.out).trans GKI.out
                  have HQV : Hid (RdO V1 (some ⟨b, o, none⟩) k os) := HQr.out.below HBV1.out
                  go_wp2_with fail
                  refine (CH.out V1 HQV).mono ?_
                  rintro e w' ⟨rfl, x2, rfl⟩
                  have gk2 : (V1.drewN x2).drew.cell? ⟨b, o + i * 5 + 1, none⟩ = some (.string ki) := gk1
                  have gr2 : (V1.drewN x2).drew.cell? ⟨b, o + bst * 5, none⟩ = some (.int .u8 rb) := (HBV1.out.cell HBB.out).trans GRB.out
                  have HFR : Hid (V1.rangeAt b (o + bst * 5) fl) := rangeAt_below HF0.out HBV1.out HBB.out
                  clear gk1
                  go_upto_region 29 with fail
                  refine Until.start (fun w' => w'.cell? ⟨b, o + i * 5 + 1, none⟩ = some (.string ki) ∧ w'.rangeAt w1.heap.size 0 lv ∧ w'.rangeAt b (o + bst * 5) fl ∧ w'.cell? ⟨b, o + bst * 5, none⟩ = some (.int .u8 rb)) 30 (by kernel_rfl) ?_
                  have hSW : (V1.drewN x2).drew.cell? ⟨b, o + i * 5 + 1, none⟩ = some (.string ki) ∧ (V1.drewN x2).drew.rangeAt w1.heap.size 0 lv ∧ (V1.drewN x2).drew.rangeAt b (o + bst * 5) fl ∧ (V1.drewN x2).drew.cell? ⟨b, o + bst * 5, none⟩ = some (.int .u8 rb) := ⟨gk2, HR1.out, HFR.out, gr2⟩
                  refine Until.take_any (i := 0) (v := ?_) rfl (by kernel_rfl) (by kernel_rfl) (by kernel_rfl) (by kernel_rfl) (fun _ _ _ h => h) (.inr hSW) (Or.inl ⟨by rfl, ?_⟩) ?_
                  rotate_left
                  · intro w; go_simp; try with_reducible rfl
                  simp only [Act.put, List.setIfInBounds_toArray, List.set_cons_zero, List.set_cons_succ]
                  refine Until.take_any (i := 1) (v := ?_) rfl (by kernel_rfl) (by kernel_rfl) (by kernel_rfl) (by kernel_rfl) (fun _ _ _ h => h) (.inr hSW) (Or.inl ⟨by rfl, ?_⟩) ?_
                  rotate_left
                  · intro w; go_simp; try with_reducible rfl
                  simp only [Act.put, List.setIfInBounds_toArray, List.set_cons_zero, List.set_cons_succ]
                  refine Until.take_any (i := 2) (v := ?_) rfl (by kernel_rfl) (by kernel_rfl) (by kernel_rfl) (by kernel_rfl) (fun _ _ _ h => h) (.inr hSW) (Or.inl ⟨by rfl, ?_⟩) ?_
                  rotate_left
                  · intro w; go_simp; try with_reducible rfl
                  simp only [Act.put, List.setIfInBounds_toArray, List.set_cons_zero, List.set_cons_succ]
                  refine Until.take_any (i := 3) (v := ?_) rfl (by kernel_rfl) (by kernel_rfl) (by kernel_rfl) (by kernel_rfl) (fun _ _ _ h => h) (.inr hSW) (Or.inl ⟨by rfl, ?_⟩) ?_
                  rotate_left
                  · intro w; go_simp; try with_reducible rfl
                  simp only [Act.put, List.setIfInBounds_toArray, List.set_cons_zero, List.set_cons_succ]
                  refine Until.take_any (i := 4) (v := ?_) rfl (by kernel_rfl) (by kernel_rfl) (by kernel_rfl) (by kernel_rfl) (fun _ _ _ h => h) (.inr hSW) (Or.inl ⟨by rfl, ?_⟩) ?_
                  rotate_left
                  · intro w; go_simp; try with_reducible rfl
                  simp only [Act.put, List.setIfInBounds_toArray, List.set_cons_zero, List.set_cons_succ]
                  refine Until.take_held (i := 5) (v := ?_) rfl (by kernel_rfl) (by kernel_rfl) (by kernel_rfl) (by kernel_rfl) (fun _ _ _ h => h) hSW (Or.inl ⟨by rfl, ?_⟩) ?_
                  rotate_left
                  · intro w hw; obtain ⟨hw0, hw1, hw2, hw3⟩ := hw; go_simp; try with_reducible rfl
                  simp only [Act.put, List.setIfInBounds_toArray, List.set_cons_zero, List.set_cons_succ]
                  refine Until.take_any (i := 6) (v := ?_) rfl (by kernel_rfl) (by kernel_rfl) (by kernel_rfl) (by kernel_rfl) (fun _ _ _ h => h) (.inr hSW) (Or.inl ⟨by rfl, ?_⟩) ?_
                  rotate_left
                  · intro w; go_simp; try with_reducible rfl
                  simp only [Act.put, List.setIfInBounds_toArray, List.set_cons_zero, List.set_cons_succ]
                  refine Until.take_any (i := 7) (v := ?_) rfl (by kernel_rfl) (by kernel_rfl) (by kernel_rfl) (by kernel_rfl) (fun _ _ _ h => h) (.inr hSW) (Or.inl ⟨by rfl, ?_⟩) ?_
                  rotate_left
                  · intro w; go_simp; try with_reducible rfl
                  simp only [Act.put, List.setIfInBounds_toArray, List.set_cons_zero, List.set_cons_succ]
                  refine Until.take_held (i := 8) (v := .agg lv.toArray) rfl (by kernel_rfl) (by kernel_rfl) (by kernel_rfl) (by kernel_rfl) (fun _ _ _ h => h) hSW (yieldsIf_load_mid (by rfl) 49 _ rfl w1.heap.size 0 rfl lv _ (fun _ h => h.2.1) Try.underlying49 rfl (by rw [HVL.out.1]; exact info49s)) ?_
                  simp only [Act.put, List.setIfInBounds_toArray, List.set_cons_zero, List.set_cons_succ]
                  refine Until.take_any (i := 9) (v := ?_) rfl (by kernel_rfl) (by kernel_rfl) (by kernel_rfl) (by kernel_rfl) (fun _ _ _ h => h) (.inr hSW) (Or.inl ⟨by rfl, ?_⟩) ?_
                  rotate_left
                  · intro w; go_simp; try with_reducible rfl
                  simp only [Act.put, List.setIfInBounds_toArray, List.set_cons_zero, List.set_cons_succ]
                  refine Until.take_any (i := 10) (v := ?_) rfl (by kernel_rfl) (by kernel_rfl) (by kernel_rfl) (by kernel_rfl) (fun _ _ _ h => h) (.inr hSW) (Or.inl ⟨by rfl, ?_⟩) ?_
                  rotate_left
                  · intro w; go_simp; try with_reducible rfl
                  simp only [Act.put, List.setIfInBounds_toArray, List.set_cons_zero, List.set_cons_succ]
                  refine Until.take_any (i := 11) (v := ?_) rfl (by kernel_rfl) (by kernel_rfl) (by kernel_rfl) (by kernel_rfl) (fun _ _ _ h => h) (.inr hSW) (Or.inl ⟨by rfl, ?_⟩) ?_
                  rotate_left
                  · intro w; go_simp; try with_reducible rfl
                  simp only [Act.put, List.setIfInBounds_toArray, List.set_cons_zero, List.set_cons_succ]
                  refine Until.take_held (i := 12) (v := .agg fl.toArray) rfl (by kernel_rfl) (by kernel_rfl) (by kernel_rfl) (by kernel_rfl) (fun _ _ _ h => h) hSW (yieldsIf_load_mid (by rfl) 53 _ rfl b (o + bst * 5) rfl fl _ (fun _ h => h.2.2.1) Try.underlying53 rfl (by rw [HFL5.out]; exact info53s)) ?_
                  simp only [Act.put, List.setIfInBounds_toArray, List.set_cons_zero, List.set_cons_succ]
                  refine Until.only (i := 13) (by kernel_rfl) rfl (fun K hK => ?_)
                  go_simp
                  refine (valueIs_any fl lv (os.getD bst default) HFC HLF _).mono ?_
                  rintro e V5 ⟨rfl, hb5⟩
                  have hSW5 : V5.cell? ⟨b, o + i * 5 + 1, none⟩ = some (.string ki) ∧ V5.rangeAt w1.heap.size 0 lv ∧ V5.rangeAt b (o + bst * 5) fl ∧ V5.cell? ⟨b, o + bst * 5, none⟩ = some (.int .u8 rb) := ⟨(hb5.cell (World.block_lt_of_cell? _ _ hSW.1)).trans hSW.1, rangeAt_below hSW.2.1 hb5 (rangeAt_ltN hSW.2.1 HVN.out), rangeAt_below hSW.2.2.1 hb5 (rangeAt_ltN hSW.2.2.1 HFN.out), (hb5.cell (World.block_lt_of_cell? _ _ hSW.2.2.2)).trans hSW.2.2.2⟩
                  have HBV5 : Hid (Below wl.heap.size wl V5) := HBV1.out.trans (Below.mono ⟨hb5.os, hb5.tape, hb5.output, hb5.size, hb5.block⟩ HBV1.out.size)
                  clear hb5
                  refine hK _ _ (.inr hSW5) ?_
                  clear hK K hSW
                  refine Until.take_any (i := 14) (v := ?_) rfl (by kernel_rfl) (by kernel_rfl) (by kernel_rfl) (by kernel_rfl) (fun _ _ _ h => h) (.inr hSW5) (Or.inl ⟨by rfl, ?_⟩) ?_
                  rotate_left
                  · intro w; go_simp; try with_reducible rfl
                  simp only [Act.put, List.setIfInBounds_toArray, List.set_cons_zero, List.set_cons_succ]
                  refine Until.take_any (i := 15) (v := ?_) rfl (by kernel_rfl) (by kernel_rfl) (by kernel_rfl) (by kernel_rfl) (fun _ _ _ h => h) (.inr hSW5) (Or.inl ⟨by rfl, ?_⟩) ?_
                  rotate_left
                  · intro w; go_simp; try with_reducible rfl
                  simp only [Act.put, List.setIfInBounds_toArray, List.set_cons_zero, List.set_cons_succ]
                  refine Until.take_any (i := 16) (v := ?_) rfl (by kernel_rfl) (by kernel_rfl) (by kernel_rfl) (by kernel_rfl) (fun _ _ _ h => h) (.inr hSW5) (Or.inl ⟨by rfl, ?_⟩) ?_
                  rotate_left
                  · intro w; go_simp; try with_reducible rfl
                  simp only [Act.put, List.setIfInBounds_toArray, List.set_cons_zero, List.set_cons_succ]
                  refine Until.take_any (i := 17) (v := ?_) rfl (by kernel_rfl) (by kernel_rfl) (by kernel_rfl) (by kernel_rfl) (fun _ _ _ h => h) (.inr hSW5) (Or.inl ⟨by rfl, ?_⟩) ?_
                  rotate_left
                  · intro w; go_simp; try with_reducible rfl
                  simp only [Act.put, List.setIfInBounds_toArray, List.set_cons_zero, List.set_cons_succ]
                  refine Until.take_any (i := 18) (v := ?_) rfl (by kernel_rfl) (by kernel_rfl) (by kernel_rfl) (by kernel_rfl) (fun _ _ _ h => h) (.inr hSW5) (Or.inl ⟨by rfl, ?_⟩) ?_
                  rotate_left
                  · intro w; go_simp; try with_reducible rfl
                  simp only [Act.put, List.setIfInBounds_toArray, List.set_cons_zero, List.set_cons_succ]
                  refine Until.take_any (i := 19) (v := ?_) rfl (by kernel_rfl) (by kernel_rfl) (by kernel_rfl) (by kernel_rfl) (fun _ _ _ h => h) (.inr hSW5) (Or.inl ⟨by rfl, ?_⟩) ?_
                  rotate_left
                  · intro w; go_simp; try with_reducible rfl
                  simp only [Act.put, List.setIfInBounds_toArray, List.set_cons_zero, List.set_cons_succ]
                  refine Until.take_any (i := 20) (v := ?_) rfl (by kernel_rfl) (by kernel_rfl) (by kernel_rfl) (by kernel_rfl) (fun _ _ _ h => h) (.inr hSW5) (Or.inl ⟨by rfl, ?_⟩) ?_
                  rotate_left
                  · intro w; go_simp; try with_reducible rfl
                  simp only [Act.put, List.setIfInBounds_toArray, List.set_cons_zero, List.set_cons_succ]
                  refine Until.take_any (i := 21) (v := ?_) rfl (by kernel_rfl) (by kernel_rfl) (by kernel_rfl) (by kernel_rfl) (fun _ _ _ h => h) (.inr hSW5) (Or.inl ⟨by rfl, ?_⟩) ?_
                  rotate_left
                  · intro w; go_simp; try with_reducible rfl
                  simp only [Act.put, List.setIfInBounds_toArray, List.set_cons_zero, List.set_cons_succ]
                  refine Until.take_held (i := 22) (v := ?_) rfl (by kernel_rfl) (by kernel_rfl) (by kernel_rfl) (by kernel_rfl) (fun _ _ _ h => h) hSW5 (Or.inl ⟨by rfl, ?_⟩) ?_
                  rotate_left
                  · intro w hw; obtain ⟨hw0, hw1, hw2, hw3⟩ := hw; go_simp; try with_reducible rfl
                  simp only [Act.put, List.setIfInBounds_toArray, List.set_cons_zero, List.set_cons_succ]
                  refine Until.take_any (i := 23) (v := ?_) rfl (by kernel_rfl) (by kernel_rfl) (by kernel_rfl) (by kernel_rfl) (fun _ _ _ h => h) (.inr hSW5) (Or.inl ⟨by rfl, ?_⟩) ?_
                  rotate_left
                  · intro w; go_simp; try with_reducible rfl
                  simp only [Act.put, List.setIfInBounds_toArray, List.set_cons_zero, List.set_cons_succ]
                  refine Until.take_any (i := 24) (v := ?_) rfl (by kernel_rfl) (by kernel_rfl) (by kernel_rfl) (by kernel_rfl) (fun _ _ _ h => h) (.inr hSW5) (Or.inl ⟨by rfl, ?_⟩) ?_
                  rotate_left
                  · intro w; go_simp; try with_reducible rfl
                  simp only [Act.put, List.setIfInBounds_toArray, List.set_cons_zero, List.set_cons_succ]
                  refine Until.take_any (i := 25) (v := ?_) rfl (by kernel_rfl) (by kernel_rfl) (by kernel_rfl) (by kernel_rfl) (fun _ _ _ h => h) (.inr hSW5) (Or.inl ⟨by rfl, ?_⟩) ?_
                  rotate_left
                  · intro w; go_simp; try with_reducible rfl
                  simp only [Act.put, List.setIfInBounds_toArray, List.set_cons_zero, List.set_cons_succ]
                  refine Until.take_any (i := 26) (v := ?_) rfl (by kernel_rfl) (by kernel_rfl) (by kernel_rfl) (by kernel_rfl) (fun _ _ _ h => h) (.inr hSW5) (Or.inl ⟨by rfl, ?_⟩) ?_
                  rotate_left
                  · intro w; go_simp; try with_reducible rfl
                  simp only [Act.put, List.setIfInBounds_toArray, List.set_cons_zero, List.set_cons_succ]
                  refine Until.take_any (i := 27) (v := ?_) rfl (by kernel_rfl) (by kernel_rfl) (by kernel_rfl) (by kernel_rfl) (fun _ _ _ h => h) (.inr hSW5) (Or.inl ⟨by rfl, ?_⟩) ?_
                  rotate_left
                  · intro w; go_simp; try with_reducible rfl
                  simp only [Act.put, List.setIfInBounds_toArray, List.set_cons_zero, List.set_cons_succ]
                  refine Until.take_any (i := 28) (v := ?_) rfl (by kernel_rfl) (by kernel_rfl) (by kernel_rfl) (by kernel_rfl) (fun _ _ _ h => h) (.inr hSW5) (Or.inl ⟨by rfl, ?_⟩) ?_
                  rotate_left
                  · intro w; go_simp; try with_reducible rfl
                  simp only [Act.put, List.setIfInBounds_toArray, List.set_cons_zero, List.set_cons_succ]
                  refine Until.take_any (i := 29) (v := ?_) rfl (by kernel_rfl) (by kernel_rfl) (by kernel_rfl) (by kernel_rfl) (fun _ _ _ h => h) (.inr hSW5) (Or.inl ⟨by rfl, ?_⟩) ?_
                  rotate_left
                  · intro w; go_simp; try with_reducible rfl
                  simp only [Act.put, List.setIfInBounds_toArray, List.set_cons_zero, List.set_cons_succ]
                  clear hSW5
                  refine Until.done (by kernel_rfl) ?_ _
                  have gk5 : V5.cell? ⟨b, o + i * 5 + 1, none⟩ = some (.string ki) := (HBV5.out.cell HBB.out).trans GKI.out
                  have HSV5 : Hid (SetAt V5 S B av mv xv (putL [] os) xs) := HSr.out.below HBV5.out
                  clear gk2 gr2
                  go_wp2_with fail
                  refine (CP.out V5 HSV5).mono ?_
                  rintro e w' ⟨rfl, rfl⟩
                  clear gk5
                  go_wp2
                  go_roundw
                  case rel => exact ⟨i + 1, d + 1, by omega, by go_num, by go_num, HDN, HBV5⟩
                  case measure => simp [intOf]; omega
              · obtain rfl : i = k := by omega
                have hdn : d = nk := by rw [HNK.out, HD.out, HTA.out]
                subst hdn
                go_wp2
                go_ret
                exact ⟨rfl, HBwr.out.trans (HBq.out.mono HBwr.out.size)⟩
end Go.Proofs.Qxb6603471a
