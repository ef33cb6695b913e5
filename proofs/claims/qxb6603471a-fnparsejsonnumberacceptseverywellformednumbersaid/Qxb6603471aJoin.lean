import Derived.Test.Qxb6603471aOwn
import Derived.Test.Qxb6603471aJsonJoin
import Derived.Deep.DeepCutAuto
namespace Go.Proofs.Qxb6603471a
open Go.RowKit
set_option linter.unusedSimpArgs false
set_option linter.unusedVariables false

/-- Bytes to be appended: a slice that reads as zs; nil is empty. -/
def Src (w : World) (a : Option Addr) (n c : Nat) (zs : List Int) : Prop := Rd w a n zs ∧ (a = none → n = 0 ∧ c = 0)

theorem Src.below {w w' : World} {a : Option Addr} {n c : Nat} {zs : List Int} (h : Src w a n c zs) (hb : Below w.heap.size w w') : Src w' a n c zs := ⟨h.1.below hb, h.2⟩

theorem Src.cells {w : World} {a : Option Addr} {n c : Nat} {zs : List Int} (h : Src w a n c zs) : ∀ ad, a = some ad → ∀ j u, (zs.map (Value.int .u8))[j]? = some u → w.cell? (ad.add j) = some u := by
  intro ad e j u hj
  have hjl : j < zs.length := by
    have := (List.getElem?_eq_some_iff.1 hj).1
    simpa using this
  obtain ⟨b, o, e', hc⟩ := h.1.2.resolve_left (by have := h.1.1; omega)
  rw [e] at e'
  obtain rfl := Option.some.inj e'
  rw [Addr.add_lit, hc j (by have := h.1.1; omega)]
  rw [← hj]
  simp [List.getD, hjl]

/-- A row that is being filled: it lies in block B, has room for 'cap', holds zs; below B nothing has turned. -/
def Fill (w : World) (cap : Nat) (v : Value) (wr : World) (zs : List Int) : Prop :=
  v = .slice (some ⟨w.heap.size, 0, none⟩) zs.length cap ∧ wr.ownsRow w.heap.size 5 1 (.slice (some ⟨w.heap.size, 0, none⟩) zs.length cap) zs.length (zs.map (Value.int .u8)) ∧ Below w.heap.size w wr

theorem Fill.one {w wr w1 : World} {cap : Nat} {v : Value} {zs : List Int} {x : Int} (h : Fill w cap v wr zs) (o : Obj)
    (hown : w1.ownsRow w.heap.size 5 1 (.slice (some ⟨w.heap.size, 0, none⟩) (zs.length + 1) cap) (zs.length + 1) (zs.map (Value.int .u8) ++ [.int .u8 x]))
    (hg : (wr.alloc o).grownBy w1 (some w.heap.size)) : Fill w cap (.slice (some ⟨w.heap.size, 0, none⟩) (zs.length + 1) cap) w1 (zs ++ [x]) :=
  ⟨by simp, by simpa using hown, (h.2.2.alloc h.2.2.size _).grown hg (by have := h.2.2.size; simp; omega) (by intro k hk; simp at hk; omega)⟩

theorem Fill.all {w wr w1 : World} {cap n : Nat} {v : Value} {zs ys : List Int} (h : Fill w cap v wr zs) (hn : ys.length = n)
    (hown : w1.ownsRow w.heap.size 5 1 (.slice (some ⟨w.heap.size, 0, none⟩) (zs.length + n) cap) (zs.length + n) (zs.map (Value.int .u8) ++ ys.map (Value.int .u8)))
    (hg : wr.grownBy w1 (some w.heap.size)) : Fill w cap (.slice (some ⟨w.heap.size, 0, none⟩) (zs.length + n) cap) w1 (zs ++ ys) :=
  ⟨by simp [hn], by simpa [hn] using hown, h.2.2.grown hg h.2.2.size (by intro k hk; simp at hk; omega)⟩

set_option maxRecDepth 100000 in
set_option maxHeartbeats 1000000 in
/-- 'jsonJoin' -/
theorem join_any (neg up : Bool) (ai af ae : Option Addr) (ni ci nf cf ne ce : Nat) (I F X : List Int) (w : World) (hI : Src w ai ni ci I) (hF : Src w af nf cf F) (hX : Src w ae ne ce X)
    (hn : ni + nf + ne ≤ 1048576) :
    Calls Try.prog 16 #[.bool neg, .slice ai ni ci, .slice af nf cf, .slice ae ne ce, .bool up] w fun e w' => ∃ c, e = .returned (.slice (some ⟨w.heap.size, 0, none⟩) (Json.join neg I F X up).length c) ∧ (Json.join neg I F X up).length ≤ c ∧ Rd w' (some ⟨w.heap.size, 0, none⟩) (Json.join neg I F X up).length (Json.join neg I F X up) ∧ Below w.heap.size w w' := by
  obtain ⟨i0, hi, hz0, hz1, hz2⟩ := info_parts Try.info5
  have HI : Hid (Src w ai ni ci I) := hI
  have HF : Hid (Src w af nf cf F) := hF
  have HX : Hid (Src w ae ne ce X) := hX
  have lI : I.length = ni := hI.1.1
  have lF : F.length = nf := hF.1.1
  have lX : X.length = ne := hX.1.1
  have LI : Hid (I.length = ni) := lI
  have LF : Hid (F.length = nf) := lF
  have LX : Hid (X.length = ne) := lX
  clear hI hF hX lI lF lX
  go_enter Try.func16, Try.ntmps16
  go_wp2_with (at_make; refine wpList_make_own _ rfl _ _ 22 rfl w.heap.size 5 i0 (.int .u8 0) 1 Try.underlying22 hi hz0 hz1 _ _ _ (ni + nf + ne + 3) rfl rfl (by omega) ?_ ?_ (Nat.le_refl _) ?_)
  · rw [hz2]; omega
  · unfold maxLen; omega
  · intro w1 hown hgrow
    have hfill : Hid (Fill w (ni + nf + ne + 3) (.slice (some ⟨w.heap.size, 0, none⟩) 0 (ni + nf + ne + 3)) w1 []) :=
      ⟨rfl, hown, (Below.refl _ _).grown hgrow (Nat.le_refl _) (by intro k hk; cases hk)⟩
    clear hown hgrow
    obtain ⟨cap, hcap⟩ : ∃ cap, cap = ni + nf + ne + 3 := ⟨_, rfl⟩
    rw [← hcap] at hfill
    rw [← hcap]
    have hcap' : ni + nf + ne + 3 ≤ cap := by omega
    clear hcap
    go_upto_if 22 with fail
    go_cut [11] (fun v wr => Hid (Fill w cap v wr (Json.negT neg)))
    case first =>
      obtain ⟨_, ho, hb⟩ := hfill.out
      cases neg
      · go_wp2
        go_meet
        case rel => exact hfill
      · go_wp2_with (at_builtin; refine wpList_append_fits _ rfl _ _ 22 rfl w.heap.size 5 i0 1 Try.underlying22 hi hz1 w.heap.size 0 cap _ rfl (ho.alloc _) ⟨w1.heap.size, 0, none⟩ 1 1 [.int .u8 45] rfl rfl (cell_one_new _ _ _) (by intro u hu; simp at hu; subst hu; rfl) (by omega) ?_)
        intro w2 hown hgrow
        go_wp2
        go_meet
        case rel => exact hfill.out.one _ hown hgrow
    case rest =>
      clear hfill
      have hk : (Json.negT neg).length ≤ 1 := by cases neg <;> simp [Json.negT]
      obtain ⟨zs, hz⟩ : ∃ zs, zs = Json.negT neg := ⟨_, rfl⟩
      rw [← hz] at hcut hk
      have HZ : Hid (zs = Json.negT neg) := hz
      clear hz
      have hfill := hcut
      obtain ⟨rfl, ho, hb⟩ := hcut.out
      clear hcut
      have sI := HI.out.below hb
      go_upto_region 4 with fail
      go_cut [11] (fun v wr => Hid (Fill w cap v wr (zs ++ I)))
      case first =>
        go_wp2_with (at_builtin; refine wpList_append_fits_any _ rfl (.tmp 26) (.tmp 27) 22 rfl w.heap.size 5 i0 1 Try.underlying22 hi hz1 w.heap.size zs.length cap _ rfl ho ai ni ci (I.map (Value.int .u8)) rfl (by simp [LI.out]) sI.2 sI.cells (ints_oneCell _ _) (by omega) ?_)
        intro w2 hown hgrow
        go_wp2
        go_meet
        case rel => exact hfill.out.all LI.out hown hgrow
      case rest =>
        clear hfill sI ho hb
        have hk2 : (zs ++ I).length ≤ 1 + ni := by simp [LI.out]; omega
        obtain ⟨ys, hy⟩ : ∃ ys, ys = zs ++ I := ⟨_, rfl⟩
        rw [← hy] at hcut hk2
        have HY : Hid (ys = zs ++ I) := hy
        clear hy
        have hfill := hcut
        obtain ⟨rfl, ho, hb⟩ := hcut.out
        clear hcut
        go_upto_if 31 with fail
        go_cut [11] (fun v wr => Hid (Fill w cap v wr (ys ++ Json.fracT F)))
        case first =>
          by_cases hf : 0 < nf
          · have hft : Hid (Json.fracT F = 46 :: F) := by unfold Json.fracT Hid; rw [if_pos (by rw [LF.out]; exact hf)]
            have hft' : ((nf : Int) == 0) = false := by simp; omega
            go_wp2_with (at_builtin; refine wpList_append_fits _ rfl (.tmp 32) (.tmp 33) 22 rfl w.heap.size 5 i0 1 Try.underlying22 hi hz1 w.heap.size ys.length cap _ rfl (ho.alloc _) ⟨wc.heap.size, 0, none⟩ 1 1 [.int .u8 46] rfl rfl (cell_one_new _ _ _) (by intro u hu; simp at hu; subst hu; rfl) (by omega) ?_)
            intro w2 hown hgrow
            have hfill2 := hfill.out.one _ hown hgrow
            clear hown hgrow ho hfill
            have hf2 : Hid (Fill w cap (.slice (some ⟨w.heap.size, 0, none⟩) (ys.length + 1) cap) w2 (ys ++ [46])) := hfill2
            have ho2 : w2.ownsRow w.heap.size 5 1 (.slice (some ⟨w.heap.size, 0, none⟩) (ys.length + 1) cap) (ys.length + 1) ((ys ++ [46]).map (Value.int .u8)) := by
              have := hfill2.2.1; simpa using this
            have sF := HF.out.below hfill2.2.2
            clear hfill2
            go_wp2_with (at_builtin; refine wpList_append_fits_any _ rfl (.tmp 35) (.tmp 36) 22 rfl w.heap.size 5 i0 1 Try.underlying22 hi hz1 w.heap.size (ys.length + 1) cap _ rfl ho2 af nf cf (F.map (Value.int .u8)) rfl (by simp [LF.out]) sF.2 sF.cells (ints_oneCell _ _) (by omega) ?_)
            intro w3 hown hgrow
            go_wp2
            go_meet
            case rel =>
              have := hf2.out.all LF.out (by simpa using hown) hgrow
              unfold Hid
              rw [hft.out, show ys ++ 46 :: F = (ys ++ [46]) ++ F by simp]
              simpa using this
          · have hft : Hid (Json.fracT F = []) := by unfold Json.fracT Hid; rw [if_neg (by rw [LF.out]; exact hf)]
            go_wp2
            go_meet
            case rel => unfold Hid; rw [hft.out, List.append_nil]; exact hfill.out
        case rest =>
          clear hfill ho hb
          have hk3 : (ys ++ Json.fracT F).length ≤ ni + nf + 2 := by
            have : (Json.fracT F).length ≤ 1 + nf := by unfold Json.fracT; split <;> simp [LF.out]; omega
            simp; omega
          obtain ⟨xs, hx⟩ : ∃ xs, xs = ys ++ Json.fracT F := ⟨_, rfl⟩
          rw [← hx] at hcut hk3
          have HXS : Hid (xs = ys ++ Json.fracT F) := hx
          clear hx
          have hfill := hcut
          obtain ⟨rfl, ho, hb⟩ := hcut.out
          clear hcut
          have hjoin : Hid (Json.join neg I F X up = xs ++ Json.expT up X) := by
            unfold Hid Json.join
            rw [HXS.out, HY.out, HZ.out]; simp
          by_cases hx0 : 0 < ne
          · have hxt : Hid (Json.expT up X = (if up then 69 else 101) :: X) := by unfold Json.expT Hid; rw [if_pos (by rw [LX.out]; exact hx0)]
            go_upto_if 41 with fail
            go_cut [11] (fun v wr => Hid (Fill w cap v wr (xs ++ [if up then 69 else 101])))
            case first =>
              cases up
              · go_wp2_with (at_builtin; refine wpList_append_fits _ rfl (.tmp 45) (.tmp 46) 22 rfl w.heap.size 5 i0 1 Try.underlying22 hi hz1 w.heap.size xs.length cap _ rfl (ho.alloc _) ⟨wc.heap.size, 0, none⟩ 1 1 [.int .u8 101] rfl rfl (cell_one_new _ _ _) (by intro u hu; simp at hu; subst hu; rfl) (by omega) ?_)
                intro w2 hown hgrow
                go_wp2
                go_meet
                case rel => exact hfill.out.one _ hown hgrow
              · go_wp2_with (at_builtin; refine wpList_append_fits _ rfl (.tmp 42) (.tmp 43) 22 rfl w.heap.size 5 i0 1 Try.underlying22 hi hz1 w.heap.size xs.length cap _ rfl (ho.alloc _) ⟨wc.heap.size, 0, none⟩ 1 1 [.int .u8 69] rfl rfl (cell_one_new _ _ _) (by intro u hu; simp at hu; subst hu; rfl) (by omega) ?_)
                intro w2 hown hgrow
                go_wp2
                go_meet
                case rel => exact hfill.out.one _ hown hgrow
            case rest =>
              clear hfill ho hb
              have hk4 : (xs ++ [if up then (69 : Int) else 101]).length ≤ ni + nf + 3 := by simp; omega
              obtain ⟨vs, hv⟩ : ∃ vs, vs = xs ++ [if up then (69 : Int) else 101] := ⟨_, rfl⟩
              rw [← hv] at hcut hk4
              have HV : Hid (vs = xs ++ [if up then (69 : Int) else 101]) := hv
              clear hv
              have hfill := hcut
              obtain ⟨rfl, ho, hb⟩ := hcut.out
              clear hcut
              have sX := HX.out.below hb
              go_wp2_with (at_builtin; refine wpList_append_fits_any _ rfl (.tmp 48) (.tmp 49) 22 rfl w.heap.size 5 i0 1 Try.underlying22 hi hz1 w.heap.size vs.length cap _ rfl ho ae ne ce (X.map (Value.int .u8)) rfl (by simp [LX.out]) sX.2 sX.cells (ints_oneCell _ _) (by omega) ?_)
              intro w3 hown hgrow
              have hfin := hfill.out.all LX.out hown hgrow
              have e : Json.join neg I F X up = vs ++ X := by rw [hjoin.out, hxt.out, HV.out]; simp
              have el : (Json.join neg I F X up).length = vs.length + ne := by rw [e]; simp [LX.out]
              have HE : Hid (Json.join neg I F X up = vs ++ X ∧ (Json.join neg I F X up).length = vs.length + ne ∧ Fill w cap (.slice (some ⟨w.heap.size, 0, none⟩) (vs.length + ne) cap) w3 (vs ++ X)) := ⟨e, el, hfin⟩
              clear hown hgrow hfin e el
              go_wp2
              go_ret
              obtain ⟨e, el, hfin⟩ := HE.out
              refine ⟨cap, by rw [el]; rfl, by rw [el]; omega, ?_, hfin.2.2⟩
              rw [e]
              exact rd_of_owns hfin.2.1
          · have hxt : Hid (Json.expT up X = []) := by unfold Json.expT Hid; rw [if_neg (by rw [LX.out]; exact hx0)]
            go_wp2
            go_ret
            have e : Json.join neg I F X up = xs := by rw [hjoin.out, hxt.out]; simp
            rw [e]
            exact ⟨cap, rfl, by omega, rd_of_owns ho, hb⟩
end Go.Proofs.Qxb6603471a
