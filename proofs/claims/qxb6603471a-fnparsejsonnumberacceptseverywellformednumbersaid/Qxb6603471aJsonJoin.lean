/-
  THE PLAIN LAW OF A NUMBER THAT IS WRITTEN FROM WELL-FORMED PARTS: no Go in sight.
-/
import Derived.Test.Qxb6603471aJsonPlain
namespace Go.Proofs.Qxb6603471a.Json

def allD : List Int → Bool
  | [] => true
  | c :: cs => digB c && allD cs

theorem allD_step (zs : List Int) (k : Nat) (h : k < zs.length) : allD (zs.drop k) = (digB (at0 zs k) && allD (zs.drop (k + 1))) := by
  rw [drop_at zs k h, allD]

/-- An exponent's text: nothing, or a sign or none and digits, one at least. -/
def expOk (x : List Int) : Bool :=
  if x.length = 0 then true
  else if at0 x 0 = 43 ∨ at0 x 0 = 45 then decide (1 < x.length) && allD (x.drop 1) else allD x

def intOk (i : List Int) : Bool := decide (0 < i.length) && allD i && !(decide (at0 i 0 = 48) && decide (1 < i.length))

def negT (neg : Bool) : List Int := if neg then [45] else []
def fracT (f : List Int) : List Int := if 0 < f.length then 46 :: f else []
def expT (up : Bool) (x : List Int) : List Int := if 0 < x.length then (if up then 69 else 101) :: x else []
def join (neg : Bool) (i f x : List Int) (up : Bool) : List Int := negT neg ++ (i ++ (fracT f ++ expT up x))

theorem at0_app (a b : List Int) (k : Nat) : at0 (a ++ b) (a.length + k) = at0 b k := by
  simp [at0, List.getD, List.getElem?_append_right]

theorem at0_app0 (a b : List Int) : at0 (a ++ b) a.length = at0 b 0 := at0_app a b 0

theorem at0_left (a b : List Int) (k : Nat) (h : k < a.length) : at0 (a ++ b) k = at0 a k := by
  simp [at0, List.getD, List.getElem?_append, h]

theorem at0_cons0 (c : Int) (b : List Int) : at0 (c :: b) 0 = c := by simp [at0]
theorem at0_nil (k : Nat) : at0 [] k = 0 := by simp [at0]

theorem run_app (ds rest : List Int) (h : allD ds = true) (hr : digB (at0 rest 0) = false) : run (ds ++ rest) = ds.length := by
  induction ds with
  | nil =>
    cases rest with
    | nil => rfl
    | cons c cs => rw [at0_cons0] at hr; simp [run, hr]
  | cons c cs ih =>
    simp only [allD, Bool.and_eq_true] at h
    simp [run, h.1, ih h.2]

theorem skip_app (a ds rest : List Int) (h : allD ds = true) (hr : digB (at0 rest 0) = false) : skip (a ++ (ds ++ rest)) a.length = a.length + ds.length := by
  unfold skip
  rw [List.drop_left, run_app ds rest h hr]

theorem seg_app (a ds rest : List Int) : seg (a ++ (ds ++ rest)) a.length (a.length + ds.length) = ds := by
  unfold seg
  rw [List.drop_left, Nat.add_sub_cancel_left, List.take_left]

theorem dig_of_all {ds : List Int} (h : allD ds = true) (hl : 0 < ds.length) : digB (at0 ds 0) = true := by
  cases ds with
  | nil => simp at hl
  | cons c cs => simp only [allD, Bool.and_eq_true] at h; rw [at0_cons0]; exact h.1

theorem nd46 : digB 46 = false := by decide
theorem nd0 : digB 0 = false := by decide
theorem nd69 : digB 69 = false := by decide
theorem nd101 : digB 101 = false := by decide

theorem expT_head (up : Bool) (x : List Int) : at0 (expT up x) 0 = if 0 < x.length then (if up then 69 else 101) else 0 := by
  unfold expT; split
  · rw [at0_cons0]
  · rw [at0_nil]

theorem expT_nd (up : Bool) (x : List Int) : digB (at0 (expT up x) 0) = false := by
  rw [expT_head]; cases up <;> split <;> decide

theorem fe_head (f x : List Int) (up : Bool) : at0 (fracT f ++ expT up x) 0 = if 0 < f.length then 46 else at0 (expT up x) 0 := by
  unfold fracT; split
  · simp [at0]
  · simp

theorem fe_nd (f x : List Int) (up : Bool) : digB (at0 (fracT f ++ expT up x) 0) = false := by
  rw [fe_head]; split
  · decide
  · exact expT_nd up x

theorem fe46 (f x : List Int) (up : Bool) : at0 (fracT f ++ expT up x) 0 = 46 ↔ 0 < f.length := by
  rw [fe_head]; split
  · simp_all
  · rw [expT_head]
    rename_i h
    constructor
    · intro hh; exfalso; split at hh
      · cases up <;> simp at hh
      · omega
    · intro hh; exact absurd hh h

theorem joined (neg : Bool) (i f x : List Int) (up : Bool) (hi : intOk i = true) (hf : allD f = true) (hx : expOk x = true) :
    ¬ bad (join neg i f x up) ∧ decide (at0 (join neg i f x up) 0 = 45) = neg ∧ intP (join neg i f x up) = i ∧ fracP (join neg i f x up) = f ∧ expP (join neg i f x up) = x ∧ tE (join neg i f x up) = (join neg i f x up).length := by
  obtain ⟨z, hz⟩ : ∃ z, z = join neg i f x up := ⟨_, rfl⟩
  rw [← hz]
  simp only [intOk, Bool.and_eq_true, decide_eq_true_eq, Bool.not_eq_true', Bool.and_eq_false_iff, decide_eq_false_iff_not] at hi
  obtain ⟨⟨hi0, hia⟩, hi1⟩ := hi
  have hid := dig_of_all hia hi0
  have hidr := (digB_iff _).1 hid
  -- the places
  have eN : z = negT neg ++ (i ++ (fracT f ++ expT up x)) := hz
  have eI : z = (negT neg ++ i) ++ (fracT f ++ expT up x) := by rw [eN, List.append_assoc]
  have h0 : at0 z 0 = if neg then 45 else at0 i 0 := by
    rw [eN]; cases neg
    · simp only [negT]; exact at0_left i _ 0 hi0
    · simp [negT, at0]
  have hneg : (at0 z 0 = 45) ↔ neg = true := by
    rw [h0]; cases neg
    · simp; omega
    · simp
  have hp : pI z = (negT neg).length := by
    unfold pI
    cases neg
    · rw [if_neg (by rw [hneg]; simp)]; rfl
    · rw [if_pos (by rw [hneg])]; rfl
  have hatp : at0 z (pI z) = at0 i 0 := by
    rw [hp, eN, at0_app0, at0_left i _ 0 hi0]
  have hq : qI z = (negT neg).length + i.length := by
    unfold qI
    rw [hatp]
    by_cases h48 : at0 i 0 = 48
    · rw [if_pos h48, hp]
      have : ¬ 1 < i.length := by rcases hi1 with h | h; exact absurd h48 h; exact h
      omega
    · rw [if_neg h48, hp, eN, skip_app _ i _ hia (fe_nd f x up)]
  have hatq : at0 z (qI z) = at0 (fracT f ++ expT up x) 0 := by
    rw [hq, eI, ← List.length_append, at0_app0]
  have hint : intP z = i := by
    unfold intP
    rw [hq, hp, eN, seg_app]
  have eF : z = (negT neg ++ i ++ fracT f) ++ expT up x := by rw [eN]; simp
  have hr : rF z = (negT neg ++ i ++ fracT f).length := by
    unfold rF
    rw [hatq]
    by_cases hf0 : 0 < f.length
    · rw [if_pos ((fe46 f x up).2 hf0), hq]
      have e1 : z = (negT neg ++ i ++ [46]) ++ (f ++ expT up x) := by rw [eN]; simp [fracT, hf0]
      have := skip_app (negT neg ++ i ++ [46]) f (expT up x) hf (expT_nd up x)
      rw [← e1] at this
      have e4 : (negT neg ++ i ++ [46]).length = (negT neg).length + i.length + 1 := by simp; omega
      rw [e4] at this
      rw [this]
      simp [fracT, hf0]; omega
    · rw [if_neg (fun h => hf0 ((fe46 f x up).1 h)), hq]
      simp [fracT, hf0]
  have hfrac : fracP z = f := by
    unfold fracP
    rw [hatq]
    by_cases hf0 : 0 < f.length
    · rw [if_pos ((fe46 f x up).2 hf0)]
      have e1 : z = (negT neg ++ i ++ [46]) ++ (f ++ expT up x) := by rw [eN]; simp [fracT, hf0]
      have := seg_app (negT neg ++ i ++ [46]) f (expT up x)
      rw [← e1] at this
      rw [hq, hr]
      simp [fracT, hf0] at this ⊢
      have e2 : (negT neg).length + (i.length + (f.length + 1)) = (negT neg).length + (i.length + 1) + f.length := by omega
      rw [e2]
      have e3 : (negT neg).length + i.length + 1 = (negT neg).length + (i.length + 1) := by omega
      rw [e3]
      exact this
    · rw [if_neg (fun h => hf0 ((fe46 f x up).1 h))]
      exact (List.length_eq_zero_iff.1 (by omega)).symm
  have hatr : at0 z (rF z) = at0 (expT up x) 0 := by rw [hr, eF, at0_app0]
  have hbadF : ¬ (at0 z (qI z) = 46 ∧ rF z = qI z + 1) := by
    rintro ⟨h1, h2⟩
    rw [hatq, fe46] at h1
    rw [hr, hq] at h2
    simp [fracT, h1] at h2
    omega
  have hbadI : ¬ qI z = pI z := by rw [hq, hp]; omega
  have hE : (at0 z (rF z) = 101 ∨ at0 z (rF z) = 69) ↔ 0 < x.length := by
    rw [hatr, expT_head]
    constructor
    · intro h
      apply Classical.byContradiction; intro hn
      rw [if_neg hn] at h; omega
    · intro h; rw [if_pos h]; cases up <;> simp
  have hlen : z.length = (negT neg ++ i ++ fracT f).length + (expT up x).length := by rw [eF]; simp; omega
  by_cases hx0 : 0 < x.length
  · have hEp := hE.2 hx0
    obtain ⟨m, hm⟩ : ∃ m : Int, m = if up then 69 else 101 := ⟨_, rfl⟩
    have ex : expT up x = m :: x := by unfold expT; rw [if_pos hx0, hm]
    have e1 : z = (negT neg ++ i ++ fracT f ++ [m]) ++ x := by rw [eF, ex]; simp
    have hatr1 : at0 z (rF z + 1) = at0 x 0 := by
      have := at0_app0 (negT neg ++ i ++ fracT f ++ [m]) x
      rw [← e1, List.length_append (bs := [m]), ← hr] at this
      exact this
    unfold expOk at hx
    rw [if_neg (by omega)] at hx
    have key : ∃ d, dE z = d ∧ d < z.length ∧ skip z d = z.length := by
      by_cases hs : at0 x 0 = 43 ∨ at0 x 0 = 45
      · rw [if_pos hs] at hx
        simp only [Bool.and_eq_true, decide_eq_true_eq] at hx
        refine ⟨rF z + 2, ?_, ?_, ?_⟩
        · unfold dE; rw [hatr1, if_pos hs]
        · rw [hlen, ex, ← hr]; simp; omega
        · obtain ⟨s, xs, rfl⟩ : ∃ s xs, x = s :: xs := by
            cases x with
            | nil => simp at hx0
            | cons s xs => exact ⟨s, xs, rfl⟩
          have e2 : z = (negT neg ++ i ++ fracT f ++ [m, s]) ++ (xs ++ []) := by rw [eF, ex]; simp
          have := skip_app (negT neg ++ i ++ fracT f ++ [m, s]) xs [] (by simpa using hx.2) (by decide)
          rw [← e2, List.length_append (bs := [m, s]), ← hr] at this
          simp only [List.length_cons, List.length_nil] at this
          rw [this, hlen, ex, ← hr]; simp; omega
      · rw [if_neg hs] at hx
        refine ⟨rF z + 1, ?_, ?_, ?_⟩
        · unfold dE; rw [hatr1, if_neg hs]
        · rw [hlen, ex, ← hr]; simp; omega
        · have e2 : z = (negT neg ++ i ++ fracT f ++ [m]) ++ (x ++ []) := by rw [eF, ex]; simp
          have := skip_app (negT neg ++ i ++ fracT f ++ [m]) x [] hx (by decide)
          rw [← e2, List.length_append (bs := [m]), ← hr] at this
          simp only [List.length_cons, List.length_nil] at this
          rw [this, hlen, ex, ← hr]; simp; omega
    obtain ⟨d, hd, hdl, hsk⟩ := key
    have ht : tE z = z.length := by unfold tE; rw [if_pos hEp, hd, hsk]
    refine ⟨?_, ?_, hint, hfrac, ?_, ht⟩
    · rintro (h | h | h)
      · exact hbadI h
      · exact hbadF h
      · rw [ht, hd] at h; omega
    · cases neg <;> simp [hneg]
    · unfold expP
      rw [if_pos hEp, ht]
      have := seg_app (negT neg ++ i ++ fracT f ++ [m]) x []
      rw [List.append_nil, ← e1, List.length_append (bs := [m]), ← hr] at this
      rw [show z.length = rF z + [m].length + x.length by rw [hlen, ex, ← hr]; simp; omega]
      exact this
  · have hEn : ¬ (at0 z (rF z) = 101 ∨ at0 z (rF z) = 69) := fun h => hx0 (hE.1 h)
    have ex : expT up x = [] := by unfold expT; rw [if_neg hx0]
    have ht : tE z = z.length := by unfold tE; rw [if_neg hEn, hlen, ex, hr]; simp
    refine ⟨?_, ?_, hint, hfrac, ?_, ht⟩
    · rintro (h | h | h)
      · exact hbadI h
      · exact hbadF h
      · exact hEn h.1
    · cases neg <;> simp [hneg]
    · unfold expP
      rw [if_neg hEn]
      exact (List.length_eq_zero_iff.1 (by omega)).symm
end Go.Proofs.Qxb6603471a.Json
