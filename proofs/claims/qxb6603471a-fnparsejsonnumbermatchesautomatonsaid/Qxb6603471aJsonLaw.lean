/-
  THE PLAIN LAW: the automaton's answer is the parser's, by places. No Go in sight.
-/
import Derived.Test.Qxb6603471aJsonPlain
namespace Go.Proofs.Qxb6603471a.Json

theorem mv_neg (s c : Int) (h : mv s c = -1) : mv s c < 0 := by omega

theorem stop8 (zs : List Int) (i : Nat) : aut 8 (zs.drop (skip zs i)) = stop 8 := by
  have h := skip_head zs i
  rw [aut_step, if_pos]
  apply mv_neg; simp [mv, h]

theorem digB_ne {c : Int} (h : digB c = true) : 48 ≤ c ∧ c ≤ 57 := (digB_iff c).1 h

/-- The digits of an exponent, at d, the automaton in 6 (d no sign) or 7. -/
theorem exp_digits (s : Int) (hs : s = 6 ∨ s = 7) (zs : List Int) (d : Nat) (hsign : s = 6 → ¬ (at0 zs d = 43 ∨ at0 zs d = 45)) :
    aut s (zs.drop d) = if skip zs d = d then stop s else { s := 8, k := skip zs d - d, i := [], f := [], e := seg zs d (skip zs d) } := by
  rw [aut_step]
  by_cases h : digB (at0 zs d) = true
  · obtain ⟨hl, e, hle⟩ := skip_dig zs d h
    have hm : mv s (at0 zs d) = 8 := by
      rcases hs with rfl | rfl
      · have := hsign rfl; unfold mv; simp [h, this]
      · unfold mv; simp [h]
    rw [hm, if_neg (by omega), aut_dig 8 (by simp) zs d h, stop8, if_neg (show ¬ skip zs d = d by omega)]
    simp [Aut.behind, stop]
  · have h' : digB (at0 zs d) = false := by simpa using h
    have hm : mv s (at0 zs d) = -1 := by
      rcases hs with rfl | rfl
      · have := hsign rfl; unfold mv; simp [h', this]
      · unfold mv; simp [h']
    rw [if_pos (by omega), if_pos (skip_not zs d h')]

/-- The exponent behind its letter at r. -/
theorem exp_part (zs : List Int) (r : Nat) (hr : r < zs.length) :
    let d := if at0 zs (r + 1) = 43 ∨ at0 zs (r + 1) = 45 then r + 2 else r + 1
    if skip zs d = d then ¬ acc (aut 6 (zs.drop (r + 1))).s else aut 6 (zs.drop (r + 1)) = { s := 8, k := skip zs d - (r + 1), i := [], f := [], e := seg zs (r + 1) (skip zs d) } := by
  intro d
  by_cases hsg : at0 zs (r + 1) = 43 ∨ at0 zs (r + 1) = 45
  · have hd : d = r + 2 := by simp only [d]; rw [if_pos hsg]
    have hl : r + 1 < zs.length := by
      apply Classical.byContradiction; intro hn
      rw [getD_out _ _ (by omega)] at hsg; omega
    have hm : mv 6 (at0 zs (r + 1)) = 7 := by unfold mv; simp [hsg]
    have key : aut 6 (zs.drop (r + 1)) = (aut 7 (zs.drop (r + 2))).push 7 (at0 zs (r + 1)) := by
      rw [aut_step, hm, if_neg (by omega)]
    have h7 := exp_digits 7 (by simp) zs (r + 2) (by simp)
    rw [hd]
    have hge := skip_ge zs (r + 2)
    by_cases hs : skip zs (r + 2) = r + 2
    · rw [if_pos hs, key, h7, if_pos hs]; simp [Aut.push, stop, acc]
    · rw [if_neg hs, key, h7, if_neg hs, seg_cons zs (r + 1) _ hl (by omega)]
      simp [Aut.push]; omega
  · have hd : d = r + 1 := by simp only [d]; rw [if_neg hsg]
    have h6 := exp_digits 6 (by simp) zs (r + 1) (fun _ => hsg)
    rw [hd]
    by_cases hs : skip zs (r + 1) = r + 1
    · rw [if_pos hs, h6, if_pos hs]; simp [stop, acc]
    · rw [if_neg hs, h6, if_neg hs]

/-- What stands behind the digits at r: an exponent, or nothing. -/
def tailE (zs : List Int) (r : Nat) : Nat := if at0 zs r = 101 ∨ at0 zs r = 69 then skip zs (if at0 zs (r + 1) = 43 ∨ at0 zs (r + 1) = 45 then r + 2 else r + 1) else r
def badE (zs : List Int) (r : Nat) : Prop := (at0 zs r = 101 ∨ at0 zs r = 69) ∧ tailE zs r = (if at0 zs (r + 1) = 43 ∨ at0 zs (r + 1) = 45 then r + 2 else r + 1)
def textE (zs : List Int) (r : Nat) : List Int := if at0 zs r = 101 ∨ at0 zs r = 69 then seg zs (r + 1) (tailE zs r) else []

theorem tail_ge (zs : List Int) (r : Nat) : r ≤ tailE zs r := by
  unfold tailE
  split
  · split
    · have := skip_ge zs (r + 2); omega
    · have := skip_ge zs (r + 1); omega
  · omega

theorem lt_of_E (zs : List Int) (r : Nat) (h : at0 zs r = 101 ∨ at0 zs r = 69) : r < zs.length := by
  apply Classical.byContradiction; intro hn
  rw [getD_out _ _ (by omega)] at h; omega

/-- From an accepting state whose only move at r is the exponent's letter. -/
theorem from_r (s : Int) (zs : List Int) (r : Nat) (ha : acc s)
    (h6 : (at0 zs r = 101 ∨ at0 zs r = 69) → mv s (at0 zs r) = 6) (hno : ¬ (at0 zs r = 101 ∨ at0 zs r = 69) → mv s (at0 zs r) = -1) :
    (badE zs r → ¬ acc (aut s (zs.drop r)).s) ∧
    (¬ badE zs r → acc (aut s (zs.drop r)).s ∧ (aut s (zs.drop r)).k = tailE zs r - r ∧ (aut s (zs.drop r)).i = [] ∧ (aut s (zs.drop r)).f = [] ∧ (aut s (zs.drop r)).e = textE zs r) := by
  by_cases hE : at0 zs r = 101 ∨ at0 zs r = 69
  · have hl := lt_of_E zs r hE
    have key : aut s (zs.drop r) = (aut 6 (zs.drop (r + 1))).push 6 (at0 zs r) := by rw [aut_step, h6 hE, if_neg (by omega)]
    have hp := exp_part zs r hl
    simp only at hp
    rw [key]
    have hsk := skip_ge zs (if at0 zs (r + 1) = 43 ∨ at0 zs (r + 1) = 45 then r + 2 else r + 1)
    have hd1 : r + 1 ≤ (if at0 zs (r + 1) = 43 ∨ at0 zs (r + 1) = 45 then r + 2 else r + 1) := by split <;> omega
    unfold badE textE tailE
    simp only [hE, if_true, true_and]
    by_cases hs : skip zs (if at0 zs (r + 1) = 43 ∨ at0 zs (r + 1) = 45 then r + 2 else r + 1) = (if at0 zs (r + 1) = 43 ∨ at0 zs (r + 1) = 45 then r + 2 else r + 1)
    · rw [if_pos hs] at hp
      exact ⟨fun _ => by simpa [Aut.push] using hp, fun hn => absurd hs hn⟩
    · rw [if_neg hs] at hp
      refine ⟨fun h => absurd h hs, fun _ => ?_⟩
      rw [hp]
      refine ⟨by simp [Aut.push, acc], ?_, by simp [Aut.push], by simp [Aut.push], by simp [Aut.push]⟩
      simp only [Aut.push]
      omega
  · have key : aut s (zs.drop r) = stop s := by rw [aut_step, hno hE, if_pos (by omega)]
    rw [key]
    unfold badE textE tailE
    simp [hE, stop, ha]

/-- The automaton from behind the integer part, at q. -/
theorem from_q (s : Int) (hs : s = 2 ∨ s = 3) (zs : List Int) (q : Nat) (hq : s = 3 → digB (at0 zs q) = false) :
    let r := if at0 zs q = 46 then skip zs (q + 1) else q
    let bad := (at0 zs q = 46 ∧ r = q + 1) ∨ badE zs r
    (bad → ¬ acc (aut s (zs.drop q)).s) ∧
    (¬ bad → acc (aut s (zs.drop q)).s ∧ (aut s (zs.drop q)).k = tailE zs r - q ∧ (aut s (zs.drop q)).i = [] ∧ (aut s (zs.drop q)).f = (if at0 zs q = 46 then seg zs (q + 1) r else []) ∧ (aut s (zs.drop q)).e = textE zs r) := by
  intro r bad
  by_cases hp : at0 zs q = 46
  · have hm : mv s (at0 zs q) = 4 := by rw [hp]; rcases hs with rfl | rfl <;> decide
    have key : aut s (zs.drop q) = (aut 4 (zs.drop (q + 1))).push 4 (at0 zs q) := by rw [aut_step, hm, if_neg (by omega)]
    have hr : r = skip zs (q + 1) := by simp only [r]; rw [if_pos hp]
    simp only [bad]
    rw [key, hr]
    by_cases h : digB (at0 zs (q + 1)) = true
    · obtain ⟨hl, e, hle⟩ := skip_dig zs (q + 1) h
      have hm4 : mv 4 (at0 zs (q + 1)) = 5 := by unfold mv; simp [h]
      have k4 : aut 4 (zs.drop (q + 1)) = Aut.behind (skip zs (q + 1) - (q + 1)) [] (seg zs (q + 1) (skip zs (q + 1))) [] (aut 5 (zs.drop (skip zs (q + 1)))) := by
        rw [aut_step, hm4, if_neg (by omega), aut_dig 5 (by simp) zs (q + 1) h]; simp
      have hh := skip_head zs (q + 1)
      obtain ⟨f1, f2⟩ := from_r 5 zs (skip zs (q + 1)) (by simp [acc])
        (by intro hE; unfold mv; simp [hh, hE])
        (by intro hE; unfold mv; simp [hh, hE])
      rw [k4]
      have ht := tail_ge zs (skip zs (q + 1))
      constructor
      · rintro (⟨_, hb⟩ | hb)
        · omega
        · simpa [Aut.push, Aut.behind] using f1 hb
      · intro hn
        have hnE : ¬ badE zs (skip zs (q + 1)) := fun hb => hn (.inr hb)
        obtain ⟨g1, g2, g3, g4, g5⟩ := f2 hnE
        simp only [Aut.push, Aut.behind, g2, g3, g4, g5, hp]
        simp [g1]
        omega
    · have h' : digB (at0 zs (q + 1)) = false := by simpa using h
      have hsn := skip_not zs (q + 1) h'
      have hm4 : mv 4 (at0 zs (q + 1)) = -1 := by unfold mv; simp [h']
      have k4 : aut 4 (zs.drop (q + 1)) = stop 4 := by rw [aut_step, hm4, if_pos (by omega)]
      rw [k4, hsn]
      constructor
      · intro _; simp [Aut.push, stop, acc]
      · intro hn; exact absurd (.inl ⟨hp, rfl⟩) hn
  · have hr : r = q := by simp only [r]; rw [if_neg hp]
    simp only [bad]
    rw [hr]
    obtain ⟨f1, f2⟩ := from_r s zs q (by unfold acc; omega)
      (by intro hE; rcases hs with rfl | rfl
          · unfold mv; simp [hp, hE]
          · unfold mv; simp [hq rfl, hp, hE])
      (by intro hE; rcases hs with rfl | rfl
          · unfold mv; simp [hp, hE]
          · unfold mv; simp [hq rfl, hp, hE])
    constructor
    · rintro (⟨hb, _⟩ | hb)
      · exact absurd hb hp
      · exact f1 hb
    · intro hn
      obtain ⟨g1, g2, g3, g4, g5⟩ := f2 fun hb => hn (.inr hb)
      exact ⟨g1, g2, g3, by rw [g4, if_neg hp], g5⟩

/-- From the integer part's first byte, at p. -/
theorem from_p (s : Int) (hs : s = 0 ∨ s = 1) (zs : List Int) (p : Nat) (hm : s = 0 → at0 zs p ≠ 45) :
    let q := if at0 zs p = 48 then p + 1 else skip zs p
    let r := if at0 zs q = 46 then skip zs (q + 1) else q
    let bad := q = p ∨ (at0 zs q = 46 ∧ r = q + 1) ∨ badE zs r
    (bad → ¬ acc (aut s (zs.drop p)).s) ∧
    (¬ bad → acc (aut s (zs.drop p)).s ∧ (aut s (zs.drop p)).k = tailE zs r - p ∧ (aut s (zs.drop p)).i = seg zs p q ∧ (aut s (zs.drop p)).f = (if at0 zs q = 46 then seg zs (q + 1) r else []) ∧ (aut s (zs.drop p)).e = textE zs r) := by
  intro q r bad
  by_cases h0 : at0 zs p = 48
  · have hq : q = p + 1 := by simp only [q]; rw [if_pos h0]
    have hl : p < zs.length := by
      apply Classical.byContradiction; intro hn
      rw [getD_out _ _ (by omega)] at h0; omega
    have hmv : mv s (at0 zs p) = 2 := by rw [h0]; rcases hs with rfl | rfl <;> decide
    have key : aut s (zs.drop p) = (aut 2 (zs.drop (p + 1))).push 2 (at0 zs p) := by rw [aut_step, hmv, if_neg (by omega)]
    obtain ⟨f1, f2⟩ := from_q 2 (by simp) zs (p + 1) (by omega)
    simp only [bad, r]
    rw [hq, key]
    constructor
    · rintro (hb | hb)
      · omega
      · simpa [Aut.push] using f1 hb
    · intro hn
      obtain ⟨g1, g2, g3, g4, g5⟩ := f2 fun hb => hn (.inr hb)
      have ht : p + 1 ≤ tailE zs (if at0 zs (p + 1) = 46 then skip zs (p + 1 + 1) else p + 1) := by
        refine Nat.le_trans ?_ (tail_ge _ _)
        split
        · have := skip_ge zs (p + 1 + 1); omega
        · omega
      rw [seg_cons zs p (p + 1) hl (by omega), seg_nil]
      simp only [Aut.push, g2, g3, g4, g5]
      simp [g1]
      omega
  · have hq : q = skip zs p := by simp only [q]; rw [if_neg h0]
    simp only [bad, r]
    rw [hq]
    by_cases h : digB (at0 zs p) = true
    · obtain ⟨hl, e, hle⟩ := skip_dig zs p h
      have hmv : mv s (at0 zs p) = 3 := by
        have := digB_ne h
        rcases hs with rfl | rfl
        · unfold mv; simp [h, h0, hm rfl]
        · unfold mv; simp [h, h0]
      have key : aut s (zs.drop p) = Aut.behind (skip zs p - p) (seg zs p (skip zs p)) [] [] (aut 3 (zs.drop (skip zs p))) := by
        rw [aut_step, hmv, if_neg (by omega), aut_dig 3 (by simp) zs p h]; simp
      obtain ⟨f1, f2⟩ := from_q 3 (by simp) zs (skip zs p) (fun _ => skip_head zs p)
      rw [key]
      constructor
      · rintro (hb | hb)
        · omega
        · simpa [Aut.behind] using f1 hb
      · intro hn
        obtain ⟨g1, g2, g3, g4, g5⟩ := f2 fun hb => hn (.inr hb)
        have ht : skip zs p ≤ tailE zs (if at0 zs (skip zs p) = 46 then skip zs (skip zs p + 1) else skip zs p) := by
          refine Nat.le_trans ?_ (tail_ge _ _)
          split
          · have := skip_ge zs (skip zs p + 1); omega
          · omega
        simp only [Aut.behind, g2, g3, g4, g5]
        simp [g1]
        omega
    · have h' : digB (at0 zs p) = false := by simpa using h
      have hmv : mv s (at0 zs p) = -1 := by
        rcases hs with rfl | rfl
        · unfold mv; simp [h', h0, hm rfl]
        · unfold mv; simp [h', h0]
      have key : aut s (zs.drop p) = stop s := by rw [aut_step, hmv, if_pos (by omega)]
      rw [key, skip_not zs p h']
      constructor
      · intro _; unfold acc; rcases hs with rfl | rfl <;> simp [stop]
      · intro hn; exact absurd (.inl rfl) hn

theorem tE_eq (zs : List Int) : tE zs = tailE zs (rF zs) := rfl
theorem bad_eq (zs : List Int) : bad zs ↔ qI zs = pI zs ∨ (at0 zs (qI zs) = 46 ∧ rF zs = qI zs + 1) ∨ badE zs (rF zs) := Iff.rfl

theorem law (zs : List Int) :
    (bad zs → ¬ acc (aut 0 zs).s) ∧
    (¬ bad zs → acc (aut 0 zs).s ∧ (aut 0 zs).k = tE zs ∧ (aut 0 zs).i = intP zs ∧ (aut 0 zs).f = fracP zs ∧ (aut 0 zs).e = expP zs) := by
  by_cases hm : at0 zs 0 = 45
  · have hp : pI zs = 1 := by unfold pI; rw [if_pos hm]
    have hmv : mv 0 (at0 zs 0) = 1 := by rw [hm]; decide
    have key : aut 0 zs = (aut 1 (zs.drop (pI zs))).push 1 (at0 zs 0) := by
      have := aut_step 0 zs 0
      rw [hmv, if_neg (by omega)] at this
      rw [hp]
      simpa using this
    obtain ⟨f1, f2⟩ := from_p 1 (by simp) zs (pI zs) (by omega)
    rw [key]
    constructor
    · intro hb; exact f1 hb
    · intro hn
      obtain ⟨g1, g2, g3, g4, g5⟩ := f2 hn
      have g2' : (aut 1 (zs.drop (pI zs))).k = tE zs - pI zs := g2
      have ht : pI zs ≤ tE zs := by
        rw [tE_eq]
        refine Nat.le_trans ?_ (tail_ge _ _)
        have h1 : pI zs ≤ qI zs := by
          unfold qI; split
          · omega
          · have := skip_ge zs (pI zs); omega
        unfold rF; split
        · have := skip_ge zs (qI zs + 1); omega
        · omega
      exact ⟨g1, by simp only [Aut.push]; omega, g3, g4, g5⟩
  · have hp : pI zs = 0 := by unfold pI; rw [if_neg hm]
    obtain ⟨f1, f2⟩ := from_p 0 (by simp) zs (pI zs) (fun _ => by rw [hp]; exact hm)
    have key : aut 0 zs = aut 0 (zs.drop (pI zs)) := by rw [hp, List.drop_zero]
    rw [key]
    constructor
    · intro hb; exact f1 hb
    · intro hn
      obtain ⟨g1, g2, g3, g4, g5⟩ := f2 hn
      have g2' : (aut 0 (zs.drop (pI zs))).k = tE zs - pI zs := g2
      exact ⟨g1, by omega, g3, g4, g5⟩
end Go.Proofs.Qxb6603471a.Json
