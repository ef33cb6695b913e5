/-
  PLAIN MATHEMATICS OF A JSON NUMBER INSIDE A TEXT: no Go in sight. Bytes are integers.
-/
namespace Go.Proofs.Qxb6603727a.Num

def digB (c : Int) : Bool := decide (48 ≤ c) && decide (c ≤ 57)

theorem digB_iff (c : Int) : digB c = true ↔ 48 ≤ c ∧ c ≤ 57 := by
  unfold digB; simp

/-- The byte at place i; 0 where there is none (0 is no byte of a number). -/
def at0 (zs : List Int) (i : Nat) : Int := zs.getD i 0

theorem at0_getD (zs : List Int) (i : Nat) : at0 zs i = zs.getD i 0 := rfl
theorem getD_out (zs : List Int) (i : Nat) (h : zs.length ≤ i) : at0 zs i = 0 := by simp [at0, List.getD, h]

/-- How many digits stand at the head. -/
def run : List Int → Nat
  | [] => 0
  | c :: cs => if digB c then run cs + 1 else 0

theorem run_le (l : List Int) : run l ≤ l.length := by
  induction l with
  | nil => simp [run]
  | cons c cs ih => simp only [run]; split <;> simp <;> omega

/-- The place of the first byte from i on that is no digit. -/
def skip (zs : List Int) (i : Nat) : Nat := i + run (zs.drop i)

theorem skip_ge (zs : List Int) (i : Nat) : i ≤ skip zs i := by unfold skip; omega
theorem skip_le (zs : List Int) (i : Nat) (h : i ≤ zs.length) : skip zs i ≤ zs.length := by
  unfold skip; have := run_le (zs.drop i); simp at this; omega
theorem drop_at (zs : List Int) (i : Nat) (h : i < zs.length) : zs.drop i = at0 zs i :: zs.drop (i + 1) := by
  rw [List.drop_eq_getElem_cons h]; simp [at0, List.getD, h]

theorem lt_of_dig (zs : List Int) (i : Nat) (h : digB (at0 zs i) = true) : i < zs.length := by
  apply Classical.byContradiction; intro hn
  rw [getD_out _ _ (by omega)] at h; simp [digB] at h

theorem skip_yes (zs : List Int) (i : Nat) (h : digB (at0 zs i) = true) : skip zs (i + 1) = skip zs i := by
  unfold skip; rw [drop_at zs i (lt_of_dig zs i h), run, h]; simp; omega
theorem skip_no (zs : List Int) (i : Nat) (h : digB (at0 zs i) = false) : skip zs i = i := by
  unfold skip
  by_cases hl : i < zs.length
  · rw [drop_at zs i hl, run, h]; simp
  · rw [List.drop_of_length_le (by omega)]; simp [run]

theorem run_head (l : List Int) : digB ((l.drop (run l)).getD 0 0) = false := by
  induction l with
  | nil => simp [run, digB]
  | cons c cs ih =>
    rw [run]
    by_cases h : digB c = true
    · rw [if_pos h]; simpa using ih
    · rw [if_neg h]; simpa using h

theorem skip_head (zs : List Int) (i : Nat) : digB (at0 zs (skip zs i)) = false := by
  have := run_head (zs.drop i)
  unfold skip
  simpa [at0, List.getD, List.getElem?_drop] using this

/-- Go's table. -/
def mv (s c : Int) : Int :=
  if s = 0 then (if c = 45 then 1 else if c = 48 then 2 else if digB c then 3 else -1)
  else if s = 1 then (if c = 48 then 2 else if digB c then 3 else -1)
  else if s = 2 then (if c = 46 then 4 else if c = 101 ∨ c = 69 then 6 else -1)
  else if s = 3 then (if digB c then 3 else if c = 46 then 4 else if c = 101 ∨ c = 69 then 6 else -1)
  else if s = 4 then (if digB c then 5 else -1)
  else if s = 5 then (if digB c then 5 else if c = 101 ∨ c = 69 then 6 else -1)
  else if s = 6 then (if c = 43 ∨ c = 45 then 7 else if digB c then 8 else -1)
  else if s = 7 then (if digB c then 8 else -1)
  else if s = 8 then (if digB c then 8 else -1)
  else -1

theorem mv_zero (s : Int) : mv s 0 = -1 := by unfold mv digB; simp

theorem mv_range (s c : Int) (h : ¬ mv s c < 0) : 0 ≤ mv s c ∧ mv s c ≤ 8 := by
  revert h
  unfold mv
  repeat' split
  all_goals omega

/-- The automaton's last state, and how many bytes it took. -/
def aut (s : Int) : List Int → Int × Nat
  | [] => (s, 0)
  | c :: cs => if mv s c < 0 then (s, 0) else ((aut (mv s c) cs).1, (aut (mv s c) cs).2 + 1)

/-- The automaton from place i on: its last state, and where it stops. -/
def fin (s : Int) (zs : List Int) (i : Nat) : Int × Nat := ((aut s (zs.drop i)).1, i + (aut s (zs.drop i)).2)

theorem fin_step (s : Int) (zs : List Int) (i : Nat) : fin s zs i = if mv s (at0 zs i) < 0 then (s, i) else fin (mv s (at0 zs i)) zs (i + 1) := by
  unfold fin
  by_cases h : i < zs.length
  · rw [drop_at zs i h, aut]
    split
    · simp
    · simp; omega
  · rw [List.drop_of_length_le (by omega), getD_out _ _ (by omega), mv_zero]; rfl

theorem fin_no (s : Int) (zs : List Int) (i : Nat) (h : mv s (at0 zs i) = -1) : fin s zs i = (s, i) := by
  rw [fin_step, if_pos (by omega)]
theorem fin_go (s t : Int) (zs : List Int) (i : Nat) (h : mv s (at0 zs i) = t) (ht : 0 ≤ t) : fin s zs i = fin t zs (i + 1) := by
  rw [fin_step, h, if_neg (by omega)]

theorem fin_skip (s : Int) (hs : s = 3 ∨ s = 5 ∨ s = 8) (zs : List Int) (i : Nat) : fin s zs i = fin s zs (skip zs i) := by
  have H : ∀ m i, zs.length - i ≤ m → fin s zs i = fin s zs (skip zs i) := by
    intro m
    induction m with
    | zero =>
      intro i hi
      rw [skip_no zs i (by rw [getD_out _ _ (by omega)]; decide)]
    | succ m ih =>
      intro i hi
      by_cases h : digB (at0 zs i) = true
      · have hm : mv s (at0 zs i) = s := by rcases hs with rfl | rfl | rfl <;> simp [mv, h]
        rw [fin_go s s zs i hm (by omega), ← skip_yes zs i h]
        exact ih (i + 1) (by have := lt_of_dig zs i h; omega)
      · rw [skip_no zs i (by simpa using h)]
  exact H _ i (Nat.le_refl _)

theorem fin_dig (s : Int) (hs : s = 3 ∨ s = 5 ∨ s = 8) (zs : List Int) (i : Nat) (h : digB (at0 zs i) = true) : fin s zs (i + 1) = fin s zs (skip zs i) := by
  rw [fin_skip s hs zs (i + 1), skip_yes zs i h]

def acc (s : Int) : Prop := s = 2 ∨ s = 3 ∨ s = 5 ∨ s = 8

/-! ### 'validNumber', by places -/
def pI (zs : List Int) (i : Nat) : Nat := if at0 zs i = 45 then i + 1 else i
def qI (zs : List Int) (p : Nat) : Nat := if at0 zs p = 48 then p + 1 else skip zs p
def dE (zs : List Int) (r : Nat) : Nat := if at0 zs (r + 1) = 43 ∨ at0 zs (r + 1) = 45 then r + 2 else r + 1

/-- From behind the fraction, at r. -/
def endE (zs : List Int) (r : Nat) : Nat × Bool :=
  if at0 zs r = 101 ∨ at0 zs r = 69 then (if digB (at0 zs (dE zs r)) then (skip zs (dE zs r), true) else (dE zs r, false)) else (r, true)
/-- From behind the whole part, at q. -/
def endF (zs : List Int) (q : Nat) : Nat × Bool :=
  if at0 zs q = 46 then (if digB (at0 zs (q + 1)) then endE zs (skip zs (q + 1)) else (q + 1, false)) else endE zs q
def vn (zs : List Int) (i : Nat) : Nat × Bool :=
  if digB (at0 zs (pI zs i)) then endF zs (qI zs (pI zs i)) else (pI zs i, false)

/-- The automaton's answer is that one. -/
def Fits (a : Int × Nat) (v : Nat × Bool) : Prop := a.2 = v.1 ∧ (acc a.1 ↔ v.2 = true)

theorem fits_E (s : Int) (zs : List Int) (r : Nat) (ha : acc s)
    (h6 : (at0 zs r = 101 ∨ at0 zs r = 69) → mv s (at0 zs r) = 6) (hno : ¬ (at0 zs r = 101 ∨ at0 zs r = 69) → mv s (at0 zs r) = -1) :
    Fits (fin s zs r) (endE zs r) := by
  unfold endE
  by_cases hE : at0 zs r = 101 ∨ at0 zs r = 69
  · rw [if_pos hE, fin_go s 6 zs r (h6 hE) (by omega)]
    have key : ∃ u, (u = 6 ∨ u = 7) ∧ (u = 6 → ¬ (at0 zs (dE zs r) = 43 ∨ at0 zs (dE zs r) = 45)) ∧ fin 6 zs (r + 1) = fin u zs (dE zs r) := by
      unfold dE
      by_cases hs : at0 zs (r + 1) = 43 ∨ at0 zs (r + 1) = 45
      · rw [if_pos hs]
        exact ⟨7, by simp, by omega, fin_go 6 7 zs (r + 1) (by unfold mv; simp [hs]) (by omega)⟩
      · rw [if_neg hs]
        exact ⟨6, by simp, fun _ => hs, rfl⟩
    obtain ⟨u, hu, hns, e⟩ := key
    rw [e]
    by_cases h : digB (at0 zs (dE zs r)) = true
    · rw [if_pos h]
      have hm : mv u (at0 zs (dE zs r)) = 8 := by
        rcases hu with rfl | rfl
        · unfold mv; simp [h, hns rfl]
        · unfold mv; simp [h]
      rw [fin_go u 8 zs _ hm (by omega), fin_dig 8 (by simp) zs _ h, fin_no 8 zs _ (by unfold mv; simp [skip_head])]
      simp [Fits, acc]
    · rw [if_neg h]
      have h' : digB (at0 zs (dE zs r)) = false := by simpa using h
      have hm : mv u (at0 zs (dE zs r)) = -1 := by
        rcases hu with rfl | rfl
        · unfold mv; simp [h', hns rfl]
        · unfold mv; simp [h']
      rw [fin_no u zs _ hm]
      unfold Fits acc
      rcases hu with rfl | rfl <;> simp
  · rw [if_neg hE, fin_no s zs r (hno hE)]
    simp [Fits, ha]

theorem fits_F (s : Int) (hs : s = 2 ∨ s = 3) (zs : List Int) (q : Nat) (hq : s = 3 → digB (at0 zs q) = false) : Fits (fin s zs q) (endF zs q) := by
  unfold endF
  by_cases hp : at0 zs q = 46
  · rw [if_pos hp, fin_go s 4 zs q (by rw [hp]; rcases hs with rfl | rfl <;> decide) (by omega)]
    by_cases h : digB (at0 zs (q + 1)) = true
    · rw [if_pos h, fin_go 4 5 zs (q + 1) (by unfold mv; simp [h]) (by omega), fin_dig 5 (by simp) zs _ h]
      have hh := skip_head zs (q + 1)
      exact fits_E 5 zs _ (by simp [acc]) (by intro hE; unfold mv; simp [hh, hE]) (by intro hE; unfold mv; simp [hh, hE])
    · rw [if_neg h, fin_no 4 zs (q + 1) (by have h' : digB (at0 zs (q + 1)) = false := by simpa using h
                                            unfold mv; simp [h'])]
      simp [Fits, acc]
  · rw [if_neg hp]
    refine fits_E s zs q (by unfold acc; omega) ?_ ?_
    · intro hE; rcases hs with rfl | rfl
      · unfold mv; simp [hp, hE]
      · unfold mv; simp [hq rfl, hp, hE]
    · intro hE; rcases hs with rfl | rfl
      · unfold mv; simp [hp, hE]
      · unfold mv; simp [hq rfl, hp, hE]

theorem law (zs : List Int) (i : Nat) : Fits (fin 0 zs i) (vn zs i) := by
  unfold vn
  have key : ∃ u, (u = 0 ∨ u = 1) ∧ (u = 0 → at0 zs (pI zs i) ≠ 45) ∧ fin 0 zs i = fin u zs (pI zs i) := by
    unfold pI
    by_cases h : at0 zs i = 45
    · rw [if_pos h]
      exact ⟨1, by simp, by omega, fin_go 0 1 zs i (by rw [h]; decide) (by omega)⟩
    · rw [if_neg h]
      exact ⟨0, by simp, fun _ => h, rfl⟩
  obtain ⟨u, hu, hm, e⟩ := key
  rw [e]
  obtain ⟨p, hp⟩ : ∃ p, p = pI zs i := ⟨_, rfl⟩
  rw [← hp] at hm ⊢
  by_cases h : digB (at0 zs p) = true
  · rw [if_pos h]
    unfold qI
    by_cases h48 : at0 zs p = 48
    · rw [if_pos h48, fin_go u 2 zs p (by rw [h48]; rcases hu with rfl | rfl <;> decide) (by omega)]
      exact fits_F 2 (by simp) zs _ (by omega)
    · have hmv : mv u (at0 zs p) = 3 := by
        rcases hu with rfl | rfl
        · unfold mv; simp [h, h48, hm rfl]
        · unfold mv; simp [h, h48]
      rw [if_neg h48, fin_go u 3 zs p hmv (by omega), fin_dig 3 (by simp) zs p h]
      exact fits_F 3 (by simp) zs _ (fun _ => skip_head zs p)
  · have h' : digB (at0 zs p) = false := by simpa using h
    have h48 : ¬ at0 zs p = 48 := by intro e; rw [e] at h'; simp [digB] at h'
    have hmv : mv u (at0 zs p) = -1 := by
      rcases hu with rfl | rfl
      · unfold mv; simp [h', h48, hm rfl]
      · unfold mv; simp [h', h48]
    rw [if_neg h, fin_no u zs p hmv]
    unfold Fits acc
    rcases hu with rfl | rfl <;> simp
end Go.Proofs.Qxb6603727a.Num
