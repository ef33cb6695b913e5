/-
  PLAIN MATHEMATICS OF A JSON NUMBER: no Go in sight. Bytes are integers.
-/
namespace Go.Proofs.Qxb6603471a.Json

def digB (c : Int) : Bool := decide (48 ≤ c) && decide (c ≤ 57)

theorem digB_iff (c : Int) : digB c = true ↔ 48 ≤ c ∧ c ≤ 57 := by
  unfold digB; simp

/-- The byte at place i; 0 where there is none (0 is no byte of a number). -/
def at0 (zs : List Int) (i : Nat) : Int := zs.getD i 0

theorem at0_getD (zs : List Int) (i : Nat) : at0 zs i = zs.getD i 0 := rfl
theorem at0_some (zs : List Int) (i : Nat) : at0 zs i = zs[i]?.getD 0 := by simp [at0]

/-- How many digits stand at the head. -/
def run : List Int → Nat
  | [] => 0
  | c :: cs => if digB c then run cs + 1 else 0

theorem run_le (l : List Int) : run l ≤ l.length := by
  induction l with
  | nil => simp [run]
  | cons c cs ih => simp only [run]; split <;> simp <;> omega

/-- The place of the first byte from i on that is no digit. -/
def skip (zs : List Int) (i : Nat) : Nat := i + run (zs.drop i)

theorem skip_ge (zs : List Int) (i : Nat) : i ≤ skip zs i := by unfold skip; omega
theorem skip_le (zs : List Int) (i : Nat) (h : i ≤ zs.length) : skip zs i ≤ zs.length := by
  unfold skip; have := run_le (zs.drop i); simp at this; omega
theorem drop_at (zs : List Int) (i : Nat) (h : i < zs.length) : zs.drop i = at0 zs i :: zs.drop (i + 1) := by
  rw [List.drop_eq_getElem_cons h]; simp [at0, List.getD, h]
theorem skip_step (zs : List Int) (i : Nat) (h : i < zs.length) (h1 : 48 ≤ at0 zs i) (h2 : at0 zs i ≤ 57) : skip zs (i + 1) = skip zs i := by
  unfold skip; rw [drop_at zs i h, run, (digB_iff _).2 ⟨h1, h2⟩]; simp; omega
theorem skip_stop (zs : List Int) (i : Nat) (h : i < zs.length) (h1 : ¬ (48 ≤ at0 zs i ∧ at0 zs i ≤ 57)) : skip zs i = i := by
  unfold skip
  have : digB (at0 zs i) = false := by
    cases e : digB (at0 zs i) with
    | false => rfl
    | true => exact absurd ((digB_iff _).1 e) h1
  rw [drop_at zs i h, run, this]; simp
theorem skip_end (zs : List Int) (i : Nat) (h : zs.length ≤ i) : skip zs i = i := by
  unfold skip; rw [List.drop_of_length_le h]; simp [run]

/-- Go's table. -/
def mv (s c : Int) : Int :=
  if s = 0 ∨ s = 1 then (if s = 0 ∧ c = 45 then 1 else if c = 48 then 2 else if digB c then 3 else -1)
  else if s = 2 then (if c = 46 then 4 else if c = 101 ∨ c = 69 then 6 else -1)
  else if s = 3 then (if digB c then 3 else if c = 46 then 4 else if c = 101 ∨ c = 69 then 6 else -1)
  else if s = 4 ∨ s = 5 then (if digB c then 5 else if s = 5 ∧ (c = 101 ∨ c = 69) then 6 else -1)
  else if s = 6 then (if c = 43 ∨ c = 45 then 7 else if digB c then 8 else -1)
  else if s = 7 ∨ s = 8 then (if digB c then 8 else -1)
  else -1

/-- The automaton's answer: the state in which it stands, how many bytes it took, what it gathered. -/
structure Aut where
  s : Int
  k : Nat
  i : List Int
  f : List Int
  e : List Int

def Aut.push (t c : Int) (r : Aut) : Aut :=
  { s := r.s, k := r.k + 1,
    i := if t = 2 ∨ t = 3 then c :: r.i else r.i,
    f := if t = 5 then c :: r.f else r.f,
    e := if t = 7 ∨ t = 8 then c :: r.e else r.e }

def aut (s : Int) : List Int → Aut
  | [] => { s := s, k := 0, i := [], f := [], e := [] }
  | c :: cs => if mv s c < 0 then { s := s, k := 0, i := [], f := [], e := [] } else (aut (mv s c) cs).push (mv s c) c

/-- What has been gathered ahead, then an answer. -/
def Aut.behind (k : Nat) (i f e : List Int) (r : Aut) : Aut := { s := r.s, k := k + r.k, i := i ++ r.i, f := f ++ r.f, e := e ++ r.e }

theorem behind_push (k : Nat) (i f e : List Int) (t c : Int) (r : Aut) :
    Aut.behind k i f e (r.push t c) = Aut.behind (k + 1) (if t = 2 ∨ t = 3 then i ++ [c] else i) (if t = 5 then f ++ [c] else f) (if t = 7 ∨ t = 8 then e ++ [c] else e) r := by
  unfold Aut.behind Aut.push
  congr 1
  · simp; omega
  · simp only; split <;> simp
  · simp only; split <;> simp
  · simp only; split <;> simp

theorem getD_out (zs : List Int) (i : Nat) (h : zs.length ≤ i) : at0 zs i = 0 := by simp [at0, List.getD, h]

theorem mv_zero (s : Int) : mv s 0 = -1 := by unfold mv digB; simp

def stop (s : Int) : Aut := { s := s, k := 0, i := [], f := [], e := [] }

theorem aut_step (s : Int) (zs : List Int) (i : Nat) :
    aut s (zs.drop i) = if mv s (at0 zs i) < 0 then stop s else (aut (mv s (at0 zs i)) (zs.drop (i + 1))).push (mv s (at0 zs i)) (at0 zs i) := by
  by_cases h : i < zs.length
  · rw [drop_at zs i h, aut]; rfl
  · rw [List.drop_of_length_le (by omega), getD_out _ _ (by omega), mv_zero]; rfl

theorem aut_run (s : Int) (hs : s = 3 ∨ s = 5 ∨ s = 8) (l : List Int) :
    aut s l = Aut.behind (run l) (if s = 3 then l.take (run l) else []) (if s = 5 then l.take (run l) else []) (if s = 8 then l.take (run l) else []) (aut s (l.drop (run l))) := by
  induction l with
  | nil => rcases hs with rfl | rfl | rfl <;> simp [aut, Aut.behind, run]
  | cons c cs ih =>
    by_cases h : digB c = true
    · have hm : mv s c = s := by rcases hs with rfl | rfl | rfl <;> simp [mv, h]
      have hn : ¬ s < 0 := by omega
      rw [run, if_pos h, aut, hm, if_neg hn, ih]
      rcases hs with rfl | rfl | rfl <;> simp [Aut.push, Aut.behind] <;> omega
    · rw [run, if_neg h]; simp [Aut.behind]

def seg (zs : List Int) (i j : Nat) : List Int := (zs.drop i).take (j - i)

theorem seg_cons (zs : List Int) (i j : Nat) (h : i < zs.length) (hj : i < j) : seg zs i j = at0 zs i :: seg zs (i + 1) j := by
  unfold seg; rw [drop_at zs i h, show j - i = (j - (i + 1)) + 1 by omega, List.take_succ_cons]

theorem seg_nil (zs : List Int) (i : Nat) : seg zs i i = [] := by simp [seg]

theorem seg_length (zs : List Int) (i j : Nat) (h : i ≤ j) (hj : j ≤ zs.length) : (seg zs i j).length = j - i := by
  simp [seg]; omega

theorem seg_getD (zs : List Int) (i j k : Nat) (hk : i + k < j) : (seg zs i j).getD k 0 = at0 zs (i + k) := by
  unfold seg
  simp [at0, List.getD, show k < j - i by omega]

theorem aut_skip (s : Int) (hs : s = 3 ∨ s = 5 ∨ s = 8) (zs : List Int) (i : Nat) :
    aut s (zs.drop i) = Aut.behind (skip zs i - i) (if s = 3 then seg zs i (skip zs i) else []) (if s = 5 then seg zs i (skip zs i) else []) (if s = 8 then seg zs i (skip zs i) else []) (aut s (zs.drop (skip zs i))) := by
  rw [aut_run s hs (zs.drop i)]
  unfold skip seg
  rw [List.drop_drop, show i + run (zs.drop i) - i = run (zs.drop i) by omega]

theorem run_head (l : List Int) : digB ((l.drop (run l)).getD 0 0) = false := by
  induction l with
  | nil => simp [run, digB]
  | cons c cs ih =>
    rw [run]
    by_cases h : digB c = true
    · rw [if_pos h]; simpa using ih
    · rw [if_neg h]; simpa using h

theorem skip_head (zs : List Int) (i : Nat) : digB (at0 zs (skip zs i)) = false := by
  have := run_head (zs.drop i)
  unfold skip
  simpa [at0, List.getD, List.getElem?_drop] using this

theorem skip_dig (zs : List Int) (i : Nat) (h : digB (at0 zs i) = true) : i < zs.length ∧ skip zs (i + 1) = skip zs i ∧ i + 1 ≤ skip zs i := by
  have hl : i < zs.length := by
    apply Classical.byContradiction; intro hn
    rw [getD_out _ _ (by omega)] at h; simp [digB] at h
  have := (digB_iff _).1 h
  have e := skip_step zs i hl this.1 this.2
  exact ⟨hl, e, by rw [← e]; exact skip_ge _ _⟩

theorem skip_not (zs : List Int) (i : Nat) (h : digB (at0 zs i) = false) : skip zs i = i := by
  by_cases hl : i < zs.length
  · exact skip_stop zs i hl fun h' => by rw [(digB_iff _).2 h'] at h; cases h
  · exact skip_end zs i (by omega)

/-- The digits at i, with the byte ahead of them: the automaton in a state that gathers digits. -/
theorem aut_dig (s : Int) (hs : s = 3 ∨ s = 5 ∨ s = 8) (zs : List Int) (i : Nat) (h : digB (at0 zs i) = true) :
    (aut s (zs.drop (i + 1))).push s (at0 zs i) = Aut.behind (skip zs i - i) (if s = 3 then seg zs i (skip zs i) else []) (if s = 5 then seg zs i (skip zs i) else []) (if s = 8 then seg zs i (skip zs i) else []) (aut s (zs.drop (skip zs i))) := by
  obtain ⟨hl, e, hle⟩ := skip_dig zs i h
  rw [aut_skip s hs, e, seg_cons zs i _ hl (by omega)]
  rcases hs with rfl | rfl | rfl <;> simp [Aut.push, Aut.behind] <;> omega

/-! ### The parser, by places -/
def pI (zs : List Int) : Nat := if at0 zs 0 = 45 then 1 else 0
def qI (zs : List Int) : Nat := if at0 zs (pI zs) = 48 then pI zs + 1 else skip zs (pI zs)
def rF (zs : List Int) : Nat := if at0 zs (qI zs) = 46 then skip zs (qI zs + 1) else qI zs
def dE (zs : List Int) : Nat := if at0 zs (rF zs + 1) = 43 ∨ at0 zs (rF zs + 1) = 45 then rF zs + 2 else rF zs + 1
def tE (zs : List Int) : Nat := if at0 zs (rF zs) = 101 ∨ at0 zs (rF zs) = 69 then skip zs (dE zs) else rF zs

/-- One of Go's three refusals. -/
def bad (zs : List Int) : Prop := qI zs = pI zs ∨ (at0 zs (qI zs) = 46 ∧ rF zs = qI zs + 1) ∨ ((at0 zs (rF zs) = 101 ∨ at0 zs (rF zs) = 69) ∧ tE zs = dE zs)

def intP (zs : List Int) : List Int := seg zs (pI zs) (qI zs)
def fracP (zs : List Int) : List Int := if at0 zs (qI zs) = 46 then seg zs (qI zs + 1) (rF zs) else []
def expP (zs : List Int) : List Int := if at0 zs (rF zs) = 101 ∨ at0 zs (rF zs) = 69 then seg zs (rF zs + 1) (tE zs) else []

def acc (s : Int) : Prop := s = 2 ∨ s = 3 ∨ s = 5 ∨ s = 8

end Go.Proofs.Qxb6603471a.Json
