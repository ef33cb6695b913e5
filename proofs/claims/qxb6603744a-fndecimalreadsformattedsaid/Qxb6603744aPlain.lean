/-
  PLAIN MATHEMATICS OF A DECIMAL INTEGER: no Go in sight. Bytes are integers.
-/
namespace Go.Proofs.Qxb6603744a.Dec

def digB (c : Int) : Bool := decide (48 ≤ c) && decide (c ≤ 57)

theorem digB_iff (c : Int) : digB c = true ↔ 48 ≤ c ∧ c ≤ 57 := by
  unfold digB; simp

def allD : List Int → Bool
  | [] => true
  | c :: cs => digB c && allD cs

/-- The byte at place i; 0 where there is none. -/
def at0 (zs : List Int) (i : Nat) : Int := zs.getD i 0

theorem at0_getD (zs : List Int) (i : Nat) : at0 zs i = zs.getD i 0 := rfl
theorem getD_out (zs : List Int) (i : Nat) (h : zs.length ≤ i) : at0 zs i = 0 := by simp [at0, List.getD, h]
theorem drop_at (zs : List Int) (i : Nat) (h : i < zs.length) : zs.drop i = at0 zs i :: zs.drop (i + 1) := by
  rw [List.drop_eq_getElem_cons h]; simp [at0, List.getD, h]
theorem take_at (zs : List Int) (i : Nat) (h : i < zs.length) : zs.take (i + 1) = zs.take i ++ [at0 zs i] := by
  rw [List.take_succ_eq_append_getElem h]; simp [at0, List.getD, h]

/-- 10 to the k. -/
def p10 : Nat → Int
  | 0 => 1
  | k + 1 => 10 * p10 k

theorem p10_pos (k : Nat) : 1 ≤ p10 k := by
  induction k with
  | zero => simp [p10]
  | succ k ih => simp only [p10]; omega

theorem p10_mono (a b : Nat) (h : a ≤ b) : p10 a ≤ p10 b := by
  induction b with
  | zero => obtain rfl : a = 0 := by omega
            exact Int.le_refl _
  | succ b ih =>
    by_cases e : a = b + 1
    · rw [e]; exact Int.le_refl _
    · have := ih (by omega); have := p10_pos b; simp only [p10]; omega

theorem p10_17 : p10 17 = 100000000000000000 := by decide
theorem p10_18 : p10 18 = 1000000000000000000 := by decide
theorem p10_19 : p10 19 = 10000000000000000000 := by decide
theorem p10_20 : p10 20 = 100000000000000000000 := by decide

/-- The value of digits, read from the left. -/
def valF (a : Int) : List Int → Int
  | [] => a
  | c :: cs => valF (a * 10 + (c - 48)) cs
def val (l : List Int) : Int := valF 0 l

theorem valF_append (a : Int) (l : List Int) (c : Int) : valF a (l ++ [c]) = valF a l * 10 + (c - 48) := by
  induction l generalizing a with
  | nil => rfl
  | cons x xs ih => simp only [List.cons_append, valF]; exact ih _

theorem val_snoc (l : List Int) (c : Int) : val (l ++ [c]) = val l * 10 + (c - 48) := valF_append 0 l c

theorem valF_split (a : Int) (l : List Int) : valF a l = a * p10 l.length + val l := by
  induction l generalizing a with
  | nil => simp [valF, val, p10]
  | cons x xs ih =>
    have e1 : valF a (x :: xs) = (a * 10 + (x - 48)) * p10 xs.length + val xs := by simp only [valF]; exact ih _
    have e2 : val (x :: xs) = (0 * 10 + (x - 48)) * p10 xs.length + val xs := by unfold val; simp only [valF]; exact ih _
    rw [e1, e2]
    simp only [List.length_cons, p10, Int.add_mul, Int.mul_assoc]
    omega

theorem val_cons (c : Int) (l : List Int) : val (c :: l) = (c - 48) * p10 l.length + val l := by
  have := valF_split (0 * 10 + (c - 48)) l
  unfold val at this ⊢
  simp only [valF]
  rw [this]
  simp

theorem allD_append (a b : List Int) : allD (a ++ b) = (allD a && allD b) := by
  induction a with
  | nil => simp [allD]
  | cons x xs ih => simp [allD, ih, Bool.and_assoc]

theorem val_bd (l : List Int) (h : allD l = true) : 0 ≤ val l ∧ val l < p10 l.length := by
  induction l with
  | nil => simp [val, valF, p10]
  | cons c cs ih =>
    simp only [allD, Bool.and_eq_true] at h
    obtain ⟨h1, h2⟩ := ih h.2
    have hd := (digB_iff c).1 h.1
    rw [val_cons]
    simp only [List.length_cons, p10]
    have hp := p10_pos cs.length
    have hc : c - 48 = 0 ∨ c - 48 = 1 ∨ c - 48 = 2 ∨ c - 48 = 3 ∨ c - 48 = 4 ∨ c - 48 = 5 ∨ c - 48 = 6 ∨ c - 48 = 7 ∨ c - 48 = 8 ∨ c - 48 = 9 := by omega
    rcases hc with e | e | e | e | e | e | e | e | e | e <;> rw [e] <;> constructor <;> omega

theorem take_allD (l : List Int) (k : Nat) (h : allD l = true) : allD (l.take k) = true := by
  induction l generalizing k with
  | nil => simp [allD]
  | cons c cs ih =>
    simp only [allD, Bool.and_eq_true] at h
    cases k with
    | zero => simp [allD]
    | succ k => simp [allD, h.1, ih k h.2]

/-! ### What 'decimal' reads -/
def body (zs : List Int) : List Int := if at0 zs 0 = 45 then zs.drop 1 else zs
def okB (l : List Int) : Bool := decide (0 < l.length) && decide (l.length ≤ 18) && allD l
def sgn (zs : List Int) (v : Int) : Int := if at0 zs 0 = 45 then -v else v
def dec (zs : List Int) : Int × Bool := if okB (body zs) then (sgn zs (val (body zs)), true) else (0, false)

/-! ### The digits of a number -/
def digs : Nat → Int → List Int
  | 0, _ => []
  | f + 1, m => if m < 10 then [48 + m] else digs f (m / 10) ++ [48 + m % 10]

theorem digs_all (f : Nat) (m : Int) (h : 0 ≤ m) : allD (digs f m) = true := by
  induction f generalizing m with
  | zero => rfl
  | succ f ih =>
    rw [digs]
    split
    · simp [allD, digB]; omega
    · rw [allD_append, ih (m / 10) (by omega)]
      simp [allD, digB]; omega

theorem digs_val (f : Nat) (m : Int) (h : 0 ≤ m) (hm : m < p10 f) : val (digs f m) = m := by
  induction f generalizing m with
  | zero => simp [p10] at hm; simp [digs, val, valF]; omega
  | succ f ih =>
    rw [digs]
    split
    · simp [val, valF]; omega
    · have hm' : m / 10 < p10 f := by simp only [p10] at hm; omega
      rw [val_snoc, ih (m / 10) (by omega) hm']
      omega

/-- How long the digits are: as long as they must be. -/
theorem digs_len (f : Nat) (m : Int) (h : 0 ≤ m) (hm : m < p10 f) (hf : 0 < f) : 1 ≤ (digs f m).length ∧ (digs f m).length ≤ f ∧ m < p10 (digs f m).length ∧ (2 ≤ (digs f m).length → p10 ((digs f m).length - 1) ≤ m) := by
  induction f generalizing m with
  | zero => omega
  | succ f ih =>
    rw [digs]
    split
    · simp [p10]; omega
    · have hm' : m / 10 < p10 f := by simp only [p10] at hm; omega
      have hf' : 0 < f := by
        apply Classical.byContradiction; intro hn
        obtain rfl : f = 0 := by omega
        simp [p10] at hm'; omega
      obtain ⟨h1, h2, h3, h4⟩ := ih (m / 10) (by omega) hm' hf'
      simp only [List.length_append, List.length_cons, List.length_nil]
      refine ⟨by omega, by omega, ?_, ?_⟩
      · simp only [p10]; omega
      · intro _
        simp only [Nat.zero_add, Nat.add_sub_cancel]
        by_cases e : 2 ≤ (digs f (m / 10)).length
        · have := h4 e
          have e2 : (digs f (m / 10)).length = ((digs f (m / 10)).length - 1) + 1 := by omega
          rw [e2]
          simp only [p10]
          omega
        · have e1 : (digs f (m / 10)).length = 1 := by omega
          rw [e1]
          simp [p10]
          omega

theorem digs_18 (m : Int) (h : 0 ≤ m) (hm : m < p10 20) : (digs 20 m).length ≤ 18 ↔ m < 1000000000000000000 := by
  obtain ⟨h1, h2, h3, h4⟩ := digs_len 20 m h hm (by omega)
  constructor
  · intro hl
    have := p10_mono _ 18 hl
    rw [p10_18] at this
    omega
  · intro hl
    apply Classical.byContradiction; intro hn
    have h5 := h4 (by omega)
    have := p10_mono 18 ((digs 20 m).length - 1) (by omega)
    rw [p10_18] at this
    omega

/-- The text of a number: its sign, its digits. -/
def mag (n : Int) : Int := if n < 0 then -n else n
def fmt (n : Int) : List Int := if n < 0 then 45 :: digs 20 (mag n) else digs 20 (mag n)

theorem digs_head (f : Nat) (m : Int) (h : 0 ≤ m) : at0 (digs f m) 0 ≠ 45 := by
  have ha := digs_all f m h
  cases hd : digs f m with
  | nil => simp [at0]
  | cons c cs =>
    rw [hd] at ha
    simp only [allD, Bool.and_eq_true] at ha
    have := (digB_iff c).1 ha.1
    simp [at0]
    omega

theorem dec_fmt (n : Int) (h1 : -9223372036854775808 ≤ n) (h2 : n ≤ 9223372036854775807) :
    dec (fmt n) = if -1000000000000000000 < n ∧ n < 1000000000000000000 then (n, true) else (0, false) := by
  have hm0 : 0 ≤ mag n := by unfold mag; split <;> omega
  have hm1 : mag n < p10 20 := by rw [p10_20]; unfold mag; split <;> omega
  have hl := digs_len 20 (mag n) hm0 hm1 (by omega)
  have h18 := digs_18 (mag n) hm0 hm1
  have hv := digs_val 20 (mag n) hm0 hm1
  have ha := digs_all 20 (mag n) hm0
  have hb : body (fmt n) = digs 20 (mag n) := by
    unfold body fmt
    by_cases hn : n < 0
    · rw [if_pos hn]; simp [at0]
    · rw [if_neg hn, if_neg (digs_head 20 (mag n) hm0)]
  have hs : ∀ v, sgn (fmt n) v = if n < 0 then -v else v := by
    intro v
    unfold sgn fmt
    by_cases hn : n < 0
    · rw [if_pos hn, if_pos hn]; simp [at0]
    · rw [if_neg hn, if_neg hn, if_neg (digs_head 20 (mag n) hm0)]
  have hiff : okB (digs 20 (mag n)) = true ↔ (-1000000000000000000 < n ∧ n < 1000000000000000000) := by
    unfold okB
    have h0 : 0 < (digs 20 (mag n)).length := hl.1
    rw [ha, decide_eq_true h0]
    simp only [Bool.and_true, Bool.true_and, decide_eq_true_eq, h18]
    unfold mag
    split <;> omega
  unfold dec
  rw [hb, hs, hv]
  by_cases hr : -1000000000000000000 < n ∧ n < 1000000000000000000
  · rw [if_pos (hiff.2 hr), if_pos hr]
    unfold mag
    split <;> simp
  · rw [if_neg (fun h => hr (hiff.1 h)), if_neg hr]
end Go.Proofs.Qxb6603744a.Dec
