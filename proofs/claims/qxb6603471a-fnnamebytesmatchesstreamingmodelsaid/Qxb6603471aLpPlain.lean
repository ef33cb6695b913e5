/-
  PLAIN MATHEMATICS OF A LINE-PROTOCOL NAME: no Go in sight. Bytes are integers; E: the bytes that can be escaped, D: the bytes that end a name.
-/
import Derived.Test.Qxb6603471aJsonPlain
namespace Go.Proofs.Qxb6603471a.Lp
open Json (at0 seg drop_at getD_out)

def bs (k : Nat) : List Int := List.replicate k 92

theorem bs_len (k : Nat) : (bs k).length = k := by simp [bs]
theorem bs_zero : bs 0 = [] := rfl
theorem bs_snoc (k : Nat) : bs k ++ [92] = bs (k + 1) := by simp [bs, List.replicate_succ']

/-- The streaming decoder: k backslashes are not settled yet. What it writes, the byte that ends the name, how many bytes it takes. -/
def md (E D : Int → Bool) : List Int → Nat → List Int × Int × Nat
  | [], k => (bs k, 0, 0)
  | c :: cs, k =>
    if c = 92 then ((md E D cs (k + 1)).1, (md E D cs (k + 1)).2.1, (md E D cs (k + 1)).2.2 + 1)
    else if E c = true ∧ k % 2 = 1 then (bs (k / 2) ++ (c :: (md E D cs 0).1), (md E D cs 0).2.1, (md E D cs 0).2.2 + 1)
    else if D c = true then ((if E c = true then bs (k / 2) else bs k), c, 0)
    else ((if E c = true then bs (k / 2) else bs k) ++ (c :: (md E D cs 0).1), (md E D cs 0).2.1, (md E D cs 0).2.2 + 1)

/-- From place i on; the last number is the place where it stops. -/
def mda (E D : Int → Bool) (zs : List Int) (i k : Nat) : List Int × Int × Nat := ((md E D (zs.drop i) k).1, (md E D (zs.drop i) k).2.1, i + (md E D (zs.drop i) k).2.2)

/-- Bytes written ahead of what is still to come. -/
def ahead (l : List Int) (r : List Int × Int × Nat) : List Int × Int × Nat := (l ++ r.1, r.2.1, r.2.2)

theorem ahead_nil (r : List Int × Int × Nat) : ahead [] r = r := by simp [ahead]
theorem ahead_ahead (a b : List Int) (r : List Int × Int × Nat) : ahead a (ahead b r) = ahead (a ++ b) r := by simp [ahead]

section
variable (E D : Int → Bool) (zs : List Int)

theorem mda_out (i k : Nat) (h : zs.length ≤ i) : mda E D zs i k = (bs k, 0, i) := by
  unfold mda; rw [List.drop_of_length_le h]; simp [md]

theorem mda_bs (i k : Nat) (h : i < zs.length) (hc : at0 zs i = 92) : mda E D zs i k = mda E D zs (i + 1) (k + 1) := by
  unfold mda; rw [drop_at zs i h, md, if_pos hc]; simp; omega

theorem mda_odd (i k : Nat) (h : i < zs.length) (hc : ¬ at0 zs i = 92) (he : E (at0 zs i) = true) (hk : k % 2 = 1) :
    mda E D zs i k = ahead (bs (k / 2) ++ [at0 zs i]) (mda E D zs (i + 1) 0) := by
  unfold mda ahead; rw [drop_at zs i h, md, if_neg hc, if_pos ⟨he, hk⟩]; simp; omega

theorem mda_even (i k : Nat) (h : i < zs.length) (hc : ¬ at0 zs i = 92) (he : E (at0 zs i) = true) (hk : ¬ k % 2 = 1) :
    mda E D zs i k = ahead (bs (k / 2)) (mda E D zs i 0) := by
  unfold mda ahead
  rw [drop_at zs i h]
  have hk' : k % 2 = 0 := by omega
  by_cases hd : D (at0 zs i) = true <;> simp [md, hc, he, hk', hd, bs]

theorem mda_plain (i k : Nat) (h : i < zs.length) (hc : ¬ at0 zs i = 92) (he : E (at0 zs i) = false) :
    mda E D zs i k = ahead (bs k) (mda E D zs i 0) := by
  unfold mda ahead
  rw [drop_at zs i h]
  by_cases hd : D (at0 zs i) = true <;> simp [md, hc, he, hd, bs]

theorem mda_end (i : Nat) (h : i < zs.length) (hc : ¬ at0 zs i = 92) (hd : D (at0 zs i) = true) : mda E D zs i 0 = ([], at0 zs i, i) := by
  unfold mda
  rw [drop_at zs i h, md, if_neg hc, if_neg (by omega), if_pos hd]
  simp [bs]

theorem mda_go (i : Nat) (h : i < zs.length) (hc : ¬ at0 zs i = 92) (hd : D (at0 zs i) = false) : mda E D zs i 0 = ahead [at0 zs i] (mda E D zs (i + 1) 0) := by
  unfold mda ahead
  rw [drop_at zs i h, md, if_neg hc, if_neg (by omega), if_neg (by simp [hd])]
  simp [bs]
  omega

/-- At the end of the text. -/
theorem mda_last (i k : Nat) (h : zs.length ≤ i) : mda E D zs i k = ahead (bs k) (mda E D zs i 0) := by
  rw [mda_out E D zs i k h, mda_out E D zs i 0 h]; simp [ahead, bs]
end

theorem md_len (E D : Int → Bool) (l : List Int) (k : Nat) : (md E D l k).1.length ≤ k + (md E D l k).2.2 ∧ (md E D l k).2.2 ≤ l.length := by
  induction l generalizing k with
  | nil => simp [md, bs]
  | cons c cs ih =>
    rw [md]
    have h1 := ih (k + 1)
    have h0 := ih 0
    split
    · simp; omega
    · split
      · simp [bs]; omega
      · split
        · split <;> simp [bs] <;> omega
        · split <;> simp [bs] <;> omega

theorem mda_len (E D : Int → Bool) (zs : List Int) (i : Nat) (h : i ≤ zs.length) : (mda E D zs i 0).1.length ≤ zs.length - i ∧ i ≤ (mda E D zs i 0).2.2 ∧ (mda E D zs i 0).2.2 ≤ zs.length := by
  have := md_len E D (zs.drop i) 0
  unfold mda
  simp at this ⊢
  omega

theorem seg_snoc (zs : List Int) (i j : Nat) (hij : i ≤ j) (h : j < zs.length) : seg zs i (j + 1) = seg zs i j ++ [at0 zs j] := by
  unfold seg
  rw [show j + 1 - i = (j - i) + 1 by omega, List.take_succ_eq_append_getElem (by simp; omega)]
  congr 1
  simp [at0, List.getD, show i + (j - i) = j by omega, h]

/-- A run of backslashes. -/
theorem seg_run (zs : List Int) (i m : Nat) (hm : i + m ≤ zs.length) (h : ∀ j, j < m → at0 zs (i + j) = 92) : seg zs i (i + m) = bs m := by
  induction m with
  | zero => simp [seg, bs]
  | succ m ih =>
    rw [show i + (m + 1) = (i + m) + 1 by omega, seg_snoc zs i (i + m) (by omega) (by omega), ih (by omega) (fun j hj => h j (by omega)), h m (by omega), bs_snoc]

theorem seg_append (zs : List Int) (i j k : Nat) (hij : i ≤ j) (hjk : j ≤ k) : seg zs i k = seg zs i j ++ seg zs j k := by
  unfold seg
  rw [show k - i = (j - i) + (k - j) by omega, List.take_add, List.drop_drop, show i + (j - i) = j by omega]

end Go.Proofs.Qxb6603471a.Lp
