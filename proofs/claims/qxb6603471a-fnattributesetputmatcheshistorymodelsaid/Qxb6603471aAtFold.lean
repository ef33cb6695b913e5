import Derived.Test.Qxb6603471aAtOps
import Derived.Test.Qxb6603471aAtSame
namespace Go.Proofs.Qxb6603471a
open Go.RowKit Go.Maps
set_option linter.unusedSimpArgs false
set_option linter.unusedVariables false

theorem bor_eq (a b : Int) : bor a b = (((BitVec.ofInt 8 a ||| BitVec.ofInt 8 b).toNat : Nat) : Int) := by
  unfold bor bits
  have h : (BitVec.ofInt 8 a ||| BitVec.ofInt 8 b).toNat < 256 := (BitVec.ofInt 8 a ||| BitVec.ofInt 8 b).isLt
  show IntKind.u8.wrap (((BitVec.ofInt 8 a ||| BitVec.ofInt 8 b).toNat : Nat) : Int) = _
  exact IntWalk.u8_in _ (by omega)

theorem ofInt_bor (a b : Int) : BitVec.ofInt 8 (bor a b) = BitVec.ofInt 8 a ||| BitVec.ofInt 8 b := by
  rw [bor_eq, BitVec.ofInt_natCast, BitVec.ofNat_toNat, BitVec.setWidth_eq]

theorem bor_comm (a b : Int) : bor a b = bor b a := by rw [bor_eq, bor_eq, BitVec.or_comm]
theorem bor_assoc (a b c : Int) : bor (bor a b) c = bor a (bor b c) := by rw [bor_eq, ofInt_bor, bor_eq a, ofInt_bor, BitVec.or_assoc]

/-- what a set holds of a key -/
def lk (es : List Ent) (k : ByteArray) : Option Ent := (findE es k).map fun i => es.getD i default

theorem findE_set_same {es : List Ent} {i : Nat} (hi : i < es.length) {e' : Ent} (h : e'.key = es[i].key) (k : ByteArray) : findE (es.set i e') k = findE es k := findE_keys (set_keys es i hi e' h) k

theorem lk_put (es : List Ent) (p : Put) (k : ByteArray) : lk (putE es p) k = if p.key = k then some (match lk es k with | none => fresh p | some e => merge e p) else lk es k := by
  unfold putE
  cases hf : findE es p.key with
  | some i =>
    obtain ⟨hi, hk, _⟩ := findE_some hf
    have eg : es.getD i default = es[i] := by simp [List.getD, hi]
    dsimp only
    have hm : (merge (es.getD i default) p).key = es[i].key := by rw [merge_key, eg]
    unfold lk
    rw [findE_set_same hi hm]
    by_cases hpk : p.key = k
    · subst hpk
      rw [hf, if_pos rfl]
      simp [List.getD, hi]
    · rw [if_neg hpk]
      cases hf' : findE es k with
      | none => rfl
      | some j =>
        obtain ⟨hj, hkj, _⟩ := findE_some hf'
        have hij : i ≠ j := by
          rintro rfl
          exact hpk (hk.symm.trans hkj)
        simp [List.getD, List.getElem?_set_ne hij]
  | none =>
    dsimp only
    unfold lk
    rw [findE_append]
    by_cases hpk : p.key = k
    · subst hpk
      rw [hf, if_pos rfl, if_pos (show (fresh p).key = p.key from rfl)]
      simp [List.getD]
    · rw [if_neg hpk, if_neg (show ¬ (fresh p).key = k from hpk)]
      cases hf' : findE es k with
      | none => rfl
      | some j =>
        obtain ⟨hj, _, _⟩ := findE_some hf'
        simp [List.getD, List.getElem?_append_left hj]

/-- one put, seen from a key -/
def stp (k : ByteArray) (o : Option Ent) (p : Put) : Option Ent := if p.key = k then some (match o with | none => fresh p | some e => merge e p) else o

theorem lk_putL (k : ByteArray) : ∀ (L : List Put) (es : List Ent), lk (putL es L) k = L.foldl (stp k) (lk es k)
  | [], es => rfl
  | p :: r, es => by
    have e : putL es (p :: r) = putL (putE es p) r := rfl
    rw [e, lk_putL k r, List.foldl_cons, lk_put]
    rfl

def jn (e f : Ent) : Ent := if f.rank < e.rank then { e with held := bor e.held f.held } else ⟨e.key, f.ty, f.str, f.int, f.rank, bor e.held f.held⟩
def jnO : Option Ent → Option Ent → Option Ent
  | none, y => y
  | some e, none => some e
  | some e, some f => some (jn e f)

theorem jn_merge (e f : Ent) (p : Put) : merge (jn e f) p = jn e (merge f p) := by
  unfold merge jn
  by_cases h1 : f.rank < e.rank
  · simp only [h1, if_true]
    by_cases h2 : p.rank < f.rank
    · simp only [h2, if_true, h1, show p.rank < e.rank by omega, bor_assoc]
    · simp only [h2, if_false]
      by_cases h3 : p.rank < e.rank
      · simp only [h3, if_true, bor_assoc]
      · simp only [h3, if_false, bor_assoc]
  · simp only [h1, if_false]
    by_cases h2 : p.rank < f.rank
    · simp only [h2, if_true, h1, if_false, bor_assoc]
    · simp only [h2, if_false, show ¬ p.rank < e.rank by omega, bor_assoc]

theorem jn_fresh (e : Ent) (p : Put) : merge e p = jn e (fresh p) := by
  unfold merge jn fresh
  by_cases h : p.rank < e.rank <;> simp [h]

theorem stp_jn (k : ByteArray) (o y : Option Ent) (p : Put) : stp k (jnO o y) p = jnO o (stp k y p) := by
  unfold stp
  by_cases h : p.key = k
  · simp only [if_pos h]
    cases o with
    | none => rfl
    | some e =>
      cases y with
      | none => simp only [jnO, jn_fresh]
      | some f => simp only [jnO, jn_merge]
  · simp only [if_neg h]

theorem fold_jn (k : ByteArray) : ∀ (L : List Put) (o y : Option Ent), L.foldl (stp k) (jnO o y) = jnO o (L.foldl (stp k) y)
  | [], _, _ => rfl
  | p :: r, o, y => by rw [List.foldl_cons, List.foldl_cons, stp_jn, fold_jn k r]

theorem jnO_none (o : Option Ent) : jnO o none = o := by cases o <;> rfl

theorem fold_from (k : ByteArray) (L : List Put) (o : Option Ent) : L.foldl (stp k) o = jnO o (L.foldl (stp k) none) := by
  have := fold_jn k L o none
  rw [jnO_none] at this
  exact this

/-- the rank that a key has was put -/
theorem fold_rank (k : ByteArray) : ∀ (L : List Put) (o : Option Ent) (e : Ent), L.foldl (stp k) o = some e → (∃ e0, o = some e0 ∧ e.rank = e0.rank) ∨ ∃ p ∈ L, p.rank = e.rank
  | [], o, e, h => .inl ⟨e, h, rfl⟩
  | p :: r, o, e, h => by
    rw [List.foldl_cons] at h
    rcases fold_rank k r _ e h with ⟨e0, h0, hr⟩ | ⟨q, hq, hr⟩
    · unfold stp at h0
      split at h0
      · simp only [Option.some.injEq] at h0
        cases o with
        | none => right; exact ⟨p, by simp, by rw [hr, ← h0]; rfl⟩
        | some e1 =>
          dsimp only at h0
          unfold merge at h0
          split at h0
          · left; exact ⟨e1, rfl, by rw [hr, ← h0]⟩
          · right; exact ⟨p, by simp, by rw [hr, ← h0]⟩
      · left; exact ⟨e0, h0, hr⟩
    · right; exact ⟨q, by simp [hq], hr⟩

theorem fold_some (k : ByteArray) : ∀ (L : List Put) (o : Option Ent), (o.isSome = true ∨ ∃ p ∈ L, p.key = k) → (L.foldl (stp k) o).isSome = true
  | [], o, h => by
    rcases h with h | ⟨p, hp, _⟩
    · exact h
    · cases hp
  | p :: r, o, h => by
    rw [List.foldl_cons]
    refine fold_some k r _ ?_
    unfold stp
    by_cases hk : p.key = k
    · left; rw [if_pos hk]; rfl
    · rw [if_neg hk]
      rcases h with h | ⟨q, hq, hqk⟩
      · exact .inl h
      · rcases List.mem_cons.1 hq with rfl | hq
        · exact absurd hqk hk
        · exact .inr ⟨q, hq, hqk⟩

theorem fold_none (k : ByteArray) : ∀ (L : List Put), (∀ p ∈ L, p.key ≠ k) → L.foldl (stp k) none = none
  | [], _ => rfl
  | p :: r, h => by
    rw [List.foldl_cons]
    have : stp k none p = none := by unfold stp; rw [if_neg (h p (by simp))]
    rw [this]; exact fold_none k r fun q hq => h q (by simp [hq])

theorem jn_alike (e f : Ent) (h : e.rank ≠ f.rank) : Alike (jn e f) (jn f e) := by
  unfold jn Alike
  by_cases h1 : f.rank < e.rank
  · have h2 : ¬ e.rank < f.rank := by omega
    simp [h1, h2, bor_comm]
  · have h2 : e.rank < f.rank := by omega
    simp [h1, h2, bor_comm]

/-- THE PLAIN LAW: two scripts with no rank in common commute, key by key. -/
theorem commute (F G : List Put) (hd : ∀ p ∈ F, ∀ q ∈ G, p.rank ≠ q.rank) (k : ByteArray) (hk : (∃ p ∈ F, p.key = k) ∨ ∃ p ∈ G, p.key = k) :
    ∃ i j, findE (putL (putL [] F) G) k = some i ∧ findE (putL (putL [] G) F) k = some j ∧ Alike ((putL (putL [] F) G).getD i default) ((putL (putL [] G) F).getD j default) := by
  have l0 : lk [] k = none := by unfold lk findE; simp
  have e1 : lk (putL (putL [] F) G) k = jnO (F.foldl (stp k) none) (G.foldl (stp k) none) := by rw [lk_putL, lk_putL, l0, fold_from]
  have e2 : lk (putL (putL [] G) F) k = jnO (G.foldl (stp k) none) (F.foldl (stp k) none) := by rw [lk_putL, lk_putL, l0, fold_from]
  have key : ∃ a b, lk (putL (putL [] F) G) k = some a ∧ lk (putL (putL [] G) F) k = some b ∧ Alike a b := by
    rw [e1, e2]
    cases hf : F.foldl (stp k) none with
    | none =>
      cases hg : G.foldl (stp k) none with
      | none =>
        exfalso
        rcases hk with h | h
        · have := fold_some k F none (.inr h); rw [hf] at this; cases this
        · have := fold_some k G none (.inr h); rw [hg] at this; cases this
      | some b => exact ⟨b, b, rfl, rfl, rfl, rfl, rfl, rfl, rfl⟩
    | some a =>
      cases hg : G.foldl (stp k) none with
      | none => exact ⟨a, a, rfl, rfl, rfl, rfl, rfl, rfl, rfl⟩
      | some b =>
        refine ⟨jn a b, jn b a, rfl, rfl, jn_alike a b ?_⟩
        rcases fold_rank k F none a hf with ⟨_, h, _⟩ | ⟨p, hp, hpr⟩
        · cases h
        · rcases fold_rank k G none b hg with ⟨_, h, _⟩ | ⟨q, hq, hqr⟩
          · cases h
          · rw [← hpr, ← hqr]; exact hd p hp q hq
  obtain ⟨a, b, ha, hb, hab⟩ := key
  unfold lk at ha hb
  cases hi : findE (putL (putL [] F) G) k with
  | none => rw [hi] at ha; cases ha
  | some i =>
    cases hj : findE (putL (putL [] G) F) k with
    | none => rw [hj] at hb; cases hb
    | some j =>
      rw [hi] at ha
      rw [hj] at hb
      simp only [Option.map_some, Option.some.injEq] at ha hb
      exact ⟨i, j, rfl, rfl, by rw [ha, hb]; exact hab⟩

theorem mem_iff_find (es : List Ent) (k : ByteArray) : k ∈ es.map Ent.key ↔ (findE es k).isSome = true := by
  constructor
  · intro h
    cases hf : findE es k with
    | some i => rfl
    | none =>
      obtain ⟨e, he, rfl⟩ := List.mem_map.1 h
      obtain ⟨j, hj, rfl⟩ := List.mem_iff_getElem.1 he
      exact absurd (by simp [List.getD, hj]) (findE_none hf j hj)
  · intro h
    cases hf : findE es k with
    | none => rw [hf] at h; cases h
    | some i =>
      obtain ⟨hi, hk, _⟩ := findE_some hf
      rw [← hk]
      exact List.mem_map.2 ⟨es.getD i default, by simp [List.getD, hi], rfl⟩

theorem lk_some (es : List Ent) (k : ByteArray) : (findE es k).isSome = (lk es k).isSome := by unfold lk; cases findE es k <;> rfl

theorem nodup_sub {α : Type} [DecidableEq α] : ∀ (l l' : List α), l.Nodup → (∀ x ∈ l, x ∈ l') → l.length ≤ l'.length
  | [], _, _, _ => by simp
  | x :: r, l', hn, hs => by
    rw [List.nodup_cons] at hn
    have hx : x ∈ l' := hs x (by simp)
    have h1 := nodup_sub r (l'.erase x) hn.2 (fun y hy => by
      have : y ≠ x := fun e => hn.1 (e ▸ hy)
      exact (List.mem_erase_of_ne this).2 (hs y (by simp [hy])))
    rw [List.length_erase_of_mem hx] at h1
    have := List.length_pos_of_mem hx
    simp
    omega

/-- .. and the two sets have as many keys. -/
theorem commute_len (F G : List Put) (h1 : ((putL (putL [] F) G).map Ent.key).Nodup) (h2 : ((putL (putL [] G) F).map Ent.key).Nodup) : (putL (putL [] F) G).length = (putL (putL [] G) F).length := by
  have l0 : ∀ k, lk [] k = none := fun k => by unfold lk findE; simp
  have hs : ∀ k, (findE (putL (putL [] F) G) k).isSome = (findE (putL (putL [] G) F) k).isSome := fun k => by
    rw [lk_some, lk_some, lk_putL, lk_putL, lk_putL, lk_putL, l0, fold_from, fold_from k F (G.foldl (stp k) none)]
    cases F.foldl (stp k) none <;> cases G.foldl (stp k) none <;> rfl
  have a1 := nodup_sub _ _ h1 (fun k hk => by rw [mem_iff_find, ← hs, ← mem_iff_find]; exact hk)
  have a2 := nodup_sub _ _ h2 (fun k hk => by rw [mem_iff_find, hs, ← mem_iff_find]; exact hk)
  simp at a1 a2
  omega
end Go.Proofs.Qxb6603471a
