import Derived.Test.Qxb6603471aAtSet
import Derived.Deep.MidRow
namespace Go.Proofs.Qxb6603471a
open Go.RowKit Go.Maps
set_option linter.unusedSimpArgs false
set_option linter.unusedVariables false

/-- All below B but block S is as it was. -/
structure BelS (S B : Nat) (w w' : World) : Prop where
  os : w'.os = w.os
  tape : w'.tape = w.tape
  output : w'.output = w.output
  size : w.heap.size ≤ w'.heap.size
  block : ∀ k, k < B → k ≠ S → w'.heap[k]? = w.heap[k]?

theorem BelS.refl (S B : Nat) (w : World) : BelS S B w w := ⟨rfl, rfl, rfl, Nat.le_refl _, fun _ _ _ => rfl⟩
theorem BelS.trans {S B : Nat} {a b c : World} (h : BelS S B a b) (k : BelS S B b c) : BelS S B a c :=
  ⟨k.os.trans h.os, k.tape.trans h.tape, k.output.trans h.output, Nat.le_trans h.size k.size, fun i hi hS => (k.block i hi hS).trans (h.block i hi hS)⟩
theorem BelS.of_grown {S B : Nat} {a b : World} {row : Option Nat} (h : a.grownBy b row) (hB : B ≤ a.heap.size) (hr : ∀ k, row = some k → k = S ∨ B ≤ k) : BelS S B a b :=
  ⟨h.os, h.tape, h.output, h.size, fun k hk hS => h.block k (Nat.lt_of_lt_of_le hk hB) (fun e => by rcases hr k e.symm with h | h <;> omega)⟩
theorem BelS.of_below {S B : Nat} {a b : World} (h : Below a.heap.size a b) (hB : B ≤ a.heap.size) : BelS S B a b :=
  ⟨h.os, h.tape, h.output, h.size, fun k hk _ => h.block k (Nat.lt_of_lt_of_le hk hB)⟩
theorem BelS.drewN {S B : Nat} {a b : World} (h : BelS S B a b) (m : Nat) : BelS S B a (b.drewN m) := ⟨h.os, h.tape, h.output, h.size, h.block⟩
theorem grown_of_below {a b : World} (h : Below a.heap.size a b) : a.grownBy b none := ⟨h.os, h.tape, h.output, h.size, fun k hk _ => h.block k hk⟩

theorem own_block {w : World} {B c n g : Nat} {e : TypeId} {v : Value} {xs : List Value} (h : w.ownsRow B e c v n xs) (hg : v.ownBlock = some g) : ∃ cur, w.heap[g]? = some (.cells cur e (0, 0)) ∧ B ≤ g := by
  rcases h.2 with ⟨rfl, _⟩ | ⟨g', cap, cur, rfl, hb, hh, _⟩
  · cases hg
  · simp only [Value.ownBlock, Option.some.injEq] at hg
    subst hg
    exact ⟨cur, hh, hb⟩

section
variable {w w' : World} {S B : Nat} {av mv xv : Value} {ea em : List Ent} {xs : Option (Nat × Nat × DataW Unit)}

theorem SetMem.neAM (h : SetMem w S B av mv xv ea em xs) {g : Nat} (hg : av.ownBlock = some g) : mv.ownBlock ≠ some g := fun hm => by
  obtain ⟨c1, h1, _⟩ := own_block h.oa hg
  obtain ⟨c2, h2, _⟩ := own_block h.om hm
  rw [h1] at h2; cases h2
theorem SetMem.neMA (h : SetMem w S B av mv xv ea em xs) {g : Nat} (hg : mv.ownBlock = some g) : av.ownBlock ≠ some g := fun hm => h.neAM hm hg
theorem SetMem.neAS (h : SetMem w S B av mv xv ea em xs) : av.ownBlock ≠ some S := fun hm => by
  obtain ⟨c2, h2, _⟩ := own_block h.oa hm
  rw [h.row] at h2; cases h2
theorem SetMem.neMS (h : SetMem w S B av mv xv ea em xs) : mv.ownBlock ≠ some S := fun hm => by
  obtain ⟨c2, h2, _⟩ := own_block h.om hm
  rw [h.row] at h2; cases h2
theorem map_ne {X c : Nat} {D : DataW Unit} (hx : w.ownsMap Try.prog 9 (plainElem Try.prog 3) X c D) {g : Nat} {cs : Array Value} {t : TypeId} {fr : Nat × Nat} (hg : w.heap[g]? = some (.cells cs t fr)) : X ≠ g := fun e => by
  obtain ⟨es, cl, hb, _⟩ := hx
  rw [e, hg] at hb; cases hb

theorem SetMem.map {X c : Nat} {D : DataW Unit} (h : SetMem w S B av mv xv ea em (some (X, c, D))) : w.ownsMap Try.prog 9 (plainElem Try.prog 3) X c D ∧ B ≤ X ∧ xv = .map (some X) := by
  obtain ⟨h', _⟩ | ⟨X', c1, D1, e1, e2, h3, h4⟩ := h.ox
  · cases h'
  · simp only [Option.some.injEq, Prod.mk.injEq] at e1
    obtain ⟨rfl, rfl, rfl⟩ := e1
    exact ⟨h4, h3, e2⟩

/-- Nothing of the set's own is written. -/
theorem SetMem.kept (h : SetMem w S B av mv xv ea em xs) {row : Option Nat} (hg : w.grownBy w' row) (hr : ∀ k, row = some k → w.heap.size ≤ k ∨ (k ≠ S ∧ av.ownBlock ≠ some k ∧ mv.ownBlock ≠ some k ∧ ∀ X c D, xs = some (X, c, D) → X ≠ k)) : SetMem w' S B av mv xv ea em xs := by
  have hS : some S ≠ row := fun e => by rcases hr S e.symm with h1 | h1; have := h.lt; omega; exact h1.1 rfl
  have hA : av.ownBlock = none ∨ av.ownBlock ≠ row := by
    cases ha : av.ownBlock with
    | none => exact .inl rfl
    | some g =>
      refine .inr fun e => ?_
      obtain ⟨cur, hh, _⟩ := own_block h.oa ha
      rcases hr g e.symm with h1 | h1
      · have := (Array.getElem?_eq_some_iff.1 hh).1; omega
      · exact h1.2.1 ha
  have hM : mv.ownBlock = none ∨ mv.ownBlock ≠ row := by
    cases ha : mv.ownBlock with
    | none => exact .inl rfl
    | some g =>
      refine .inr fun e => ?_
      obtain ⟨cur, hh, _⟩ := own_block h.om ha
      rcases hr g e.symm with h1 | h1
      · have := (Array.getElem?_eq_some_iff.1 hh).1; omega
      · exact h1.2.2.1 ha
  refine ⟨(hg.block S h.lt hS).trans h.row, h.oa.kept hg hA, h.om.kept hg hM, ?_, Nat.le_trans h.size hg.size⟩
  rcases h.ox with h1 | ⟨X, c, D, e1, e2, h3, h4⟩
  · exact .inl h1
  · refine .inr ⟨X, c, D, e1, e2, h3, h4.kept hg (fun e => ?_)⟩
    rcases hr X e.symm with h5 | h5
    · have := h4.lt; omega
    · exact h5.2.2.2 X c D e1 rfl

theorem SetMem.below (h : SetMem w S B av mv xv ea em xs) (hb : Below w.heap.size w w') : SetMem w' S B av mv xv ea em xs := h.kept (grown_of_below hb) (fun k e => by cases e)
theorem SetMem.drewN (h : SetMem w S B av mv xv ea em xs) (m : Nat) : SetMem (w.drewN m) S B av mv xv ea em xs := ⟨h.row, h.oa, h.om, h.ox, h.size⟩

/-- A run of cells of a row of the call's own is written. -/
theorem ownsRow_splice {e : TypeId} {c g n cap : Nat} : ∀ (ys xs pre rest : List Value) (w : World), xs.length = ys.length → w.ownsRow B e c (.slice (some ⟨g, 0, none⟩) n cap) n (pre ++ xs ++ rest) →
    (w.setCells g pre.length ys).ownsRow B e c (.slice (some ⟨g, 0, none⟩) n cap) n (pre ++ ys ++ rest) ∧ w.grownBy (w.setCells g pre.length ys) (some g)
  | [], [], pre, rest, w, _, h => ⟨h, ⟨rfl, rfl, rfl, Nat.le_refl _, fun _ _ _ => rfl⟩⟩
  | [], x :: xs, pre, rest, w, hl, h => by simp at hl
  | y :: ys, [], pre, rest, w, hl, h => by simp at hl
  | y :: ys, x :: xs, pre, rest, w, hl, h => by
    obtain ⟨h1, h2⟩ := h.stored pre.length y
    have e : (pre ++ (x :: xs) ++ rest).set pre.length y = (pre ++ [y]) ++ xs ++ rest := by simp
    rw [e] at h1
    obtain ⟨h3, h4⟩ := ownsRow_splice ys xs (pre ++ [y]) rest _ (by simpa using hl) h1
    have e2 : (pre ++ [y]).length = pre.length + 1 := by simp
    rw [e2] at h3 h4
    refine ⟨?_, h2.trans h4⟩
    show (World.setCells (w.setCell ⟨g, pre.length, none⟩ y) g (pre.length + 1) ys).ownsRow _ _ _ _ _ _
    have e3 : pre ++ y :: ys ++ rest = pre ++ [y] ++ ys ++ rest := by simp
    rw [e3]; exact h3

theorem flatMap_split {α : Type} (f : α → List Value) (l : List α) (i : Nat) (h : i < l.length) : l.flatMap f = (l.take i).flatMap f ++ f l[i] ++ (l.drop (i + 1)).flatMap f := by
  have e : l = l.take i ++ (l[i] :: l.drop (i + 1)) := by rw [← List.drop_eq_getElem_cons h, List.take_append_drop]
  conv => lhs; rw [e]
  rw [List.flatMap_append, List.flatMap_cons, List.append_assoc]

theorem flatMap_set {α : Type} (f : α → List Value) (l : List α) (i : Nat) (h : i < l.length) (a : α) : (l.set i a).flatMap f = (l.take i).flatMap f ++ f a ++ (l.drop (i + 1)).flatMap f := by
  rw [flatMap_split f (l.set i a) i (by simpa using h)]
  congr 2
  · rw [List.take_set_of_le (Nat.le_refl _)]
  · simp
  · rw [List.drop_set_of_lt (by omega)]

theorem flatMap_len {α : Type} (f : α → List Value) (c : Nat) (hc : ∀ a, (f a).length = c) : ∀ l : List α, (l.flatMap f).length = l.length * c
  | [] => by simp
  | x :: r => by simp [List.flatMap_cons, hc, flatMap_len f c hc r, Nat.succ_mul]; omega

/-- one cell of a mark -/
theorem SetMem.mark {M n cap : Nat} (h : SetMem w S B av (.slice (some ⟨M, 0, none⟩) n cap) xv ea em xs) (i : Nat) (hi : i < em.length) (e' : Ent) (j : Nat) (u : Value)
    (hj : (j = 0 ∧ e'.held = em[i].held ∧ u = .int .u8 e'.rank) ∨ (j = 1 ∧ e'.rank = em[i].rank ∧ u = .int .u8 e'.held)) :
    SetMem (w.setCell ⟨M, i * 2 + j, none⟩ u) S B av (.slice (some ⟨M, 0, none⟩) n cap) xv ea (em.set i e') xs ∧ w.grownBy (w.setCell ⟨M, i * 2 + j, none⟩ u) (some M) := by
  have hn : n = em.length := by
    rcases h.om.2 with ⟨e, _⟩ | ⟨g, cp, cur, e, _⟩
    · cases e
    · simp only [Value.slice.injEq] at e; exact e.2.1
  subst hn
  have hM : (Value.slice (some ⟨M, 0, none⟩) em.length cap).ownBlock = some M := rfl
  obtain ⟨cur, hcur, hBM⟩ := own_block h.om hM
  have key : (w.setCell ⟨M, i * 2 + j, none⟩ u).ownsRow B 92 2 (.slice (some ⟨M, 0, none⟩) em.length cap) em.length ((em.set i e').flatMap Ent.mark) ∧ w.grownBy (w.setCell ⟨M, i * 2 + j, none⟩ u) (some M) := by
    have ho := h.om
    rw [flatMap_split Ent.mark em i hi] at ho
    rw [flatMap_set Ent.mark em i hi e']
    have hl : ((em.take i).flatMap Ent.mark).length = i * 2 := by rw [flatMap_len Ent.mark 2 Ent.mark_length]; simp; omega
    rcases hj with ⟨rfl, h1, rfl⟩ | ⟨rfl, h1, rfl⟩
    · have ho' : w.ownsRow B 92 2 (.slice (some ⟨M, 0, none⟩) em.length cap) em.length ((em.take i).flatMap Ent.mark ++ [.int .u8 em[i].rank] ++ (.int .u8 em[i].held :: (em.drop (i + 1)).flatMap Ent.mark)) := by
        simpa [Ent.mark] using ho
      have := ownsRow_splice [.int .u8 e'.rank] _ _ _ w (by simp) ho'
      rw [hl] at this
      have e : (em.take i).flatMap Ent.mark ++ e'.mark ++ (em.drop (i + 1)).flatMap Ent.mark = (em.take i).flatMap Ent.mark ++ [.int .u8 e'.rank] ++ (.int .u8 em[i].held :: (em.drop (i + 1)).flatMap Ent.mark) := by simp [Ent.mark, h1]
      rw [e]; exact this
    · have ho' : w.ownsRow B 92 2 (.slice (some ⟨M, 0, none⟩) em.length cap) em.length (((em.take i).flatMap Ent.mark ++ [.int .u8 em[i].rank]) ++ [.int .u8 em[i].held] ++ (em.drop (i + 1)).flatMap Ent.mark) := by
        simpa [Ent.mark] using ho
      have := ownsRow_splice [.int .u8 e'.held] _ _ _ w (by simp) ho'
      rw [List.length_append, hl] at this
      have e : (em.take i).flatMap Ent.mark ++ e'.mark ++ (em.drop (i + 1)).flatMap Ent.mark = ((em.take i).flatMap Ent.mark ++ [.int .u8 em[i].rank]) ++ [.int .u8 e'.held] ++ (em.drop (i + 1)).flatMap Ent.mark := by simp [Ent.mark, h1]
      rw [e]; exact this
  have hAM : av.ownBlock ≠ some M := h.neMA hM
  have hSM : S ≠ M := fun e => by rw [← e, h.row] at hcur; cases hcur
  have h' := key.2
  refine ⟨⟨(h'.block S h.lt (by simpa using hSM)).trans h.row, h.oa.kept h' (.inr hAM), by simpa using key.1, ?_, Nat.le_trans h.size h'.size⟩, h'⟩
  rcases h.ox with h1 | ⟨X, c, D, e1, e2, h3, h4⟩
  · exact .inl h1
  · exact .inr ⟨X, c, D, e1, e2, h3, h4.kept h' (by simpa using map_ne h4 hcur)⟩

/-- the eight cells of a value -/
theorem SetMem.vals {A n cap : Nat} (h : SetMem w S B (.slice (some ⟨A, 0, none⟩) n cap) mv xv ea em xs) (i : Nat) (hi : i < ea.length) (e' : Ent) (hk : e'.key = ea[i].key) :
    SetMem (w.setCells A (i * 9 + 1) e'.val) S B (.slice (some ⟨A, 0, none⟩) n cap) mv xv (ea.set i e') em xs ∧ w.grownBy (w.setCells A (i * 9 + 1) e'.val) (some A) := by
  have hn : n = ea.length := by
    rcases h.oa.2 with ⟨e, _⟩ | ⟨g, cp, cur, e, _⟩
    · cases e
    · simp only [Value.slice.injEq] at e; exact e.2.1
  subst hn
  have hM : (Value.slice (some ⟨A, 0, none⟩) ea.length cap).ownBlock = some A := rfl
  obtain ⟨cur, hcur, hBM⟩ := own_block h.oa hM
  have key : (w.setCells A (i * 9 + 1) e'.val).ownsRow B 55 9 (.slice (some ⟨A, 0, none⟩) ea.length cap) ea.length ((ea.set i e').flatMap Ent.kv) ∧ w.grownBy (w.setCells A (i * 9 + 1) e'.val) (some A) := by
    have ho := h.oa
    rw [flatMap_split Ent.kv ea i hi] at ho
    rw [flatMap_set Ent.kv ea i hi e']
    have hl : ((ea.take i).flatMap Ent.kv).length = i * 9 := by rw [flatMap_len Ent.kv 9 Ent.kv_length]; simp; omega
    have ho' : w.ownsRow B 55 9 (.slice (some ⟨A, 0, none⟩) ea.length cap) ea.length (((ea.take i).flatMap Ent.kv ++ [.string ea[i].key]) ++ ea[i].val ++ (ea.drop (i + 1)).flatMap Ent.kv) := by
      simpa [Ent.kv] using ho
    have := ownsRow_splice e'.val _ _ _ w (by rfl) ho'
    rw [List.length_append, hl] at this
    have e : (ea.take i).flatMap Ent.kv ++ e'.kv ++ (ea.drop (i + 1)).flatMap Ent.kv = ((ea.take i).flatMap Ent.kv ++ [.string ea[i].key]) ++ e'.val ++ (ea.drop (i + 1)).flatMap Ent.kv := by simp [Ent.kv, hk]
    rw [e]; exact this
  have hAM : mv.ownBlock ≠ some A := h.neAM hM
  have hSM : S ≠ A := fun e => by rw [← e, h.row] at hcur; cases hcur
  have h' := key.2
  refine ⟨⟨(h'.block S h.lt (by simpa using hSM)).trans h.row, by simpa using key.1, h.om.kept h' (.inr hAM), ?_, Nat.le_trans h.size h'.size⟩, h'⟩
  rcases h.ox with h1 | ⟨X, c, D, e1, e2, h3, h4⟩
  · exact .inl h1
  · exact .inr ⟨X, c, D, e1, e2, h3, h4.kept h' (by simpa using map_ne h4 hcur)⟩

/-- The set's blocks lie below s. -/
structure Under (s : Nat) (S : Nat) (av mv : Value) (xs : Option (Nat × Nat × DataW Unit)) : Prop where
  S : S < s
  a : ∀ g, av.ownBlock = some g → g < s
  m : ∀ g, mv.ownBlock = some g → g < s
  x : ∀ X c D, xs = some (X, c, D) → X < s

theorem SetMem.under (h : SetMem w S B av mv xv ea em xs) : Under w.heap.size S av mv xs := by
  refine ⟨h.lt, fun g hg => ?_, fun g hg => ?_, fun X c D hx => ?_⟩
  · obtain ⟨cur, hh, _⟩ := own_block h.oa hg
    exact (Array.getElem?_eq_some_iff.1 hh).1
  · obtain ⟨cur, hh, _⟩ := own_block h.om hg
    exact (Array.getElem?_eq_some_iff.1 hh).1
  · rcases h.ox with ⟨e1, _⟩ | ⟨X', c', D', e1, _, _, h4⟩
    · rw [hx] at e1; cases e1
    · rw [hx] at e1
      simp only [Option.some.injEq, Prod.mk.injEq] at e1
      obtain ⟨rfl, rfl, rfl⟩ := e1
      exact h4.lt

/-- A block that is none of the set's is written. -/
theorem SetMem.beside {s k : Nat} (h : SetMem w S B av mv xv ea em xs) (hu : Under s S av mv xs) (hk : s ≤ k) (hg : w.grownBy w' (some k)) : SetMem w' S B av mv xv ea em xs :=
  h.kept hg fun j e => by
    cases e
    refine .inr ⟨fun e => ?_, fun e => ?_, fun e => ?_, fun X c D e e' => ?_⟩
    · have := hu.S; omega
    · have := hu.a _ e; omega
    · have := hu.m _ e; omega
    · have := hu.x _ _ _ e; omega

theorem rangeAt_grown {b o : Nat} {cs : List Value} {row : Option Nat} (h : w.rangeAt b o cs) (hg : w.grownBy w' row) (hb : some b ≠ row) : w'.rangeAt b o cs := fun j v hv => hg.cell (h j v hv) hb
theorem there_grown {b o n : Nat} {row : Option Nat} (h : w.there b o n) (hg : w.grownBy w' row) (hb : some b ≠ row) : w'.there b o n := fun j hj => by
  obtain ⟨h1, h2⟩ := h j hj
  obtain ⟨u, hu⟩ := Option.isSome_iff_exists.1 h1
  have hlt := World.block_lt_of_cell? w _ hu
  exact ⟨by rw [hg.cell hu hb]; rfl, by rw [World.frozen?_of_block (w := w) (hg.block b hlt hb)]; exact h2⟩

theorem grown_setCell (w : World) (b o : Nat) (v : Value) : w.grownBy (w.setCell ⟨b, o, none⟩ v) (some b) :=
  ⟨rfl, rfl, rfl, by simp [World.setCell], fun k _ hk => heap_setCell_other w ⟨b, o, none⟩ k v (fun e => hk (by simp [e]))⟩
theorem grown_setCells (b : Nat) : ∀ (vs : List Value) (o : Nat) (w : World), w.grownBy (w.setCells b o vs) (some b)
  | [], _, _ => ⟨rfl, rfl, rfl, Nat.le_refl _, fun _ _ _ => rfl⟩
  | v :: r, o, w => World.grownBy.trans (grown_setCell w b o v) (grown_setCells b r (o + 1) (w.setCell ⟨b, o, none⟩ v))

theorem mark_at (h : SetMem w S B av mv xv ea em xs) {M n cap : Nat} (hm : mv = .slice (some ⟨M, 0, none⟩) n cap) {i : Nat} (hi : i < em.length) :
    w.cell? ⟨M, i * 2, none⟩ = some (.int .u8 em[i].rank) ∧ w.cell? ⟨M, i * 2 + 1, none⟩ = some (.int .u8 em[i].held) ∧ ∀ j, w.frozen? ⟨M, j, none⟩ = false := by
  subst hm
  have hn : n = em.length := by
    rcases h.om.2 with ⟨e, _⟩ | ⟨g, cp, cur, e, _⟩
    · cases e
    · simp only [Value.slice.injEq] at e; exact e.2.1
  subst hn
  have hr := ownsRow_at Ent.mark 2 Ent.mark_length (by decide) h.om rfl (List.getElem?_eq_getElem hi)
  exact ⟨hr 0 _ rfl, hr 1 _ rfl, fun j => h.om.frozenAt j⟩

theorem vals_at (h : SetMem w S B av mv xv ea em xs) {A n cap : Nat} (hm : av = .slice (some ⟨A, 0, none⟩) n cap) {i : Nat} (hi : i < ea.length) :
    w.cell? ⟨A, i * 9, none⟩ = some (.string ea[i].key) ∧ w.rangeAt A (i * 9 + 1) ea[i].val ∧ w.there A (i * 9 + 1) 8 := by
  subst hm
  have hn : n = ea.length := by
    rcases h.oa.2 with ⟨e, _⟩ | ⟨g, cp, cur, e, _⟩
    · cases e
    · simp only [Value.slice.injEq] at e; exact e.2.1
  subst hn
  have hr := ownsRow_at Ent.kv 9 Ent.kv_length (by decide) h.oa rfl (List.getElem?_eq_getElem hi)
  have h1 : w.rangeAt A (i * 9 + 1) ea[i].val := fun j v hv => by
    have := hr (j + 1) v (by simpa [Ent.kv] using hv)
    rw [← this]; congr 2; omega
  refine ⟨hr 0 _ rfl, h1, fun j hj => ⟨?_, h.oa.frozenAt _⟩⟩
  exact h1.isSome j hj
end
end Go.Proofs.Qxb6603471a
