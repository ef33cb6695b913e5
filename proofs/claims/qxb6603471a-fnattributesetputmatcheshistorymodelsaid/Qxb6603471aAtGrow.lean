import Derived.Test.Qxb6603471aAtStep
import Derived.Test.Qxb6603471aAtPlain
import Derived.Test.Qxb6603471aUntil
import Derived.Maps.AppendAt
namespace Go.Proofs.Qxb6603471a.Until
variable {P : Program} {ops : Array Oper} {Q : Exit → Act → World → Prop} {md : Region.Mode} {S : World → Prop} {st : Nat}
/-- One of two operations may come up. -/
theorem pair {i j : Nat} {oi oj : Oper} {ri rj : List Oper} {fuel : Nat} {listed : Array Bool} {a : Act} {w : World} (hr : Region.ready md ops listed = [i, j]) (h0 : ops.toList.drop i = oi :: ri) (h1 : ops.toList.drop j = oj :: rj)
    (h : ∀ K : Act → World → Prop, (∀ a' w', ((listed.setIfInBounds i true).getD st false = true ∨ S w') → wpAnyU P md ops Q S st fuel (listed.setIfInBounds i true) a' w' → K a' w') →
      if Region.wanted oi (yielded ops a.tmps) = true then Oper.wp P oi a w K Q else K (a.put oi.dst undef) w)
    (h' : ∀ K : Act → World → Prop, (∀ a' w', ((listed.setIfInBounds j true).getD st false = true ∨ S w') → wpAnyU P md ops Q S st fuel (listed.setIfInBounds j true) a' w' → K a' w') →
      if Region.wanted oj (yielded ops a.tmps) = true then Oper.wp P oj a w K Q else K (a.put oj.dst undef) w) :
    wpAnyU P md ops Q S st (fuel + 1) listed a w := by
  have hi := at_of_drop h0
  have hj := at_of_drop h1
  refine ⟨(fun h0 => by rw [hr] at h0; cases h0), fun k hk => ?_⟩
  rw [hr] at hk
  rcases (by simpa using hk : k = i ∨ k = j) with rfl | rfl
  · have := h (fun a' w' => ((listed.setIfInBounds k true).getD st false = true ∨ S w') ∧ wpAnyU P md ops Q S st fuel (listed.setIfInBounds k true) a' w') (fun a' w' h1 h2 => ⟨h1, h2⟩)
    unfold wpOp
    simp only [hi]
    split at this
    · rename_i hw; simp only [hw, if_true]; exact .inl this
    · rename_i hw; simp only [hw, Bool.false_eq_true, if_false]; exact this
  · have := h' (fun a' w' => ((listed.setIfInBounds k true).getD st false = true ∨ S w') ∧ wpAnyU P md ops Q S st fuel (listed.setIfInBounds k true) a' w') (fun a' w' h1 h2 => ⟨h1, h2⟩)
    unfold wpOp
    simp only [hj]
    split at this
    · rename_i hw; simp only [hw, if_true]; exact .inl this
    · rename_i hw; simp only [hw, Bool.false_eq_true, if_false]; exact this
end Go.Proofs.Qxb6603471a.Until

namespace Go.Proofs.Qxb6603471a
open Go.RowKit Go.Maps
set_option linter.unusedSimpArgs false
set_option linter.unusedVariables false

/-- One element of many cells appended to a row of the call's own, as one step of a region that draws. -/
theorem step_append_wide {P : Program} (w : World) (B : Nat) {ops : Array Oper} {o : Oper} {a : Act} {K : Act → World → Prop} {Q : Exit → Act → World → Prop} {E : Prop} (hgd : o.guard = none) (s x : Operand) (t : TypeId)
    (ho : o.op = .call { callee := .builtin .append, args := #[s, x], argTypes := #[t, t] })
    (e : TypeId) (i : TypeInfo) (z : Value) (size bytes : Nat) (ht : P.underlying t = some (.slice e)) (hi : P.info? e = some i) (hz : i.zero = some z)
    (hsize : i.size = size) (hby : i.bytes = bytes) (hzs : z.cells.size = size) (hsz : 0 < size)
    (v : Value) (n : Nat) (xs : List Value) (hs : a.eval s = v) (hown : w.ownsRow B e size v n xs)
    (ad : Addr) (c : Nat) (news : List Value) (hx : a.eval x = .slice (some ad) 1 c) (hl : news.length = size) (hnews : ∀ j u, news[j]? = some u → w.cell? (ad.add j) = some u) (h1 : ∀ u ∈ news, u.oneCell' = true)
    (h63 : n + 1 ≤ maxLen) (hbytes : (n + 1) * bytes ≤ 140737488355328) (hB : B ≤ w.heap.size)
    (h : ∀ A c' w', w'.ownsRow B e size (.slice (some ⟨A, 0, none⟩) (n + 1) c') (n + 1) (xs ++ news) → w.grownBy w' v.ownBlock → (v.ownBlock = some A ∨ A = w.heap.size) → n + 1 ≤ c' → K (a.put o.dst (.slice (some ⟨A, 0, none⟩) (n + 1) c')) w') :
    if Region.wanted o (yielded ops a.tmps) = true then Oper.wp P o a w K Q else E := by
  have hw : Region.wanted o (yielded ops a.tmps) = true := by simp [Region.wanted, hgd]
  rw [if_pos hw]
  obtain ⟨v', w', hr, h2, h3, _, h5⟩ := run_append_own_at (P := P) w B t o.type e i z size bytes ht hi hz hsize hby hzs hsz v n xs hown ad 1 c news (by simpa using hl) hnews h1 h63 hbytes hB
  obtain ⟨A, c', rfl, hc'⟩ : ∃ A c', v' = .slice (some ⟨A, 0, none⟩) (n + 1) c' ∧ n + 1 ≤ c' := by
    rcases h2.2 with ⟨_, h0⟩ | ⟨g, cap, cur, hv, _, _, hnc, _⟩
    · omega
    · exact ⟨g, cap, hv, hnc⟩
  unfold Oper.wp execOp
  simp only [ho, resolve, invoke, builtin, Sem.run_bind, Sem.run_pure, Result.andThen_ok, List.map_toArray, List.map_cons, List.map_nil, hs, hx, hr]
  refine h A c' w' h2 h3 ?_ hc'
  rcases h5 with h5 | h5
  · exact .inl h5.symm
  · exact .inr (by simpa [Value.ownBlock] using h5)

/-- The same at a plain region's list. -/
theorem wpList_append_wide {P : Program} (w : World) (B : Nat) {ops : Array Oper} {rest : List Oper} {o : Oper} {a : Act} {Q : Exit → Act → World → Prop} (hgd : o.guard = none) (s x : Operand) (t : TypeId)
    (ho : o.op = .call { callee := .builtin .append, args := #[s, x], argTypes := #[t, t] })
    (e : TypeId) (i : TypeInfo) (z : Value) (size bytes : Nat) (ht : P.underlying t = some (.slice e)) (hi : P.info? e = some i) (hz : i.zero = some z)
    (hsize : i.size = size) (hby : i.bytes = bytes) (hzs : z.cells.size = size) (hsz : 0 < size)
    (v : Value) (n : Nat) (xs : List Value) (hs : a.eval s = v) (hown : w.ownsRow B e size v n xs)
    (ad : Addr) (c : Nat) (news : List Value) (hx : a.eval x = .slice (some ad) 1 c) (hl : news.length = size) (hnews : ∀ j u, news[j]? = some u → w.cell? (ad.add j) = some u) (h1 : ∀ u ∈ news, u.oneCell' = true)
    (h63 : n + 1 ≤ maxLen) (hbytes : (n + 1) * bytes ≤ 140737488355328) (hB : B ≤ w.heap.size)
    (h : ∀ A c' w', w'.ownsRow B e size (.slice (some ⟨A, 0, none⟩) (n + 1) c') (n + 1) (xs ++ news) → w.grownBy w' v.ownBlock → (v.ownBlock = some A ∨ A = w.heap.size) → n + 1 ≤ c' → wpList P ops Q rest (a.put o.dst (.slice (some ⟨A, 0, none⟩) (n + 1) c')) w') :
    wpList P ops Q (o :: rest) a w := by
  refine wpList_plain hgd fun K hK => ?_
  have hw : Region.wanted o (yielded ops a.tmps) = true := by simp [Region.wanted, hgd]
  have := step_append_wide (K := K) (Q := Q) (E := False) (ops := ops) w B hgd s x t ho e i z size bytes ht hi hz hsize hby hzs hsz v n xs hs hown ad c news hx hl hnews h1 h63 hbytes hB (fun A c' w' h2 h3 h4 h5 => hK _ _ (h A c' w' h2 h3 h4 h5))
  rw [if_pos hw] at this
  exact this

theorem Try.info55 : (Try.prog.info? 55).map (fun i => (i.zero.map (·.cells.size), i.size, i.bytes)) = some (some 9, 9, 136) := by kernel_rfl
theorem Try.info92 : (Try.prog.info? 92).map (fun i => (i.zero.map (·.cells.size), i.size, i.bytes)) = some (some 2, 2, 2) := by kernel_rfl
theorem Try.info53 : (Try.prog.info? 53).map (fun i => (i.zero.map (·.cells.size), i.size, i.bytes)) = some (some 5, 5, 56) := by kernel_rfl

theorem info_wide {t : TypeId} {c b : Nat} (h : (Try.prog.info? t).map (fun i => (i.zero.map (·.cells.size), i.size, i.bytes)) = some (some c, c, b)) : ∃ i z, Try.prog.info? t = some i ∧ i.zero = some z ∧ i.size = c ∧ i.bytes = b ∧ z.cells.size = c := by
  cases hq : Try.prog.info? t with
  | none => rw [hq] at h; cases h
  | some i =>
    rw [hq] at h
    simp only [Option.map_some, Option.some.injEq, Prod.mk.injEq] at h
    cases hz : i.zero with
    | none => rw [hz] at h; cases h.1
    | some z => exact ⟨i, z, rfl, hz, h.2.1, h.2.2, by simpa [hz] using h.1⟩

section
variable {w w1 : World} {S B : Nat} {av mv xv : Value} {ea em : List Ent} {xs : Option (Nat × Nat × DataW Unit)}

/-- block k is none of the set's, and lies apart from s and s + 1 -/
structure Off (s : Nat) (S : Nat) (av mv : Value) (xs : Option (Nat × Nat × DataW Unit)) : Prop where
  S : S < s
  a : ∀ g, av.ownBlock = some g → g < s ∨ s + 2 ≤ g
  m : ∀ g, mv.ownBlock = some g → g < s ∨ s + 2 ≤ g
  x : ∀ X c D, xs = some (X, c, D) → X < s ∨ s + 2 ≤ X

theorem Under.off {s : Nat} (h : Under s S av mv xs) : Off s S av mv xs := ⟨h.S, fun g hg => .inl (h.a g hg), fun g hg => .inl (h.m g hg), fun X c D e => .inl (h.x X c D e)⟩

theorem SetMem.besideOff {s k : Nat} {w' : World} (h : SetMem w S B av mv xv ea em xs) (hu : Off s S av mv xs) (hk : s ≤ k ∧ k < s + 2) (hg : w.grownBy w' (some k)) : SetMem w' S B av mv xv ea em xs :=
  h.kept hg fun j e => by
    cases e
    refine .inr ⟨fun e => ?_, fun e => ?_, fun e => ?_, fun X c D e e' => ?_⟩
    · have := hu.S; omega
    · have := hu.a _ e; omega
    · have := hu.m _ e; omega
    · have := hu.x _ _ _ e; omega

/-- a field of the struct is written -/
theorem grown_field (w : World) (S j : Nat) (v : Value) : w.grownBy (w.setCell ⟨S, j, none⟩ v) (some S) := grown_setCell w S j v

/-- attrs grown by one, both orders of the two stores -/
theorem SetMem.appA (h : SetMem w S B av mv xv ea em xs) (hg : w.grownBy w1 av.ownBlock) {A c' : Nat} {z : List Value} (hz : z.length = 9) (hown : w1.ownsRow B 55 9 (.slice (some ⟨A, 0, none⟩) (ea.length + 1) c') (ea.length + 1) (ea.flatMap Ent.kv ++ z))
    (hat : av.ownBlock = some A ∨ A = w.heap.size) (e' : Ent) :
    (SetMem ((w1.setCells A (ea.length * 9) e'.kv).setCell ⟨S, 0, none⟩ (.slice (some ⟨A, 0, none⟩) (ea.length + 1) c')) S B (.slice (some ⟨A, 0, none⟩) (ea.length + 1) c') mv xv (ea ++ [e']) em xs ∧
     SetMem ((w1.setCell ⟨S, 0, none⟩ (.slice (some ⟨A, 0, none⟩) (ea.length + 1) c')).setCells A (ea.length * 9) e'.kv) S B (.slice (some ⟨A, 0, none⟩) (ea.length + 1) c') mv xv (ea ++ [e']) em xs) ∧ A ≠ S ∧ w1.heap[S]? = some (.cells #[av, mv, xv] 88 (0, 0)) ∧ mv.ownBlock ≠ some A := by
  have hAS : A ≠ S := by
    rintro rfl
    rcases hat with e | e
    · exact h.neAS e
    · have := h.lt; omega
  have hMA : mv.ownBlock ≠ some A := by
    intro e
    rcases hat with e' | e'
    · exact h.neAM e' e
    · obtain ⟨cur, hh, _⟩ := own_block h.om e
      have := (Array.getElem?_eq_some_iff.1 hh).1; omega
  have hS1 : w1.heap[S]? = some (.cells #[av, mv, xv] 88 (0, 0)) := (hg.block S h.lt (fun e => h.neAS e.symm)).trans h.row
  have hM1 : mv.ownBlock = none ∨ mv.ownBlock ≠ av.ownBlock := by
    cases hm : mv.ownBlock with
    | none => exact .inl rfl
    | some g => exact .inr fun e => h.neMA hm e.symm
  have om1 := h.om.kept hg hM1
  have ox1 : (xs = none ∧ xv = .map none) ∨ ∃ X c D, xs = some (X, c, D) ∧ xv = .map (some X) ∧ B ≤ X ∧ w1.ownsMap Try.prog 9 (plainElem Try.prog 3) X c D ∧ X < w.heap.size := by
    rcases h.ox with h1 | ⟨X, c, D, e1, e2, h3, h4⟩
    · exact .inl h1
    · refine .inr ⟨X, c, D, e1, e2, h3, h4.kept hg (fun e => ?_), h4.lt⟩
      obtain ⟨cur, hh, _⟩ := own_block h.oa e.symm
      exact map_ne h4 hh rfl
  have hl : (ea.flatMap Ent.kv).length = ea.length * 9 := flatMap_len Ent.kv 9 Ent.kv_length ea
  have hown' : w1.ownsRow B 55 9 (.slice (some ⟨A, 0, none⟩) (ea.length + 1) c') (ea.length + 1) (ea.flatMap Ent.kv ++ z ++ []) := by rw [List.append_nil]; exact hown
  have efl : (ea ++ [e']).flatMap Ent.kv = ea.flatMap Ent.kv ++ e'.kv ++ [] := by simp
  have hlen : (ea ++ [e']).length = ea.length + 1 := by simp
  have hXA : ∀ {w2 : World} {X c : Nat} {D : DataW Unit}, X < w.heap.size → w2.ownsMap Try.prog 9 (plainElem Try.prog 3) X c D → w2.ownsRow B 55 9 (.slice (some ⟨A, 0, none⟩) (ea.length + 1) c') (ea.length + 1) (ea.flatMap Ent.kv ++ z ++ []) → some X ≠ some A := by
    intro w2 X c D _ hx ho e
    obtain ⟨cur, hh, _⟩ := own_block ho (g := A) rfl
    exact map_ne hx hh (by simpa using e)
  obtain ⟨q1, q2⟩ := ownsRow_splice e'.kv z (ea.flatMap Ent.kv) [] w1 (by rw [hz]; rfl) hown'
  rw [hl] at q1 q2
  have hgS := fun (w : World) => grown_setCell w S 0 (.slice (some ⟨A, 0, none⟩) (ea.length + 1) c')
  refine ⟨⟨?_, ?_⟩, hAS, hS1, hMA⟩
  · have hSr : (w1.setCells A (ea.length * 9) e'.kv).heap[S]? = some (.cells #[av, mv, xv] 88 (0, 0)) := (q2.block S (Array.getElem?_eq_some_iff.1 hS1).1 (by simpa using Ne.symm hAS)).trans hS1
    refine ⟨by rw [heap_setCell_same _ S 0 _ _ _ hSr]; rfl, ?_, (om1.kept q2 (.inr hMA)).kept (hgS _) (.inr h.neMS), ?_, Nat.le_trans h.size (Nat.le_trans hg.size (Nat.le_trans q2.size (hgS _).size))⟩
    · rw [hlen, efl]; exact q1.kept (hgS _) (.inr (by simpa [Value.ownBlock] using hAS))
    · rcases ox1 with h1 | ⟨X, c, D, e1, e2, h3, h4, h5⟩
      · exact .inl h1
      · have h6 := h4.kept q2 (hXA h5 h4 hown')
        exact .inr ⟨X, c, D, e1, e2, h3, h6.kept (hgS _) (by simpa using map_ne h6 hSr)⟩
  · have hSr : (w1.setCell ⟨S, 0, none⟩ (.slice (some ⟨A, 0, none⟩) (ea.length + 1) c')).heap[S]? = some (.cells #[.slice (some ⟨A, 0, none⟩) (ea.length + 1) c', mv, xv] 88 (0, 0)) := by rw [heap_setCell_same _ S 0 _ _ _ hS1]; rfl
    have o2 := hown'.kept (hgS w1) (.inr (by simpa [Value.ownBlock] using hAS))
    obtain ⟨r1, r2⟩ := ownsRow_splice e'.kv z (ea.flatMap Ent.kv) [] _ (by rw [hz]; rfl) o2
    rw [hl] at r1 r2
    refine ⟨(r2.block S (Array.getElem?_eq_some_iff.1 hSr).1 (by simpa using Ne.symm hAS)).trans hSr, by rw [hlen, efl]; exact r1, (om1.kept (hgS _) (.inr h.neMS)).kept r2 (.inr hMA), ?_, Nat.le_trans h.size (Nat.le_trans hg.size (Nat.le_trans (hgS _).size r2.size))⟩
    rcases ox1 with h1 | ⟨X, c, D, e1, e2, h3, h4, h5⟩
    · exact .inl h1
    · have h6 := h4.kept (hgS _) (by simpa using map_ne h4 hS1)
      exact .inr ⟨X, c, D, e1, e2, h3, h6.kept r2 (hXA h5 h6 o2)⟩

/-- marks grown by one -/
theorem SetMem.appM (h : SetMem w S B av mv xv ea em xs) (hg : w.grownBy w1 mv.ownBlock) {M c' : Nat} (e' : Ent) (hown : w1.ownsRow B 92 2 (.slice (some ⟨M, 0, none⟩) (em.length + 1) c') (em.length + 1) (em.flatMap Ent.mark ++ e'.mark))
    (hat : mv.ownBlock = some M ∨ M = w.heap.size) :
    SetMem (w1.setCell ⟨S, 1, none⟩ (.slice (some ⟨M, 0, none⟩) (em.length + 1) c')) S B av (.slice (some ⟨M, 0, none⟩) (em.length + 1) c') xv ea (em ++ [e']) xs ∧ w1.heap[S]? = some (.cells #[av, mv, xv] 88 (0, 0)) := by
  have hMS : M ≠ S := by
    rintro rfl
    rcases hat with e | e
    · exact h.neMS e
    · have := h.lt; omega
  have hS1 : w1.heap[S]? = some (.cells #[av, mv, xv] 88 (0, 0)) := (hg.block S h.lt (fun e => h.neMS e.symm)).trans h.row
  have hA1 : av.ownBlock = none ∨ av.ownBlock ≠ mv.ownBlock := by
    cases hm : av.ownBlock with
    | none => exact .inl rfl
    | some g => exact .inr fun e => h.neAM hm e.symm
  have hgS := grown_setCell w1 S 1 (.slice (some ⟨M, 0, none⟩) (em.length + 1) c')
  refine ⟨⟨by rw [heap_setCell_same _ S 1 _ _ _ hS1]; rfl, (h.oa.kept hg hA1).kept hgS (.inr h.neAS), ?_, ?_, Nat.le_trans h.size (Nat.le_trans hg.size hgS.size)⟩, hS1⟩
  · have efl : (em ++ [e']).flatMap Ent.mark = em.flatMap Ent.mark ++ e'.mark := by simp
    rw [List.length_append, efl]; exact hown.kept hgS (.inr (by simpa [Value.ownBlock] using hMS))
  · rcases h.ox with h1 | ⟨X, c, D, e1, e2, h3, h4⟩
    · exact .inl h1
    · have h6 := h4.kept hg (fun e => by
        obtain ⟨cur, hh, _⟩ := own_block h.om e.symm
        exact map_ne h4 hh rfl)
      exact .inr ⟨X, c, D, e1, e2, h3, h6.kept hgS (by simpa using map_ne h6 hS1)⟩

/-- the map is made -/
theorem SetMem.makeX (h : SetMem w S B av mv xv ea em xs) :
    SetMem ((w.alloc (.map #[] 0)).setCell ⟨S, 2, none⟩ (.map (some w.heap.size))) S B av mv (.map (some w.heap.size)) ea em (some (w.heap.size, 0, .map [])) := by
  have hg := World.grownBy_alloc w (.map #[] 0) none
  have hS1 : (w.alloc (.map #[] 0)).heap[S]? = some (.cells #[av, mv, xv] 88 (0, 0)) := (hg.block S h.lt (by simp)).trans h.row
  have hgS := grown_setCell (w.alloc (.map #[] 0)) S 2 (.map (some w.heap.size))
  have hn : ∀ v : Value, v.ownBlock = none ∨ v.ownBlock ≠ none := fun v => by cases v.ownBlock <;> simp
  have h4 := World.ownsMap_made (H := Unit) w Try.prog 9 (plainElem Try.prog 3)
  refine ⟨by rw [heap_setCell_same _ S 2 _ _ _ hS1]; rfl, (h.oa.kept hg (hn _)).kept hgS (.inr h.neAS), (h.om.kept hg (hn _)).kept hgS (.inr h.neMS), .inr ⟨_, _, _, rfl, rfl, h.size, h4.kept hgS (by simpa using map_ne h4 hS1)⟩, Nat.le_trans h.size (Nat.le_trans hg.size hgS.size)⟩

/-- the map is written -/
theorem SetMem.putX {X c c' : Nat} {D D' : DataW Unit} (h : SetMem w S B av mv xv ea em (some (X, c, D))) (hg : w.grownBy w1 (some X)) (ho : w1.ownsMap Try.prog 9 (plainElem Try.prog 3) X c' D') : SetMem w1 S B av mv xv ea em (some (X, c', D')) := by
  obtain ⟨_, e⟩ | ⟨X', c1, D1, e1, e2, h3, h4⟩ := h.ox
  · rename_i h'; cases h'
  · simp only [Option.some.injEq, Prod.mk.injEq] at e1
    obtain ⟨rfl, rfl, rfl⟩ := e1
    have hA : ∀ {e : TypeId} {n k : Nat} {v : Value} {l : List Value}, w.ownsRow B e k v n l → v.ownBlock = none ∨ v.ownBlock ≠ some X := fun ho => by
      rename_i v _
      cases hv : v.ownBlock with
      | none => exact .inl rfl
      | some g =>
        refine .inr fun e => ?_
        obtain ⟨cur, hh, _⟩ := own_block ho hv
        have : X ≠ g := map_ne h4 hh
        exact this (by simpa using e.symm)
    exact ⟨(hg.block S h.lt (by simpa using Ne.symm (map_ne h4 h.row))).trans h.row, h.oa.kept hg (hA h.oa), h.om.kept hg (hA h.om), .inr ⟨_, _, _, rfl, e2, h3, ho⟩, Nat.le_trans h.size hg.size⟩
end
end Go.Proofs.Qxb6603471a
