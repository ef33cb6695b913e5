import Derived.Test.Qxb6603471aOwn
import Derived.Test.Qxb6603471aLpPlain
import Derived.Deep.AppendLies
namespace Go.Proofs.Qxb6603471a
open Go.RowKit
set_option linter.unusedSimpArgs false
set_option linter.unusedVariables false

/-- All is as it was but for block R, the row T0 and new blocks. -/
structure Fr (R : Nat) (T0 : Option Nat) (w0 wr : World) : Prop where
  os : wr.os = w0.os
  tape : wr.tape = w0.tape
  output : wr.output = w0.output
  size : w0.heap.size ≤ wr.heap.size
  block : ∀ k, k < w0.heap.size → k ≠ R → some k ≠ T0 → wr.heap[k]? = w0.heap[k]?

theorem Fr.refl (R : Nat) (T0 : Option Nat) (w : World) : Fr R T0 w w := ⟨rfl, rfl, rfl, Nat.le_refl _, fun _ _ _ _ => rfl⟩
theorem Fr.drewN {R : Nat} {T0 : Option Nat} {w0 wr : World} (h : Fr R T0 w0 wr) (m : Nat) : Fr R T0 w0 (wr.drewN m) := ⟨h.os, h.tape, h.output, h.size, h.block⟩

/-- The reader's struct in block R: its bytes 'iv', its place p, its room tv, which holds ts. -/
structure St (R : Nat) (iv : Value) (T0 : Option Nat) (w0 : World) (wr : World) (p : Nat) (tv : Value) (ts : List Int) : Prop where
  row : wr.heap[R]? = some (.cells #[iv, .int .i64 p, .int .i64 0, tv, .map none] 79 (0, 0))
  own : OwnB wr 0 tv ts
  notR : tv.ownBlock ≠ some R
  lies : tv.ownBlock = T0 ∨ ∃ g, tv.ownBlock = some g ∧ w0.heap.size ≤ g
  fr : Fr R T0 w0 wr

section
variable {R : Nat} {iv : Value} {T0 : Option Nat} {w0 wr : World} {p : Nat} {tv : Value} {ts : List Int}

theorem St.drewN (h : St R iv T0 w0 wr p tv ts) (m : Nat) : St R iv T0 w0 (wr.drewN m) p tv ts := ⟨h.row, h.own, h.notR, h.lies, h.fr.drewN m⟩

theorem St.c0 (h : St R iv T0 w0 wr p tv ts) : wr.cell? ⟨R, 0, none⟩ = some iv := by rw [cell_of_row wr R 0 _ _ _ h.row]; rfl
theorem St.c1 (h : St R iv T0 w0 wr p tv ts) : wr.cell? ⟨R, 1, none⟩ = some (.int .i64 p) := by rw [cell_of_row wr R 1 _ _ _ h.row]; rfl
theorem St.c3 (h : St R iv T0 w0 wr p tv ts) : wr.cell? ⟨R, 3, none⟩ = some tv := by rw [cell_of_row wr R 3 _ _ _ h.row]; rfl
theorem St.fz (h : St R iv T0 w0 wr p tv ts) (j : Nat) : wr.frozen? ⟨R, j, none⟩ = false := frozen_of_row wr R j _ _ h.row
theorem St.lt (h : St R iv T0 w0 wr p tv ts) : R < wr.heap.size := (Array.getElem?_eq_some_iff.1 h.row).1

theorem St.old (h : St R iv T0 w0 wr p tv ts) {k : Nat} (hk : k < w0.heap.size) (hR : k ≠ R) (hT : some k ≠ T0) (j : Nat) : wr.cell? ⟨k, j, none⟩ = w0.cell? ⟨k, j, none⟩ :=
  World.cell?_of_block (h.fr.block k hk hR hT)

/-- A row of the call's own while one cell of another block is written. -/
theorem ownB_set {wr : World} {tv : Value} {ts : List Int} {R j : Nat} {u : Value} (h : OwnB wr 0 tv ts) (hne : tv.ownBlock ≠ some R) : OwnB (wr.setCell ⟨R, j, none⟩ u) 0 tv ts :=
  World.ownsRow.kept (row := some R) h ⟨rfl, rfl, rfl, by simp [World.setCell], fun k _ hk => heap_setCell_other wr ⟨R, j, none⟩ k u (fun e => hk (by simp [e]))⟩ (.inr hne)

theorem Fr.set (h : Fr R T0 w0 wr) (j : Nat) (u : Value) : Fr R T0 w0 (wr.setCell ⟨R, j, none⟩ u) :=
  ⟨h.os, h.tape, h.output, by simpa [World.setCell] using h.size, fun k hk hR hT => (heap_setCell_other wr ⟨R, j, none⟩ k u (fun e => hR e)).trans (h.block k hk hR hT)⟩

/-- 'r.pos = q' -/
theorem St.pos (h : St R iv T0 w0 wr p tv ts) (q : Nat) : St R iv T0 w0 (wr.setCell ⟨R, 1, none⟩ (.int .i64 q)) q tv ts :=
  ⟨by rw [heap_setCell_same wr R 1 _ _ _ h.row]; rfl, ownB_set h.own h.notR, h.notR, h.lies, h.fr.set 1 _⟩

/-- 'r.text = v'', v' out of an append to r.text. -/
theorem St.text {w1 : World} {v' : Value} {ts' : List Int} (h : St R iv T0 w0 wr p tv ts) (hg : wr.grownBy w1 tv.ownBlock) (hown : OwnB w1 0 v' ts')
    (hat : v'.ownBlock = tv.ownBlock ∨ ∃ g, v'.ownBlock = some g ∧ wr.heap.size ≤ g) : St R iv T0 w0 (w1.setCell ⟨R, 3, none⟩ v') p v' ts' := by
  have hR1 : w1.heap[R]? = wr.heap[R]? := hg.block R h.lt (fun e => h.notR e.symm)
  have hv : v'.ownBlock ≠ some R := by
    rcases hat with e | ⟨g, e, hge⟩
    · rw [e]; exact h.notR
    · rw [e]; intro e'; have := h.lt; simp at e'; omega
  refine ⟨?_, ownB_set hown hv, hv, ?_, Fr.set ⟨hg.os.trans h.fr.os, hg.tape.trans h.fr.tape, hg.output.trans h.fr.output, Nat.le_trans h.fr.size hg.size, fun k hk hR hT => ?_⟩ 3 _⟩
  · rw [heap_setCell_same w1 R 3 _ _ _ (hR1.trans h.row)]; rfl
  · rcases hat with e | ⟨g, e, hge⟩
    · rw [e]; exact h.lies
    · exact .inr ⟨g, e, Nat.le_trans h.fr.size hge⟩
  · have hne : some k ≠ tv.ownBlock := by
      rcases h.lies with e | ⟨g, e, hge⟩
      · rw [e]; exact hT
      · rw [e]; intro e'; simp at e'; omega
    exact (hg.block k (Nat.lt_of_lt_of_le hk h.fr.size) hne).trans (h.fr.block k hk hR hT)
end

/-- append FROM WHATEVER SOURCE onto a row of the call's own, as one step of a region that draws: nothing may be appended. -/
theorem step_append_any {P : Program} (w : World) {ops : Array Oper} {o : Oper} {a : Act} {K : Act → World → Prop} {Q : Exit → Act → World → Prop} {E : Prop} (hgd : o.guard = none) (s x : Operand) (t : TypeId)
    (ho : o.op = .call { callee := .builtin .append, args := #[s, x], argTypes := #[t, t] })
    (e : TypeId) (i : TypeInfo) (z : Value) (bytes : Nat) (ht : P.underlying t = some (.slice e)) (hi : P.info? e = some i) (hz : i.zero = some z)
    (hsize : i.size = 1) (hby : i.bytes = bytes) (hzs : z.cells.size = 1)
    (v : Value) (n : Nat) (xs : List Value) (hs : a.eval s = v) (hown : w.ownsRow 0 e 1 v n xs)
    (ad : Addr) (m c : Nat) (news : List Value) (hx : a.eval x = .slice (some ad) m c) (hl : news.length = m) (hnews : ∀ j u, news[j]? = some u → w.cell? (ad.add j) = some u) (h1 : ∀ u ∈ news, u.oneCell' = true)
    (h63 : n + m ≤ maxLen) (hbytes : (n + m) * bytes ≤ 140737488355328)
    (h : ∀ a' c' w', w'.ownsRow 0 e 1 (.slice a' (n + m) c') (n + m) (xs ++ news) → w.grownBy w' v.ownBlock → ((Value.slice a' (n + m) c').ownBlock = v.ownBlock ∨ ∃ g, (Value.slice a' (n + m) c').ownBlock = some g ∧ w.heap.size ≤ g) → K (a.put o.dst (.slice a' (n + m) c')) w') :
    if Region.wanted o (yielded ops a.tmps) = true then Oper.wp P o a w K Q else E := by
  have hw : Region.wanted o (yielded ops a.tmps) = true := by simp [Region.wanted, hgd]
  rw [if_pos hw]
  obtain ⟨v', w', hr, h2, h3, _, h5⟩ := run_append_own_at (P := P) w 0 t o.type e i z 1 bytes ht hi hz hsize hby hzs (by decide) v n xs hown ad m c news (by simpa using hl) hnews h1 h63 hbytes (Nat.zero_le _)
  have hv : ∃ a' c', v' = .slice a' (n + m) c' := by
    rcases h2.2 with ⟨hv, h0⟩ | ⟨g, cap, cur, hv, _⟩
    · exact ⟨none, 0, by rw [hv, h0]⟩
    · exact ⟨_, cap, hv⟩
  obtain ⟨a', c', rfl⟩ := hv
  unfold Oper.wp execOp
  simp only [ho, resolve, invoke, builtin, Sem.run_bind, Sem.run_pure, Result.andThen_ok, List.map_toArray, List.map_cons, List.map_nil, hs, hx, hr]
  refine h a' c' w' h2 h3 ?_
  rcases h5 with h5 | h5
  · exact .inl h5
  · exact .inr ⟨_, h5, Nat.le_refl _⟩

/-- The same at a plain region's list. -/
theorem wpList_append_any {P : Program} (w : World) {ops : Array Oper} {rest : List Oper} {o : Oper} {a : Act} {Q : Exit → Act → World → Prop} (hgd : o.guard = none) (s x : Operand) (t : TypeId)
    (ho : o.op = .call { callee := .builtin .append, args := #[s, x], argTypes := #[t, t] })
    (e : TypeId) (i : TypeInfo) (z : Value) (bytes : Nat) (ht : P.underlying t = some (.slice e)) (hi : P.info? e = some i) (hz : i.zero = some z)
    (hsize : i.size = 1) (hby : i.bytes = bytes) (hzs : z.cells.size = 1)
    (v : Value) (n : Nat) (xs : List Value) (hs : a.eval s = v) (hown : w.ownsRow 0 e 1 v n xs)
    (ad : Addr) (m c : Nat) (news : List Value) (hx : a.eval x = .slice (some ad) m c) (hl : news.length = m) (hnews : ∀ j u, news[j]? = some u → w.cell? (ad.add j) = some u) (h1 : ∀ u ∈ news, u.oneCell' = true)
    (h63 : n + m ≤ maxLen) (hbytes : (n + m) * bytes ≤ 140737488355328)
    (h : ∀ a' c' w', w'.ownsRow 0 e 1 (.slice a' (n + m) c') (n + m) (xs ++ news) → w.grownBy w' v.ownBlock → ((Value.slice a' (n + m) c').ownBlock = v.ownBlock ∨ ∃ g, (Value.slice a' (n + m) c').ownBlock = some g ∧ w.heap.size ≤ g) → wpList P ops Q rest (a.put o.dst (.slice a' (n + m) c')) w') :
    wpList P ops Q (o :: rest) a w := by
  refine wpList_plain hgd fun K hK => ?_
  have hw : Region.wanted o (yielded ops a.tmps) = true := by simp [Region.wanted, hgd]
  have := step_append_any (K := K) (Q := Q) (E := False) (ops := ops) w hgd s x t ho e i z bytes ht hi hz hsize hby hzs v n xs hs hown ad m c news hx hl hnews h1 h63 hbytes (fun a' c' w' h2 h3 h4 => hK _ _ (h a' c' w' h2 h3 h4))
  rw [if_pos hw] at this
  exact this

/-- A block more ahead of an append. -/
theorem St.textA {R : Nat} {iv : Value} {T0 : Option Nat} {w0 wr : World} {p : Nat} {tv : Value} {ts : List Int} {w1 : World} {v' : Value} {ts' : List Int} (h : St R iv T0 w0 wr p tv ts) (x : Obj) (hg : (wr.alloc x).grownBy w1 tv.ownBlock) (hown : OwnB w1 0 v' ts')
    (hat : v'.ownBlock = tv.ownBlock ∨ ∃ g, v'.ownBlock = some g ∧ wr.heap.size + 1 ≤ g) : St R iv T0 w0 (w1.setCell ⟨R, 3, none⟩ v') p v' ts' := by
  refine h.text ⟨hg.os, hg.tape, hg.output, Nat.le_trans (by simp) hg.size, fun k hk hr => ?_⟩ hown (hat.imp_right fun ⟨g, e, hge⟩ => ⟨g, e, by omega⟩)
  exact (hg.block k (by simp; omega) hr).trans (Below.heap_alloc wr x k hk)

/-- The reader's own cells behind an append to its room. -/
theorem St.far {R : Nat} {iv : Value} {T0 : Option Nat} {w0 wr : World} {p : Nat} {tv : Value} {ts : List Int} {w1 : World} (h : St R iv T0 w0 wr p tv ts) (hg : wr.grownBy w1 tv.ownBlock) :
    w1.cell? ⟨R, 0, none⟩ = some iv ∧ w1.cell? ⟨R, 1, none⟩ = some (.int .i64 p) ∧ w1.cell? ⟨R, 3, none⟩ = some tv ∧ w1.frozen? ⟨R, 1, none⟩ = false ∧ w1.frozen? ⟨R, 3, none⟩ = false := by
  have e : w1.heap[R]? = wr.heap[R]? := hg.block R h.lt (fun e => h.notR e.symm)
  refine ⟨?_, ?_, ?_, ?_, ?_⟩
  · rw [World.cell?_of_block (w := wr) e]; exact h.c0
  · rw [World.cell?_of_block (w := wr) e]; exact h.c1
  · rw [World.cell?_of_block (w := wr) e]; exact h.c3
  · rw [World.frozen?_of_block (w := wr) e]; exact h.fz 1
  · rw [World.frozen?_of_block (w := wr) e]; exact h.fz 3

theorem St.farA {R : Nat} {iv : Value} {T0 : Option Nat} {w0 wr : World} {p : Nat} {tv : Value} {ts : List Int} {w1 : World} (h : St R iv T0 w0 wr p tv ts) (x : Obj) (hg : (wr.alloc x).grownBy w1 tv.ownBlock) :
    w1.cell? ⟨R, 0, none⟩ = some iv ∧ w1.cell? ⟨R, 1, none⟩ = some (.int .i64 p) ∧ w1.cell? ⟨R, 3, none⟩ = some tv ∧ w1.frozen? ⟨R, 1, none⟩ = false ∧ w1.frozen? ⟨R, 3, none⟩ = false := by
  refine h.far ⟨hg.os, hg.tape, hg.output, Nat.le_trans (by simp) hg.size, fun k hk hr => ?_⟩
  exact (hg.block k (by simp; omega) hr).trans (Below.heap_alloc wr x k hk)

end Go.Proofs.Qxb6603471a
