import Derived.Test.Qxb6603471aAtMem
import Derived.Maps.OwnSet
import Derived.Maps.OwnOps
import Derived.Maps.AppendAt
import Derived.StringKeys
namespace Go.Proofs.Qxb6603471a
open Go.RowKit Go.Maps
set_option linter.unusedSimpArgs false
set_option linter.unusedVariables false

/-- One key of a set: its value's three fields that a script can give, its rank, its held bits. -/
structure Ent where
  key : ByteArray
  ty : Int
  str : ByteArray
  int : Int
  rank : Int
  held : Int

instance : Inhabited Ent := ⟨⟨ByteArray.empty, 0, ByteArray.empty, 0, 0, 0⟩⟩

/-- the eight cells of a value -/
def vcells (ty : Int) (str : ByteArray) (int : Int) : List Value := [.int .u8 ty, .string str, .bool false, .int .i64 int, .float .f64 0, .slice none 0 0, .slice none 0 0, .slice none 0 0]
def Ent.val (e : Ent) : List Value := vcells e.ty e.str e.int
def Ent.kv (e : Ent) : List Value := .string e.key :: e.val
def Ent.mark (e : Ent) : List Value := [.int .u8 e.rank, .int .u8 e.held]

theorem Ent.kv_length (e : Ent) : e.kv.length = 9 := rfl
theorem Ent.mark_length (e : Ent) : e.mark.length = 2 := rfl

def findE (es : List Ent) (k : ByteArray) : Option Nat := es.findIdx? (fun e => decide (e.key = k))

theorem findE_hit (es : List Ent) (k : ByteArray) (i : Nat) (hi : i < es.length) (hb : ∀ j, j < i → ¬ (es.getD j default).key = k) (h : (es.getD i default).key = k) : findE es k = some i := by
  unfold findE
  rw [List.findIdx?_eq_some_iff_getElem]
  refine ⟨hi, by simpa [List.getD, hi] using h, fun j hj => ?_⟩
  have := hb j hj
  simpa [List.getD, show j < es.length by omega] using this

theorem findE_miss (es : List Ent) (k : ByteArray) (hb : ∀ j, j < es.length → ¬ (es.getD j default).key = k) : findE es k = none := by
  unfold findE
  rw [List.findIdx?_eq_none_iff]
  intro x hx
  obtain ⟨j, hj, rfl⟩ := List.mem_iff_getElem.1 hx
  simpa [List.getD, hj] using hb j hj

theorem findE_some {es : List Ent} {k : ByteArray} {i : Nat} (h : findE es k = some i) : i < es.length ∧ (es.getD i default).key = k ∧ ∀ j, j < i → ¬ (es.getD j default).key = k := by
  unfold findE at h
  rw [List.findIdx?_eq_some_iff_getElem] at h
  obtain ⟨hi, h1, h2⟩ := h
  refine ⟨hi, by simpa [List.getD, hi] using h1, fun j hj => ?_⟩
  simpa [List.getD, show j < es.length by omega] using h2 j hj

theorem findE_none {es : List Ent} {k : ByteArray} (h : findE es k = none) : ∀ j, j < es.length → ¬ (es.getD j default).key = k := by
  unfold findE at h
  rw [List.findIdx?_eq_none_iff] at h
  intro j hj
  have := h es[j] (List.getElem_mem hj)
  simpa [List.getD, hj] using this

/-- a key, as the map's datum has it -/
def klit (k : ByteArray) : Lit := .string k.data.toList

theorem klit_inj {a b : ByteArray} (h : klit a = klit b) : a = b := by
  unfold klit at h
  simp only [Lit.string.injEq] at h
  cases a; cases b; simp_all

/-- The map gives each key's place. -/
def IdxOk (D : DataW Unit) (es : List Ent) : Prop := IsMap D ∧ ∀ k, (∀ i, findE es k = some i → Maps.has D (klit k) = true ∧ ∀ z, D.atKey (klit k) z = .lit (.int .i64 i)) ∧ (findE es k = none → Maps.has D (klit k) = false)

/-- The set's struct in block S, its rows and its map in blocks from B on: the keys and values of ea, the marks of em, the map xs (its block, a bound on its entries, what it reads as). -/
structure SetMem (w : World) (S B : Nat) (av mv xv : Value) (ea em : List Ent) (xs : Option (Nat × Nat × DataW Unit)) : Prop where
  row : w.heap[S]? = some (.cells #[av, mv, xv] 88 (0, 0))
  oa : w.ownsRow B 55 9 av ea.length (ea.flatMap Ent.kv)
  om : w.ownsRow B 92 2 mv em.length (em.flatMap Ent.mark)
  ox : (xs = none ∧ xv = .map none) ∨ ∃ X c D, xs = some (X, c, D) ∧ xv = .map (some X) ∧ B ≤ X ∧ w.ownsMap Try.prog 9 (plainElem Try.prog 3) X c D
  size : B ≤ w.heap.size

/-- The set in block S holds the keys es. -/
structure SetAt (w : World) (S B : Nat) (av mv xv : Value) (es : List Ent) (xs : Option (Nat × Nat × DataW Unit)) : Prop extends SetMem w S B av mv xv es es xs where
  nd : (es.map Ent.key).Nodup
  ko : ∀ e ∈ es, e.key.size ≤ maxLen
  ix : (es.length ≤ 16 ∧ xs = none) ∨ (16 < es.length ∧ ∃ X D, xs = some (X, es.length, D) ∧ IdxOk D es)

theorem flatMap_at {α : Type} (f : α → List Value) (c : Nat) (hc : ∀ a, (f a).length = c) (hc0 : 0 < c) : ∀ (l : List α) (i j : Nat) (a : α), l[i]? = some a → j < c → (l.flatMap f)[i * c + j]? = (f a)[j]?
  | [], i, j, a, h, _ => by simp at h
  | x :: r, 0, j, a, h, hj => by
    simp at h; subst h
    simp only [List.flatMap_cons, Nat.zero_mul, Nat.zero_add]
    rw [List.getElem?_append_left (by rw [hc]; exact hj)]
  | x :: r, i + 1, j, a, h, hj => by
    simp at h
    simp only [List.flatMap_cons]
    rw [List.getElem?_append_right (by rw [hc, Nat.succ_mul]; omega), hc]
    have := flatMap_at f c hc hc0 r i j a h hj
    rw [← this]
    congr 1
    rw [Nat.succ_mul]; omega

theorem ownsRow_at {α : Type} {w : World} {B g n cap : Nat} {e : TypeId} (f : α → List Value) (c : Nat) (hc : ∀ a, (f a).length = c) (hc0 : 0 < c) {l : List α} (h : w.ownsRow B e c (.slice (some ⟨g, 0, none⟩) n cap) n (l.flatMap f)) (hn : l.length = n) {i : Nat} {a : α} (ha : l[i]? = some a) :
    w.rangeAt g (i * c) (f a) := by
  intro j v hv
  have hj : j < c := by rw [← hc a]; exact (List.getElem?_eq_some_iff.1 hv).1
  have hi : i < n := by rw [← hn]; exact (List.getElem?_eq_some_iff.1 ha).1
  rw [h.cellAt (i * c + j) (by have := Nat.mul_le_mul_right c hi; rw [Nat.succ_mul] at this; omega), flatMap_at f c hc hc0 l i j a ha hj, hv]

section
variable {w : World} {S B : Nat} {av mv xv : Value} {ea em : List Ent} {xs : Option (Nat × Nat × DataW Unit)}

theorem SetMem.c0 (h : SetMem w S B av mv xv ea em xs) : w.cell? ⟨S, 0, none⟩ = some av := by rw [cell_of_row w S 0 _ _ _ h.row]; rfl
theorem SetMem.c1 (h : SetMem w S B av mv xv ea em xs) : w.cell? ⟨S, 1, none⟩ = some mv := by rw [cell_of_row w S 1 _ _ _ h.row]; rfl
theorem SetMem.c2 (h : SetMem w S B av mv xv ea em xs) : w.cell? ⟨S, 2, none⟩ = some xv := by rw [cell_of_row w S 2 _ _ _ h.row]; rfl
theorem SetMem.fz (h : SetMem w S B av mv xv ea em xs) (j : Nat) : w.frozen? ⟨S, j, none⟩ = false := frozen_of_row w S j _ _ h.row
theorem SetMem.lt (h : SetMem w S B av mv xv ea em xs) : S < w.heap.size := (Array.getElem?_eq_some_iff.1 h.row).1

theorem own_form {w : World} {B c n : Nat} {e : TypeId} {v : Value} {xs : List Value} (h : w.ownsRow B e c v n xs) : ∃ a cap, v = .slice a n cap ∧ n ≤ cap ∧ (a = none → n = 0 ∧ cap = 0) ∧ (∀ x, a = some x → ∃ g, x = ⟨g, 0, none⟩) := by
  rcases h.2 with ⟨rfl, h0⟩ | ⟨g, cap, cur, rfl, _, _, hnc, _⟩
  · exact ⟨none, 0, by rw [h0], by omega, fun _ => ⟨h0, rfl⟩, fun x hx => by cases hx⟩
  · exact ⟨_, cap, rfl, hnc, (fun h => by cases h), fun x hx => ⟨g, (Option.some.inj hx).symm⟩⟩
end

theorem law9 : Keyed Try.prog 9 := string_keyed Try.underlying9
theorem zero3 (w : World) : (zeroValue 3).run Try.prog w = .ok (.int .i64 0) w := by kernel_rfl
theorem key9 {k : ByteArray} (h : k.size ≤ maxLen) : keyOf Try.prog 9 (.string k) = some (klit k) := Go.WideMaps.keyOf_string_mk Try.underlying9 h

/-- What 'place' gives. -/
def PlacePost (es : List Ent) (k : ByteArray) (w : World) (e : Ending) (w' : World) : Prop :=
  e = .returned (.tuple #[.int .i64 (((findE es k).getD 0 : Nat) : Int), .bool (findE es k).isSome]) ∧ w = w'

theorem place_hit {es : List Ent} {k : ByteArray} {i : Nat} {w : World} (h : findE es k = some i) : PlacePost es k w (.returned (.tuple #[.int .i64 (i : Int), .bool true])) w := by
  unfold PlacePost; rw [h]; exact ⟨rfl, rfl⟩
theorem place_miss {es : List Ent} {k : ByteArray} {w : World} (h : findE es k = none) : PlacePost es k w (.returned (.tuple #[.int .i64 0, .bool false])) w := by
  unfold PlacePost; rw [h]; exact ⟨rfl, rfl⟩

theorem str_eq (a b : ByteArray) : (a.toList == b.toList) = decide (a = b) := by
  rw [ByteArray.toList_eq, ByteArray.toList_eq]
  by_cases h : a = b
  · subst h; simp
  · rw [decide_eq_false h, beq_eq_false_iff_ne]
    exact fun e => h (Go.WideShapes.bytes_inj e)

theorem str_ne (a b : ByteArray) : (a.toList != b.toList) = !decide (a = b) := by
  unfold bne; rw [str_eq]

set_option maxRecDepth 100000 in
set_option maxHeartbeats 1000000 in
/-- 'place' -/
theorem place_any (S B : Nat) (av mv xv : Value) (es : List Ent) (xs : Option (Nat × Nat × DataW Unit)) (k : ByteArray) (w : World) (h : Hid (SetAt w S B av mv xv es xs)) (hk : k.size ≤ maxLen) (hn0 : Hid (es.length ≤ 1048576)) :
    Calls Try.prog 47 #[.pointer (some ⟨S, 0, none⟩), .string k] w fun e w' => PlacePost es k w e w' := by
  have c0 := h.out.c0
  have c2 := h.out.c2
  have hix : (es.length ≤ 16 ∧ xv = .map none) ∨ (16 < es.length ∧ ∃ X D, xv = .map (some X) ∧ B ≤ X ∧ w.ownsMap Try.prog 9 (plainElem Try.prog 3) X es.length D ∧ IdxOk D es) := by
    rcases h.out.ix with ⟨h1, e1⟩ | ⟨h1, X, D, e1, hok⟩
    · rcases h.out.ox with ⟨_, e2⟩ | ⟨X, c, D, e2, _⟩
      · exact .inl ⟨h1, e2⟩
      · rw [e1] at e2; cases e2
    · rcases h.out.ox with ⟨e2, _⟩ | ⟨X', c, D', e2, e3, h3, h4⟩
      · rw [e1] at e2; cases e2
      · rw [e1] at e2
        simp only [Option.some.injEq, Prod.mk.injEq] at e2
        obtain ⟨rfl, rfl, rfl⟩ := e2
        exact .inr ⟨h1, X, D, e3, h3, h4, hok⟩
  have OA := h.out.oa
  obtain ⟨n, hnn⟩ : ∃ n, n = es.length := ⟨_, rfl⟩
  have HN : Hid (n = es.length) := hnn
  have hn' : n ≤ 1048576 := by rw [hnn]; exact hn0.out
  obtain ⟨a, cap, rfl, hac, hnil, haddr⟩ := own_form OA
  rw [← hnn] at c0 hac OA hix hnil
  have HOA : Hid (w.ownsRow B 55 9 (.slice a n cap) n (es.flatMap Ent.kv)) := OA
  have HX : Hid ((n ≤ 16 ∧ xv = .map none) ∨ (16 < n ∧ ∃ X D, xv = .map (some X) ∧ B ≤ X ∧ w.ownsMap Try.prog 9 (plainElem Try.prog 3) X n D ∧ IdxOk D es)) := hix
  clear OA hnn hix
  by_cases h16 : n ≤ 16
  · clear c2 HX
    go_enter Try.func47, Try.ntmps47
    go_wp2
    go_loopw [31] (fun i wr => ∃ j : Nat, j ≤ n ∧ i = .int .i64 j ∧ Hid (∀ i, i < j → ¬ (es.getD i default).key = k) ∧ w = wr) (fun i _ => n - (intOf i).toNat)
    case atStart => exact ⟨0, Nat.zero_le _, rfl, fun i hi => absurd hi (Nat.not_lt_zero _), by first | rfl | trivial⟩
    case round =>
      obtain ⟨j, hj, rfl, HB, rfl⟩ := hrel
      by_cases hlt : j < n
      · obtain ⟨x, rfl⟩ : ∃ x, a = some x := by
          cases a with
          | none => have := (hnil rfl).1; omega
          | some x => exact ⟨x, rfl⟩
        obtain ⟨g, rfl⟩ := haddr x rfl
        have hjl : j < es.length := by rw [← HN.out]; exact hlt
        have hr := ownsRow_at Ent.kv 9 Ent.kv_length (by decide) HOA.out HN.out.symm (i := j) (List.getElem?_eq_getElem hjl)
        have e0 : es[j]'hjl = es.getD j default := by simp [List.getD, hjl]
        rw [e0] at hr
        have g1 : w.cell? ⟨g, j * 9, none⟩ = some (.string (es.getD j default).key) := hr 0 _ rfl
        obtain ⟨s, hs⟩ : ∃ s, s = (es.getD j default).key := ⟨_, rfl⟩
        rw [← hs] at g1
        have HS : Hid (s = (es.getD j default).key) := hs
        have HJ : Hid (j < es.length) := hjl
        clear hr e0 hs hnil haddr hjl
        by_cases hsk : s = k
        · have hsk' : (s.toList == k.toList) = true := by rw [str_eq]; simpa using hsk
          go_wp2
          go_ret2
          exact place_hit (findE_hit es k j HJ.out HB.out (by rw [← HS.out]; exact hsk))
        · have hsk' : (s.toList == k.toList) = false := by rw [str_eq]; simpa using hsk
          go_wp2
          go_roundw
          case rel =>
            refine ⟨j + 1, by omega, by go_num, fun i hi => ?_, by first | rfl | trivial⟩
            by_cases e : i = j
            · subst e; rw [← HS.out]; exact hsk
            · exact HB.out i (by omega)
          case measure => simp [intOf]; omega
      · go_wp2
        go_ret2
        exact place_miss (findE_miss es k (fun i hi => HB.out i (by have := HN.out; omega)))
  · obtain ⟨_, X, D, rfl, hBX, hown, hok⟩ := HX.out.resolve_left (fun hh => h16 hh.1)
    have HK : Hid (IdxOk D es) := hok
    have hkey := key9 hk
    have HNN : Hid (n ≤ 1048576) := hn'
    clear hok HX
    cases hf : findE es k with
    | some i =>
      have hhas := ((HK.out.2 k).1 i hf).1
      have hat' := ((HK.out.2 k).1 i hf).2
      have HF : Hid (findE es k = some i) := hf
      clear hf
      go_enter Try.func47, Try.ntmps47
      go_wp2_with (first
        | (at_lookup; refine wpList_lookup_own_ok_int _ rfl _ _ 86 rfl 9 3 .i64 law9 Try.underlying86 Try.underlying3 (zero3 _) X n D rfl hown _ _ rfl hkey ?_; intro c hat hwc)
        | go_in)
      have hci : c = (i : Int) := by
        have e := hat.symm.trans (hat' _)
        simpa using e
      subst hci
      go_ret2
      exact place_hit HF.out
    | none =>
      have hhas := (HK.out.2 k).2 hf
      have hat' := fun z => Maps.atKey_of_not_has hhas z
      have HF : Hid (findE es k = none) := hf
      clear hf
      go_enter Try.func47, Try.ntmps47
      go_wp2_with (first
        | (at_lookup; refine wpList_lookup_own_ok_int _ rfl _ _ 86 rfl 9 3 .i64 law9 Try.underlying86 Try.underlying3 (zero3 _) X n D rfl hown _ _ rfl hkey ?_; intro c hat hwc)
        | go_in)
      have hci : c = 0 := by
        have e := hat.symm.trans (hat' _)
        simpa using e
      subst hci
      go_ret2
      exact place_miss HF.out
end Go.Proofs.Qxb6603471a
