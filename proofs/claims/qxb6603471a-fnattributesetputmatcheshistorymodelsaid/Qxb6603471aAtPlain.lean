import Derived.Test.Qxb6603471aAtSet
namespace Go.Proofs.Qxb6603471a
open Go.RowKit Go.Maps
set_option linter.unusedSimpArgs false
set_option linter.unusedVariables false

def Put.val (p : Put) : List Value := vcells p.ty p.str p.int
def Put.kv (p : Put) : List Value := .string p.key :: p.val

/-- '1 << r', of eight bits -/
def bitOf (r : Int) : Int := 2 ^ min r.toNat 8 % 256
def bor (a b : Int) : Int := bits BinOp.or IntKind.u8 a b

def merge (e : Ent) (p : Put) : Ent := if p.rank < e.rank then { e with held := bor e.held (bitOf p.rank) } else ⟨e.key, p.ty, p.str, p.int, p.rank, bor e.held (bitOf p.rank)⟩
def fresh (p : Put) : Ent := ⟨p.key, p.ty, p.str, p.int, p.rank, bitOf p.rank⟩

def putE (es : List Ent) (p : Put) : List Ent :=
  match findE es p.key with
  | some i => es.set i (merge (es.getD i default) p)
  | none => es ++ [fresh p]

/-- the value that a put hands back -/
def leftE (es : List Ent) (p : Put) : List Value :=
  match findE es p.key with
  | some i => if p.rank < (es.getD i default).rank then p.val else (es.getD i default).val
  | none => vcells 0 ⟨#[]⟩ 0

theorem merge_key (e : Ent) (p : Put) : (merge e p).key = e.key := by unfold merge; split <;> rfl

theorem findE_keys {es es' : List Ent} (h : es.map Ent.key = es'.map Ent.key) (k : ByteArray) : findE es k = findE es' k := by
  have e : ∀ l : List Ent, findE l k = (l.map Ent.key).findIdx? (fun x => decide (x = k)) := fun l => by
    unfold findE; rw [List.findIdx?_map]; rfl
  rw [e, e, h]

theorem IdxOk.keys {D : DataW Unit} {es es' : List Ent} (h : IdxOk D es) (hk : es.map Ent.key = es'.map Ent.key) : IdxOk D es' := by
  refine ⟨h.1, fun k => ?_⟩
  rw [← findE_keys hk]; exact h.2 k

theorem set_keys (es : List Ent) (i : Nat) (hi : i < es.length) (e' : Ent) (h : e'.key = es[i].key) : (es.set i e').map Ent.key = es.map Ent.key := by
  rw [List.map_set, h]
  have : es[i].key = (es.map Ent.key)[i]'(by simpa using hi) := by simp
  rw [this, List.set_getElem_self]

theorem findE_append (es : List Ent) (e : Ent) (k : ByteArray) : findE (es ++ [e]) k = (findE es k).or (if e.key = k then some es.length else none) := by
  unfold findE
  rw [List.findIdx?_append]
  congr 1
  by_cases h : e.key = k <;> simp [h, List.findIdx?_cons]

end Go.Proofs.Qxb6603471a
