import Derived.Test.Qxb6603471aAtFold
import Derived.Deep.CutBlock
import Derived.Deep.DeepCutAuto
namespace Go.Proofs.Qxb6603471a
open Go.RowKit Go.Maps
set_option linter.unusedSimpArgs false
set_option linter.unusedVariables false

/-- What the bound on the lengths tells. -/
def Bytes5Post (n1 : Nat) (w : World) (e : Ending) (w' : World) : Prop := (∃ b : Bool, e = .returned (.bool b) ∧ (b = true → n1 ≤ 1048576)) ∧ w = w'
theorem b5_no {n1 : Nat} {w : World} : Bytes5Post n1 w (.returned (.bool false)) w := ⟨⟨_, rfl, fun h => by cases h⟩, rfl⟩
theorem b5_yes {n1 : Nat} {w : World} (h : n1 ≤ 1048576) : Bytes5Post n1 w (.returned (.bool true)) w := ⟨⟨_, rfl, fun _ => h⟩, rfl⟩

set_option maxHeartbeats 2000000 in
/-- the bound on the lengths -/
theorem bytes5 (a1 : Option Addr) (n1 c1 : Nat) (o1 : List Put) (w : World) (h1 : Hid (RdO w a1 n1 o1)) (m1 : n1 ≤ 9223372036854775807) :
    Calls Try.prog 25 #[.slice a1 n1 c1] w fun e w' => Bytes5Post n1 w e w' := by
  by_cases k1 : n1 ≤ 1048576
  · go_enter Try.func25, Try.ntmps25
    go_wp2_with fail
    go_loopw [3, 4] (fun t i wr => ∃ (k : Nat) (z : Int), k ≤ n1 ∧ i = .int .i64 k ∧ t = .int .i64 z ∧ 0 ≤ z ∧ z ≤ 1048576 ∧ w = wr) (fun _ i _ => n1 - (intOf i).toNat)
    case atStart => exact ⟨0, n1, Nat.zero_le _, rfl, rfl, by omega, by omega, by first | rfl | trivial⟩
    case round =>
      obtain ⟨k, z, hk, rfl, rfl, hz0, hz1, rfl⟩ := hrel
      by_cases hlt : k < n1
      · obtain ⟨b, o, rfl, hc⟩ := h1.out.2.resolve_left (by omega)
        have hr := hc k hlt
        obtain ⟨p, hp⟩ : ∃ p, p = o1.getD k default := ⟨_, rfl⟩
        rw [← hp] at hr
        have g1 := put_c1 hr
        have g3 := put_c3 hr
        clear hc hr hp
        obtain ⟨⟨pr, pk, pt, ps, pi⟩, rfl⟩ : ∃ q : Put, q = p := ⟨_, rfl⟩
        dsimp only at g1 g3
        by_cases hk1 : 1048576 < pk.size
        · go_wp2
          go_ret
          exact b5_no
        · by_cases ht1 : 1048576 < z + pk.size
          · go_wp2
            go_ret
            exact b5_no
          · by_cases hk2 : 1048576 < ps.size
            · go_wp2
              go_ret
              exact b5_no
            · by_cases ht2 : 1048576 < z + pk.size + ps.size
              · go_wp2
                go_ret
                exact b5_no
              · go_wp2
                go_roundw
                case rel => exact ⟨k + 1, _, by omega, by go_num, rfl, by omega, by omega, by first | rfl | trivial⟩
                case measure => simp [intOf]; omega
      · go_wp2
        go_ret
        exact b5_yes k1
  · go_enter Try.func25, Try.ntmps25
    go_wp2
    go_ret
    exact b5_no

/-- 'putBit' -/
theorem putBit_any (r : Int) (h0 : 0 ≤ r) (h1 : r ≤ 255) (w : World) : Calls Try.prog 46 #[.int .u8 r] w fun e w' => e = .returned (.int .u8 (bitOf r)) ∧ w = w' := by
  by_cases h8 : r < 8
  · have e : bitOf r = 2 ^ r.toNat % 256 := by
      unfold bitOf
      rw [show min r.toNat 8 = r.toNat by omega]
    rw [e]
    go_enter Try.func46, Try.ntmps46
    go_wp2
    go_ret
    exact ⟨rfl, rfl⟩
  · have e : bitOf r = 0 := by
      unfold bitOf
      rw [show min r.toNat 8 = 8 by omega]; rfl
    rw [e]
    go_enter Try.func46, Try.ntmps46
    go_wp2
    go_ret
    exact ⟨rfl, rfl⟩

set_option maxRecDepth 100000 in
set_option maxHeartbeats 2000000 in
/-- 'valueIs' of a put's own value -/
theorem valueIs_same (pr : Int) (pk : ByteArray) (vt : Int) (vs : ByteArray) (vi : Int) (w : World) :
    Calls Try.prog 33 #[.agg #[.int .u8 vt, .string vs, .bool false, .int .i64 vi, .float .f64 0, .slice none 0 0, .slice none 0 0, .slice none 0 0], .agg #[.int .u8 pr, .string pk, .int .u8 vt, .string vs, .int .i64 vi]] w fun e w' => e = .returned (.bool true) ∧ Below w.heap.size w w' := by
  have HB : Hid (Below w.heap.size w ((w.alloc (.cells #[.int .u8 vt, .string vs, .bool false, .int .i64 vi, .float .f64 0, .slice none 0 0, .slice none 0 0, .slice none 0 0] 49)).alloc (.cells #[.int .u8 pr, .string pk, .int .u8 vt, .string vs, .int .i64 vi] 53))) := ((Below.refl _ _).alloc (Nat.le_refl _) _).alloc (by simp) _
  have q := f00
  go_enter Try.func33, Try.ntmps33
  go_wp2
  go_ret
  exact ⟨rfl, HB.out⟩

set_option maxRecDepth 100000 in
set_option maxHeartbeats 2000000 in
/-- 'valueIsZero' of the zero value -/
theorem valueIsZero_zero (w : World) :
    Calls Try.prog 32 #[.agg #[.int .u8 0, .string ⟨#[]⟩, .bool false, .int .i64 0, .float .f64 0, .slice none 0 0, .slice none 0 0, .slice none 0 0]] w fun e w' => e = .returned (.bool true) ∧ Below w.heap.size w w' := by
  have HB : Hid (Below w.heap.size w (w.alloc (.cells #[.int .u8 0, .string ⟨#[]⟩, .bool false, .int .i64 0, .float .f64 0, .slice none 0 0, .slice none 0 0, .slice none 0 0] 49))) := (Below.refl _ _).alloc (Nat.le_refl _) _
  have q := f00
  go_enter Try.func32, Try.ntmps32
  go_wp2
  go_ret
  exact ⟨rfl, HB.out⟩

/-- the next best -/
def nxt (os : List Put) (i : Nat) (pr : Int) : Option Nat → Option Nat
  | none => some i
  | some b => if (os.getD b default).rank ≤ pr then some i else some b

/-- The history of a key: the last put of the highest rank among the first m, and the bits. -/
def kh (os : List Put) (k : ByteArray) : Nat → Option Nat × Int
  | 0 => (none, 0)
  | m + 1 => if (os.getD m default).key = k then
      (nxt os m (os.getD m default).rank (kh os k m).1, bor (kh os k m).2 (bitOf (os.getD m default).rank))
    else kh os k m

theorem kh_lt (os : List Put) (k : ByteArray) : ∀ m b, (kh os k m).1 = some b → b < m
  | 0, b, h => by cases h
  | m + 1, b, h => by
    unfold kh at h
    split at h
    · cases hq : (kh os k m).1 with
      | none => rw [hq] at h; simp [nxt] at h; omega
      | some b' =>
        have := kh_lt os k m b' hq
        rw [hq] at h
        dsimp only [nxt] at h
        split at h <;> simp at h <;> omega
    · have := kh_lt os k m b h; omega

def bestOf : Option Nat → Int
  | none => -1
  | some b => b

/-- What 'keyHistory' gives. -/
def HistPost (os : List Put) (k : ByteArray) (m : Nat) (w : World) (e : Ending) (w' : World) : Prop :=
  e = .returned (.tuple #[.int .i64 (bestOf (kh os k m).1), .int .u8 (kh os k m).2]) ∧ ∃ x, w' = w.drewN x

set_option maxRecDepth 100000 in
set_option maxHeartbeats 2000000 in
/-- 'keyHistory' -/
theorem hist_any (ao : Option Addr) (n c : Nat) (os : List Put) (k : ByteArray) (m : Nat) (w : World) (h : Hid (RdO w ao n os)) (hok : Hid (∀ p ∈ os, p.ok)) (hm : m ≤ n) (hn : n ≤ 1048576) :
    Calls Try.prog 37 #[.slice ao n c, .string k, .int .i64 m] w fun e w' => HistPost os k m w e w' := by
  go_enter Try.func37, Try.ntmps37
  go_wp2
  go_loopw [8, 9, 10] (fun tb th ti wr => ∃ (i x : Nat), i ≤ m ∧ ti = .int .i64 i ∧ tb = .int .i64 (bestOf (kh os k i).1) ∧ th = .int .u8 (kh os k i).2 ∧ wr = w.drewN x) (fun _ _ t _ => m - (intOf t).toNat)
  case atStart => exact ⟨0, 0, Nat.zero_le _, rfl, rfl, rfl, rfl⟩
  case round =>
    obtain ⟨i, x, hi, rfl, rfl, rfl, rfl⟩ := hrel
    by_cases hlt : i < m
    · obtain ⟨b, o, rfl, hc⟩ := h.out.2.resolve_left (by omega)
      have hpr := hc i (by omega)
      have HST : Hid (kh os k (i + 1) = if (os.getD i default).key = k then
          (nxt os i (os.getD i default).rank (kh os k i).1, bor (kh os k i).2 (bitOf (os.getD i default).rank)) else kh os k i) := rfl
      have HLB : Hid (∀ b, (kh os k i).1 = some b → b < i) := kh_lt os k i
      have HPB : Hid (∀ b' : Nat, b' < n → w.cell? ⟨b, o + b' * 5, none⟩ = some (.int .u8 (os.getD b' default).rank)) := fun b' hb' => put_c0 (hc b' hb')
      have hil : i < os.length := by rw [h.out.1]; omega
      have hokp := (hok.out (os.getD i default) (by rw [show os.getD i default = os[i] by simp [List.getD, hil]]; exact List.getElem_mem hil)).1
      obtain ⟨p, hp⟩ : ∃ p, p = os.getD i default := ⟨_, rfl⟩
      rw [← hp] at hpr HST hokp
      obtain ⟨pr, pk, pt, ps, pi⟩ := p
      dsimp only at HST hokp
      obtain ⟨r0, r1⟩ := hokp
      have g0 : w.cell? ⟨b, o + i * 5, none⟩ = some (.int .u8 pr) := put_c0 hpr
      have g1 : w.cell? ⟨b, o + i * 5 + 1, none⟩ = some (.string pk) := put_c1 hpr
      obtain ⟨bo, hbo⟩ : ∃ bo, bo = (kh os k i).1 := ⟨_, rfl⟩
      obtain ⟨hb, hhb⟩ : ∃ hb, hb = (kh os k i).2 := ⟨_, rfl⟩
      rw [← hbo, ← hhb] at HST
      rw [← hbo] at HLB
      rw [← hbo, ← hhb]
      have HKI : Hid (kh os k i = (bo, hb)) := by unfold Hid; rw [hbo, hhb]
      have hin : (i : Int) < (n : Int) := by omega
      clear hp hpr hc hbo hhb hil
      by_cases hk : pk = k
      · have hkb : (pk.toList != k.toList) = false := by rw [str_ne]; simpa using hk
        have HNX : Hid (kh os k (i + 1) = (nxt os i pr bo, bor hb (bitOf pr))) := by unfold Hid; rw [HST.out, if_pos hk]
        clear HST
        cases bo with
        | none =>
          simp only [bestOf]
          go_wp2_with fail
          refine (putBit_any pr r0 r1 _).mono ?_
          rintro e w' ⟨rfl, rfl⟩
          go_wp2
          go_quiet (fail)
          go_wp2
          go_roundw
          case rel => exact ⟨i + 1, _, by omega, by go_num, by rw [HNX.out]; rfl, by rw [HNX.out]; rfl, rfl⟩
          case measure => simp [intOf]; omega
        | some bb =>
          simp only [bestOf]
          have hbb := HLB.out bb (by first | rfl | trivial)
          have gb := HPB.out bb (by omega)
          obtain ⟨rb, hrb⟩ : ∃ rb, rb = (os.getD bb default).rank := ⟨_, rfl⟩
          rw [← hrb] at gb
          have HNX' : Hid (kh os k (i + 1) = ((if rb ≤ pr then some i else some bb), bor hb (bitOf pr))) := by unfold Hid; rw [HNX.out, hrb]; rfl
          clear HNX hrb
          have hb0 : ¬ ((bb : Int) < 0) := by omega
          have hd0 : decide ((bb : Int) < 0) = false := by simp
          have hbn : (bb : Int) < (n : Int) := by omega
          by_cases hle : rb ≤ pr
          · go_wp2_with fail
            refine (putBit_any pr r0 r1 _).mono ?_
            rintro e w' ⟨rfl, rfl⟩
            go_wp2
            go_quiet (fail)
            go_wp2
            go_roundw
            case rel => exact ⟨i + 1, _, by omega, by go_num, by rw [HNX'.out, if_pos hle] <;> rfl, by rw [HNX'.out] <;> rfl, rfl⟩
            case measure => simp [intOf]; omega
          · go_wp2_with fail
            refine (putBit_any pr r0 r1 _).mono ?_
            rintro e w' ⟨rfl, rfl⟩
            go_wp2
            go_quiet (fail)
            go_wp2
            go_roundw
            case rel => exact ⟨i + 1, _, by omega, by go_num, by rw [HNX'.out, if_neg (by omega)] <;> rfl, by rw [HNX'.out] <;> rfl, rfl⟩
            case measure => simp [intOf]; omega
      · have hkb : (pk.toList != k.toList) = true := by rw [str_ne]; simpa using hk
        have HNX : Hid (kh os k (i + 1) = (bo, hb)) := by unfold Hid; rw [HST.out, if_neg hk, HKI.out]
        have HKB : Hid ((pk.toList != k.toList) = true) := hkb
        clear HST
        go_wp2
        all_goals first | (exfalso; have hx : (pk.toList != k.toList) = false := (by assumption); rw [HKB.out] at hx; cases hx; done) | skip
        go_roundw
        case rel => exact ⟨i + 1, x, by omega, by go_num, by rw [HNX.out], by rw [HNX.out], rfl⟩
        case measure => simp [intOf]; omega
    · obtain rfl : i = m := by omega
      go_wp2
      go_ret2
      exact ⟨rfl, x, rfl⟩

/-- What the i-th put is to answer: was its key held, and which put's value does it hand back. -/
def ansOf (os : List Put) (i : Nat) : Bool × Int :=
  match (kh os (os.getD i default).key i).1 with
  | none => (false, -1)
  | some b => if (os.getD i default).rank < (os.getD b default).rank then (true, i) else (true, b)

def AnsPost (os : List Put) (i : Nat) (w : World) (e : Ending) (w' : World) : Prop :=
  e = .returned (.tuple #[.bool (ansOf os i).1, .int .i64 (ansOf os i).2]) ∧ ∃ x, w' = w.drewN x

set_option maxRecDepth 100000 in
set_option maxHeartbeats 2000000 in
/-- 'putHistoryAnswer' -/
theorem ans_any (ao : Option Addr) (n c : Nat) (os : List Put) (i : Nat) (w : World) (h : Hid (RdO w ao n os)) (hok : Hid (∀ p ∈ os, p.ok)) (hi : i < n) (hn : n ≤ 1048576) :
    Calls Try.prog 31 #[.slice ao n c, .int .i64 i] w fun e w' => AnsPost os i w e w' := by
  obtain ⟨b, o, rfl, hc⟩ := h.out.2.resolve_left (by omega)
  have hpr := hc i hi
  have HPB : Hid (∀ b' : Nat, b' < n → w.cell? ⟨b, o + b' * 5, none⟩ = some (.int .u8 (os.getD b' default).rank)) := fun b' hb' => put_c0 (hc b' hb')
  have HAN : Hid (ansOf os i = match (kh os (os.getD i default).key i).1 with | none => (false, -1) | some b => if (os.getD i default).rank < (os.getD b default).rank then (true, (i : Int)) else (true, (b : Int))) := rfl
  obtain ⟨p, hp⟩ : ∃ p, p = os.getD i default := ⟨_, rfl⟩
  rw [← hp] at hpr HAN
  obtain ⟨pr, pk, pt, ps, pi⟩ := p
  dsimp only at HAN
  have g0 : w.cell? ⟨b, o + i * 5, none⟩ = some (.int .u8 pr) := put_c0 hpr
  have g1 : w.cell? ⟨b, o + i * 5 + 1, none⟩ = some (.string pk) := put_c1 hpr
  have hin : (i : Int) < (n : Int) := by omega
  have HLB : Hid (∀ b, (kh os pk i).1 = some b → b < i) := kh_lt os pk i
  clear hp hpr hc
  go_enter Try.func31, Try.ntmps31
  go_wp2_with fail
  refine (hist_any (some ⟨b, o, none⟩) n c os pk i w h hok (by omega) hn).mono ?_
  rintro e w' ⟨rfl, x, rfl⟩
  obtain ⟨bo, hbo⟩ : ∃ bo, bo = (kh os pk i).1 := ⟨_, rfl⟩
  obtain ⟨hb, hhb⟩ : ∃ hb, hb = (kh os pk i).2 := ⟨_, rfl⟩
  rw [← hbo] at HAN HLB
  rw [← hbo, ← hhb]
  clear hbo hhb
  cases bo with
  | none =>
    simp only [bestOf]
    go_wp2
    go_ret2
    exact ⟨by rw [HAN.out]; rfl, x, rfl⟩
  | some bb =>
    simp only [bestOf]
    have hbb := HLB.out bb (by first | rfl | trivial)
    have gb := HPB.out bb (by omega)
    obtain ⟨rb, hrb⟩ : ∃ rb, rb = (os.getD bb default).rank := ⟨_, rfl⟩
    rw [← hrb] at gb
    have HAN' : Hid (ansOf os i = if pr < rb then (true, (i : Int)) else (true, (bb : Int))) := by unfold Hid; rw [HAN.out, hrb]
    clear HAN hrb
    have hbn : (bb : Int) < (n : Int) := by omega
    by_cases hlt : pr < rb
    · go_wp2
      go_quiet (fail)
      go_wp2
      go_ret2
      exact ⟨by rw [HAN'.out, if_pos hlt]; rfl, _, World.drewN_drewN ..⟩
    · go_wp2
      go_quiet (fail)
      go_wp2
      go_ret2
      exact ⟨by rw [HAN'.out, if_neg (by omega)]; rfl, _, World.drewN_drewN ..⟩

/-- is the i-th put the first of its key? -/
def isFirst (os : List Put) (i : Nat) : Bool := decide (∀ j, j < i → ¬ (os.getD j default).key = (os.getD i default).key)

def FirstPost (os : List Put) (i : Nat) (w : World) (e : Ending) (w' : World) : Prop := e = .returned (.bool (isFirst os i)) ∧ ∃ x, w' = w.drewN x

set_option maxRecDepth 100000 in
set_option maxHeartbeats 2000000 in
/-- 'firstOfKey' -/
theorem first_any (ao : Option Addr) (n c : Nat) (os : List Put) (i : Nat) (w : World) (h : Hid (RdO w ao n os)) (hi : i < n) (hn : n ≤ 1048576) :
    Calls Try.prog 35 #[.slice ao n c, .int .i64 i] w fun e w' => FirstPost os i w e w' := by
  obtain ⟨b, o, rfl, hc⟩ := h.out.2.resolve_left (by omega)
  have HKB : Hid (∀ b' : Nat, b' < n → w.cell? ⟨b, o + b' * 5 + 1, none⟩ = some (.string (os.getD b' default).key)) := fun b' hb' => put_c1 (hc b' hb')
  have gi := HKB.out i hi
  obtain ⟨ki, hki⟩ : ∃ ki, ki = (os.getD i default).key := ⟨_, rfl⟩
  rw [← hki] at gi
  have HKI : Hid (ki = (os.getD i default).key) := hki
  have hin : (i : Int) < (n : Int) := by omega
  clear hki hc
  go_enter Try.func35, Try.ntmps35
  go_wp2
  go_loopw [5] (fun t wr => ∃ (j x : Nat), j ≤ i ∧ t = .int .i64 j ∧ Hid (∀ l, l < j → ¬ (os.getD l default).key = ki) ∧ wr = w.drewN x) (fun t _ => i - (intOf t).toNat)
  case atStart => exact ⟨0, 0, Nat.zero_le _, rfl, (fun l hl => absurd hl (Nat.not_lt_zero _)), rfl⟩
  case round =>
    obtain ⟨j, x, hj, rfl, HD, rfl⟩ := hrel
    by_cases hlt : j < i
    · have gj := HKB.out j (by omega)
      obtain ⟨kj, hkj⟩ : ∃ kj, kj = (os.getD j default).key := ⟨_, rfl⟩
      rw [← hkj] at gj
      have HKJ : Hid (kj = (os.getD j default).key) := hkj
      have hjn : (j : Int) < (n : Int) := by omega
      clear hkj
      by_cases hk : kj = ki
      · have hkb : (kj.toList == ki.toList) = true := by rw [str_eq]; simpa using hk
        go_wp2
        go_quiet (fail)
        go_wp2
        go_ret
        refine ⟨?_, _, World.drewN_drewN ..⟩
        have : isFirst os i = false := by
          unfold isFirst
          rw [decide_eq_false_iff_not]
          exact fun hh => hh j hlt (by rw [← HKJ.out, ← HKI.out]; exact hk)
        rw [this]; rfl
      · have hkb : (kj.toList == ki.toList) = false := by rw [str_eq]; simpa using hk
        go_wp2
        go_quiet (fail)
        go_wp2
        go_roundw
        case rel =>
          refine ⟨j + 1, _, by omega, by go_num, fun l hl => ?_, rfl⟩
          by_cases e : l = j
          · subst e; rw [← HKJ.out]; exact hk
          · exact HD.out l (by omega)
        case measure => simp [intOf]; omega
    · obtain rfl : j = i := by omega
      go_wp2
      go_ret
      refine ⟨?_, x, rfl⟩
      have : isFirst os j = true := by
        unfold isFirst
        rw [decide_eq_true_eq]
        exact fun l hl => by rw [← HKI.out]; exact HD.out l hl
      rw [this]; rfl

theorem bitOf_range (r : Int) : 0 ≤ bitOf r ∧ bitOf r < 256 := by unfold bitOf; omega
theorem bor_zero (x : Int) (h0 : 0 ≤ x) (h1 : x < 256) : bor 0 x = x := by
  rw [bor_eq]
  obtain ⟨n, rfl⟩ := Int.eq_ofNat_of_zero_le h0
  have e0 : BitVec.ofInt 8 0 = 0#8 := rfl
  rw [e0, BitVec.zero_or, BitVec.ofInt_natCast, BitVec.toNat_ofNat]
  omega

/-- the set along a script, key by key -/
theorem kh_lk (os : List Put) (k : ByteArray) : ∀ m, m ≤ os.length → (lk (putL [] (os.take m)) k = (kh os k m).1.map fun b => ⟨k, (os.getD b default).ty, (os.getD b default).str, (os.getD b default).int, (os.getD b default).rank, (kh os k m).2⟩) ∧ ((kh os k m).1 = none → (kh os k m).2 = 0)
  | 0, _ => by
    refine ⟨?_, fun _ => rfl⟩
    unfold lk findE; simp [kh, putL]
  | m + 1, hm => by
    obtain ⟨ih, ih0⟩ := kh_lk os k m (by omega)
    have hml : m < os.length := by omega
    have e1 : os.getD m default = os[m] := by simp [List.getD, hml]
    rw [List.take_succ_eq_append_getElem hml, putL_snoc, lk_put, ih, ← e1]
    obtain ⟨p, hp⟩ : ∃ p, p = os.getD m default := ⟨_, rfl⟩
    rw [← hp]
    have hkh : kh os k (m + 1) = if p.key = k then (nxt os m p.rank (kh os k m).1, bor (kh os k m).2 (bitOf p.rank)) else kh os k m := by rw [hp]; rfl
    rw [hkh]
    by_cases hk : p.key = k
    · rw [if_pos hk, if_pos hk]
      cases hq : (kh os k m).1 with
      | none =>
        refine ⟨?_, fun h => by cases h⟩
        have h0 := ih0 hq
        simp only [nxt, Option.map_none, Option.map_some, h0, ← hp, hk, fresh]
        rw [bor_zero _ (bitOf_range _).1 (bitOf_range _).2]
      | some b =>
        dsimp only [Option.map_some]
        refine ⟨?_, fun h => by simp only [nxt] at h; split at h <;> simp at h⟩
        unfold merge nxt
        by_cases hlt : p.rank < (os.getD b default).rank
        · have hnl : ¬ (os.getD b default).rank ≤ p.rank := by omega
          simp only [hlt, hnl, if_true, if_false, Option.map_some]
        · have hle : (os.getD b default).rank ≤ p.rank := by omega
          simp only [hlt, hle, if_true, if_false, Option.map_some, ← hp]
    · rw [if_neg hk, if_neg hk]
      exact ⟨rfl, ih0⟩
end Go.Proofs.Qxb6603471a
