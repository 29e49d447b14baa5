/- The plain side: impl.Value as a tree (V), a Go value of type any as a tree (J), and what spec.Fit reckons. No program in sight. -/
/- Plain: what spec.Cmp says of two values; of good values it is 0 just where they are one. -/
/- Plain: what spec.Index and spec.GetPath say of good values. -/
/- Plain: what spec.Fit says of a value. -/
/- Plain: what spec.spots and spec.Ways give: all places of a value, the outer ones first; how many they are. -/
/- How the program's values read: impl.Value as a tree (V), a Go value of type any as a tree (J). No function is walked here. -/
/- Small facts on worlds. No program in sight. -/
import Derived.RowKit
import Derived.Lib.ValidU
import GoSem.Core.Float
import Derived.WalkKit
import Derived.Maps.OwnSet
import Derived.Maps.RangeWalk
import Derived.Maps.AppendAt
import Derived.Lib.Hide
import Derived.Test.YtjlkoekfcdpnaaaGreatDoorProg
import Derived.Laws.Rows
import Derived.Laws.ResultCell
import Derived.Deep.OwnRows
namespace Go.Proofs.YtjlkoekfcdpnaaaGreatDoor
open Go Go.RowKit
/-- impl.Value, as a tree. -/
inductive V where
  | mk (kind half : Int) (text : ByteArray) (list : List V) (keys : List ByteArray) (vals : List V)
def V.kind : V → Int | .mk k _ _ _ _ _ => k
def V.half : V → Int | .mk _ h _ _ _ _ => h
def V.text : V → ByteArray | .mk _ _ t _ _ _ => t
def V.list : V → List V | .mk _ _ _ l _ _ => l
def V.keys : V → List ByteArray | .mk _ _ _ _ k _ => k
def V.vals : V → List V | .mk _ _ _ _ _ v => v
/-- A Go value of type any, as a tree ('hole': struct{}{}). -/
inductive J where
  | null
  | bool (b : Bool)
  | int (n : Int)
  | flt (bits : Nat)
  | str (s : ByteArray)
  | arr (l : List J)
  | obj (m : List (ByteArray × J))
  | hole
/-- The state of a looker (spec/valid.go). -/
structure Lk where
  parts : Int
  bytes : Int
  bad : Bool
def Lk.want (s : Lk) (ok : Bool) : Lk := { s with bad := s.bad || !ok }
def Lk.part (s : Lk) (deep : Int) : Lk :=
  { s with parts := wrap64 (s.parts + 1), bad := s.bad || !(decide (wrap64 (s.parts + 1) ≤ 400) && decide (s.bytes ≤ 2000) && decide (deep ≤ 60)) }
def Lk.str (s : Lk) (b : ByteArray) : Lk :=
  { s with bytes := wrap64 (s.bytes + b.size), bad := s.bad || !(decide (wrap64 (s.bytes + b.size) ≤ 2000) && Lib.validD b.data.toList) }
/-- The two tests of a value by itself. -/
def shapeB (k h : Int) (t : ByteArray) (nl nk nv : Nat) : Bool :=
  decide (0 ≤ k) && decide (k ≤ 6) && (k == 3 || h == 0) && (k == 4 || t.toList == []) && (k == 5 || nl == 0) && (k == 6 || nk == 0) && nk == nv
def halfB (h : Int) : Bool :=
  decide (-18014398509481984 ≤ h) && decide (h ≤ 18014398509481984) && (h.tmod 2 == 0 || decide (-9007199254740992 < h) && decide (h < 9007199254740992))
def riseB (prev : Option ByteArray) (k : ByteArray) : Bool := match prev with
  | none => true
  | some p => Op.bytesLess p.toList k.toList
mutual
def lookV : V → Int → Lk → Lk
  | .mk k h t l ks vs, deep, s =>
    if (s.part deep).bad then s.part deep else
      lookM none ks vs deep (lookL l deep ((((s.part deep).want (shapeB k h t l.length ks.length vs.length)).want (halfB h)).str t))
def lookL : List V → Int → Lk → Lk
  | [], _, s => s
  | v :: r, deep, s => if s.bad then s else lookL r deep (lookV v (wrap64 (deep + 1)) s)
def lookM : Option ByteArray → List ByteArray → List V → Int → Lk → Lk
  | _, [], _, _, s => s
  | _, _ :: _, [], _, s => s
  | p, k :: ks, v :: vs, deep, s => if s.bad then s else lookM (some k) ks vs deep (lookV v (wrap64 (deep + 1)) ((s.str k).want (riseB p k)))
end

def fitB (v : V) : Bool := !(lookV v 0 ⟨0, 0, false⟩).bad
theorem Lk.want_bad (s : Lk) (ok : Bool) : (s.want ok).bad = false ↔ s.bad = false ∧ ok = true := by
  cases h : s.bad <;> cases ok <;> simp [Lk.want, h]
theorem Lk.part_bad {s : Lk} {deep : Int} (h : (s.part deep).bad = false) : s.bad = false ∧ wrap64 (s.parts + 1) ≤ 400 ∧ s.bytes ≤ 2000 ∧ deep ≤ 60 := by
  simp [Lk.part] at h
  exact ⟨h.1, by omega, by omega, by omega⟩
theorem Lk.str_bad {s : Lk} {b : ByteArray} (h : (s.str b).bad = false) : s.bad = false ∧ wrap64 (s.bytes + b.size) ≤ 2000 ∧ Lib.validD b.data.toList = true := by
  simp [Lk.str] at h
  exact ⟨h.1, by omega, h.2.2⟩
inductive Good : V → Prop
  | mk {k h : Int} {t : ByteArray} {l : List V} {ks : List ByteArray} {vs : List V}
    (shape : shapeB k h t l.length ks.length vs.length = true) (half : halfB h = true) (valid : Lib.validD t.data.toList = true)
    (list : ∀ i (hi : i < l.length), Good l[i]) (rise : ∀ i (hi : i + 1 < ks.length), Op.bytesLess ks[i].toList ks[i + 1].toList = true)
    (vkeys : ∀ i (hi : i < ks.length), Lib.validD ks[i].data.toList = true) (vals : ∀ i (hi : i < vs.length), Good vs[i]) : Good (.mk k h t l ks vs)
/-- The float of an odd Half, as impl.toGo reckons it. -/
def halfBits (h : Int) : Nat := (FloatKind.f64.format.div (FloatKind.f64.nearest h) 4611686018427387904).getD 0
mutual
def toJ : V → J
  | .mk k h t l ks vs =>
    if k = 0 then .null else if k = 1 then .bool false else if k = 2 then .bool true
    else if k = 3 then (if h.tmod 2 = 0 then .int (h.tdiv 2) else .flt (halfBits h))
    else if k = 4 then .str t else if k = 5 then .arr (toJL l) else .obj (toJM ks vs)
def toJL : List V → List J
  | [] => []
  | v :: r => toJ v :: toJL r
def toJM : List ByteArray → List V → List (ByteArray × J)
  | k :: ks, v :: vs => (k, toJ v) :: toJM ks vs
  | _, _ => []
end

theorem toJL_eq : ∀ l : List V, toJL l = l.map toJ
  | [] => by simp [toJL]
  | v :: r => by simp [toJL, toJL_eq r]
theorem toJM_eq : ∀ (ks : List ByteArray) (vs : List V), toJM ks vs = ks.zip (vs.map toJ)
  | [], _ => by simp [toJM]
  | _ :: _, [] => by simp [toJM]
  | k :: ks, v :: vs => by simp [toJM, toJM_eq ks vs]
end Go.Proofs.YtjlkoekfcdpnaaaGreatDoor

namespace Go.Proofs.YtjlkoekfcdpnaaaGreatDoor
open Go Go.RowKit
/-- What the reference answers. -/
inductive Ans where
  | fine (v : V)
  | raises
  | silent
def Ans.how : Ans → Int
  | .fine _ => 0
  | .raises => 1
  | .silent => 2
def signI (n : Int) : Int := if n < 0 then -1 else if 0 < n then 1 else 0
def textsC (a b : ByteArray) : Int := if Op.bytesLess a.toList b.toList = true then -1 else if Op.bytesLess b.toList a.toList = true then 1 else 0
def keysC : List ByteArray → List ByteArray → Int
  | x :: xs, y :: ys => if textsC x y = 0 then keysC xs ys else textsC x y
  | [], ys => -(ys.length : Int)
  | x :: xs, [] => ((x :: xs).length : Int)
mutual
def cmpV : V → V → Int
  | .mk k h t l ks vs, .mk k' h' t' l' ks' vs' =>
    if k ≠ k' then signI (wrap64 (k - k')) else if k = 3 then signI (wrap64 (h - h')) else if k = 4 then textsC t t'
    else if k = 5 then signI (cmpL l l') else if k = 6 then (if keysC ks ks' = 0 then signI (cmpL vs vs') else signI (keysC ks ks')) else 0
def cmpL : List V → List V → Int
  | x :: xs, y :: ys => if cmpV x y = 0 then cmpL xs ys else cmpV x y
  | [], ys => -(ys.length : Int)
  | x :: xs, [] => ((x :: xs).length : Int)
end

theorem cmpL_drop (a b : List V) (n : Nat) (ha : n < a.length) (hb : n < b.length) :
    cmpL (a.drop n) (b.drop n) = if cmpV a[n] b[n] = 0 then cmpL (a.drop (n + 1)) (b.drop (n + 1)) else cmpV a[n] b[n] := by
  rw [List.drop_eq_getElem_cons ha, List.drop_eq_getElem_cons hb]
  simp only [cmpL]
theorem cmpL_end (a b : List V) (n : Nat) (h : a.length ≤ n ∨ b.length ≤ n) (h1 : n ≤ a.length) (h2 : n ≤ b.length) :
    cmpL (a.drop n) (b.drop n) = (a.length : Int) - b.length := by
  by_cases ha : a.length ≤ n
  · rw [List.drop_eq_nil_of_le ha]
    simp only [cmpL, List.length_drop]
    omega
  · have hb : b.length ≤ n := by omega
    rw [List.drop_eq_nil_of_le hb, List.drop_eq_getElem_cons (by omega)]
    simp only [cmpL, List.length_cons, List.length_drop]
    omega
theorem keysC_drop (a b : List ByteArray) (n : Nat) (ha : n < a.length) (hb : n < b.length) :
    keysC (a.drop n) (b.drop n) = if textsC a[n] b[n] = 0 then keysC (a.drop (n + 1)) (b.drop (n + 1)) else textsC a[n] b[n] := by
  rw [List.drop_eq_getElem_cons ha, List.drop_eq_getElem_cons hb]
  simp only [keysC]
theorem keysC_end (a b : List ByteArray) (n : Nat) (h : a.length ≤ n ∨ b.length ≤ n) (h1 : n ≤ a.length) (h2 : n ≤ b.length) :
    keysC (a.drop n) (b.drop n) = (a.length : Int) - b.length := by
  by_cases ha : a.length ≤ n
  · rw [List.drop_eq_nil_of_le ha]
    simp only [keysC, List.length_drop]
    omega
  · have hb : b.length ≤ n := by omega
    rw [List.drop_eq_nil_of_le hb, List.drop_eq_getElem_cons (by omega)]
    simp only [keysC, List.length_cons, List.length_drop]
    omega
theorem bLess_eq : ∀ (x y : List UInt8), Op.bytesLess x y = decide (x < y)
  | [], [] => by simp [Op.bytesLess]
  | _ :: _, [] => by simp [Op.bytesLess]
  | [], _ :: _ => by simp [Op.bytesLess]
  | a :: x, b :: y => by
    rw [Op.bytesLess, bLess_eq x y]
    simp only [List.cons_lt_cons_iff]
    by_cases h1 : a < b <;> by_cases h2 : a = b <;> by_cases h3 : x < y <;> simp [h1, h2, h3]
theorem toList_inj {a b : ByteArray} (h : a.toList = b.toList) : a = b := by
  rw [Lib.toList_data, Lib.toList_data] at h
  obtain ⟨⟨x⟩⟩ := a
  obtain ⟨⟨y⟩⟩ := b
  simp at h
  rw [h]
theorem textsC_zero {a b : ByteArray} : textsC a b = 0 ↔ a = b := by
  unfold textsC
  simp only [bLess_eq, decide_eq_true_eq]
  constructor
  · intro h
    split at h
    · omega
    · split at h
      · omega
      · rename_i h1 h2
        exact toList_inj (List.le_antisymm (List.not_lt.1 h2) (List.not_lt.1 h1))
  · rintro rfl
    rw [if_neg (List.lt_irrefl _), if_neg (List.lt_irrefl _)]
theorem signI_zero {n : Int} : signI n = 0 ↔ n = 0 := by unfold signI; split <;> (try split) <;> omega
theorem keysC_zero : ∀ {a b : List ByteArray}, keysC a b = 0 ↔ a = b
  | [], [] => by simp [keysC]
  | [], _ :: _ => by simp [keysC] <;> omega
  | _ :: _, [] => by simp [keysC] <;> omega
  | x :: xs, y :: ys => by
    simp only [keysC]
    split
    · rename_i h
      rw [keysC_zero, textsC_zero.1 h]
      simp
    · rename_i h
      constructor
      · intro e; exact absurd e h
      · intro e
        obtain ⟨rfl, rfl⟩ := List.cons.inj e
        exact absurd (textsC_zero.2 rfl) h
theorem cmpL_zero : ∀ {a b : List V} (_ : ∀ i (hi : i < a.length), ∀ y ∈ b, (cmpV a[i] y = 0 ↔ a[i] = y)), cmpL a b = 0 ↔ a = b
  | [], [], _ => by simp [cmpL]
  | [], _ :: _, _ => by simp [cmpL] <;> omega
  | _ :: _, [], _ => by simp [cmpL] <;> omega
  | x :: xs, y :: ys, h => by
    have h0 : cmpV x y = 0 ↔ x = y := h 0 (by simp) y (by simp)
    have ih := cmpL_zero (a := xs) (b := ys) (fun i hi y' hy => h (i + 1) (by simpa using hi) y' (by simp [hy]))
    simp only [cmpL]
    split
    · rename_i e
      rw [ih, h0.1 e]
      simp
    · rename_i e
      constructor
      · intro e'; exact absurd e' e
      · intro e'
        obtain ⟨rfl, rfl⟩ := List.cons.inj e'
        exact absurd (h0.2 rfl) e
theorem shape_plain {k h : Int} {t : ByteArray} {l : List V} {ks : List ByteArray} {vs : List V} (g : shapeB k h t l.length ks.length vs.length = true) :
    0 ≤ k ∧ k ≤ 6 ∧ (k ≠ 3 → h = 0) ∧ (k ≠ 4 → t = ⟨#[]⟩) ∧ (k ≠ 5 → l = []) ∧ (k ≠ 6 → ks = []) ∧ (k ≠ 6 → vs = []) ∧ ks.length = vs.length := by
  simp only [shapeB, Bool.and_eq_true, decide_eq_true_eq, Bool.or_eq_true, beq_iff_eq] at g
  obtain ⟨⟨⟨⟨⟨⟨hk0, hk6⟩, s1⟩, s2⟩, s3⟩, s4⟩, hlen⟩ := g
  refine ⟨hk0, hk6, fun n => s1.resolve_left n, fun n => ?_, fun n => List.length_eq_zero_iff.1 (s3.resolve_left n), fun n => List.length_eq_zero_iff.1 (s4.resolve_left n), fun n => List.length_eq_zero_iff.1 (by have := s4.resolve_left n; omega), hlen⟩
  have e := s2.resolve_left n
  exact toList_inj (e.trans (by rw [Lib.toList_data]))
theorem half_bounds {h : Int} (g : halfB h = true) : -18014398509481984 ≤ h ∧ h ≤ 18014398509481984 ∧ (h.tmod 2 ≠ 0 → -9007199254740992 < h ∧ h < 9007199254740992) := by
  simp only [halfB, Bool.and_eq_true, decide_eq_true_eq, Bool.or_eq_true, beq_iff_eq] at g
  exact ⟨g.1.1, g.1.2, fun n => g.2.resolve_left n⟩
theorem wrap_sub_zero {a b : Int} (ha : -18014398509481984 ≤ a ∧ a ≤ 18014398509481984) (hb : -18014398509481984 ≤ b ∧ b ≤ 18014398509481984) : wrap64 (a - b) = a - b := by
  unfold wrap64; omega
theorem Good.all {k h : Int} {t : ByteArray} {l : List V} {ks : List ByteArray} {vs : List V} (g : Good (.mk k h t l ks vs)) :
    shapeB k h t l.length ks.length vs.length = true ∧ halfB h = true ∧ Lib.validD t.data.toList = true ∧ (∀ i (hi : i < l.length), Good l[i]) ∧
    (∀ i (hi : i + 1 < ks.length), Op.bytesLess ks[i].toList ks[i + 1].toList = true) ∧ (∀ i (hi : i < ks.length), Lib.validD ks[i].data.toList = true) ∧ (∀ i (hi : i < vs.length), Good vs[i]) := by
  cases g with
  | mk a b c d e f g => exact ⟨a, b, c, d, e, f, g⟩
theorem cmpV_zero {a : V} (ga : Good a) : ∀ {b : V}, Good b → (cmpV a b = 0 ↔ a = b) := by
  induction ga with
  | @mk k h t l ks vs shape half valid list rise vkeys vals ihl ihv =>
  intro b gb
  obtain ⟨k', h', t', l', ks', vs'⟩ := b
  obtain ⟨shape', half', _, list', _, _, vals'⟩ := gb.all
  obtain ⟨p1, p2, p3, p4, p5, p6, p7, p8⟩ := shape_plain shape
  obtain ⟨q1, q2, q3, q4, q5, q6, q7, q8⟩ := shape_plain shape'
  obtain ⟨r1, r2, _⟩ := half_bounds half
  obtain ⟨r3, r4, _⟩ := half_bounds half'
  have hl := cmpL_zero (a := l) (b := l') (fun i hi y hy => by
    obtain ⟨j, hj, rfl⟩ := List.mem_iff_getElem.1 hy
    exact ihl i hi (list' j hj))
  have hv := cmpL_zero (a := vs) (b := vs') (fun i hi y hy => by
    obtain ⟨j, hj, rfl⟩ := List.mem_iff_getElem.1 hy
    exact ihv i hi (vals' j hj))
  simp only [cmpV]
  by_cases ek : k = k'
  · subst ek
    simp only [ne_eq, not_true_eq_false, if_false]
    by_cases k3 : k = 3
    · subst k3
      rw [if_pos rfl, signI_zero, wrap_sub_zero ⟨r1, r2⟩ ⟨r3, r4⟩, p4 (by decide), p5 (by decide), p6 (by decide), p7 (by decide), q4 (by decide), q5 (by decide), q6 (by decide), q7 (by decide)]
      simp
      omega
    · rw [if_neg k3, p3 k3, q3 k3]
      by_cases k4 : k = 4
      · subst k4
        rw [if_pos rfl, textsC_zero, p5 (by decide), p6 (by decide), p7 (by decide), q5 (by decide), q6 (by decide), q7 (by decide)]
        simp
      · rw [if_neg k4, p4 k4, q4 k4]
        by_cases k5 : k = 5
        · subst k5
          rw [if_pos rfl, signI_zero, hl, p6 (by decide), p7 (by decide), q6 (by decide), q7 (by decide)]
          simp
        · rw [if_neg k5, p5 k5, q5 k5]
          by_cases k6 : k = 6
          · rw [if_pos k6]
            by_cases e : keysC ks ks' = 0
            · rw [if_pos e, signI_zero, hv, keysC_zero.1 e]
              simp
            · rw [if_neg e, signI_zero]
              constructor
              · intro e'; exact absurd e' e
              · intro e'
                simp at e'
                exact absurd (keysC_zero.2 e'.1) e
          · rw [if_neg k6, p6 k6, p7 k6, q6 k6, q7 k6]
            simp
  · rw [if_pos ek, signI_zero, wrap_sub_zero (by omega) (by omega)]
    constructor
    · intro e; omega
    · intro e; simp at e; exact absurd e.1 ek
end Go.Proofs.YtjlkoekfcdpnaaaGreatDoor

namespace Go.Proofs.YtjlkoekfcdpnaaaGreatDoor
open Go Go.RowKit
def nullV : V := .mk 0 0 ⟨#[]⟩ [] [] []
/-- Where a key stands in rising keys, or would stand. -/
def placeI : List ByteArray → ByteArray → Nat
  | [], _ => 0
  | k :: r, x => if Op.bytesLess k.toList x.toList = true then placeI r x + 1 else 0
theorem placeI_eq : ∀ {ks : List ByteArray} {x : ByteArray} {j : Nat} (hj : j < ks.length) (_ : ∀ i (hi : i < j), Op.bytesLess (ks[i]'(by omega)).toList x.toList = true) (_ : Op.bytesLess ks[j].toList x.toList = false), placeI ks x = j
  | [], _, _, hj, _, _ => by simp at hj
  | k :: r, x, 0, _, _, h2 => by
    simp only [List.getElem_cons_zero] at h2
    simp [placeI, h2]
  | k :: r, x, j + 1, hj, h1, h2 => by
    have c := h1 0 (by omega)
    simp only [List.getElem_cons_zero] at c
    have := placeI_eq (ks := r) (x := x) (j := j) (by simpa using hj) (fun i hi => by have := h1 (i + 1) (by omega); simpa using this) (by simpa using h2)
    simp [placeI, c, this]
/-- Whether rising keys hold a key. -/
def hasK (ks : List ByteArray) (x : ByteArray) : Bool := match ks[placeI ks x]? with
  | some k => k.toList == x.toList
  | none => false
theorem hasK_iff {ks : List ByteArray} {x : ByteArray} : hasK ks x = true ↔ ∃ h : placeI ks x < ks.length, ks[placeI ks x] = x := by
  unfold hasK
  by_cases h : placeI ks x < ks.length
  · rw [List.getElem?_eq_getElem h]
    simp only [beq_iff_eq]
    exact ⟨fun e => ⟨h, toList_inj e⟩, fun ⟨_, e⟩ => by rw [e]⟩
  · rw [List.getElem?_eq_none (by omega)]
    exact ⟨fun e => (by cases e), fun ⟨h', _⟩ => absurd h' h⟩
def RiseK (ks : List ByteArray) : Prop := ∀ i j (hi : i < j) (hj : j < ks.length), Op.bytesLess (ks[i]'(by omega)).toList ks[j].toList = true
theorem hasK_at {ks : List ByteArray} (hr : RiseK ks) {j : Nat} (hj : j < ks.length) : placeI ks ks[j] = j ∧ hasK ks ks[j] = true := by
  have e := placeI_eq (ks := ks) (x := ks[j]) hj (fun i hi => hr i j hi hj) (by rw [bLess_eq]; simp [List.lt_irrefl])
  refine ⟨e, hasK_iff.2 ⟨by omega, ?_⟩⟩
  simp only [e]
theorem hasK_miss {ks : List ByteArray} (hr : RiseK ks) {x : ByteArray} (h : hasK ks x = false) : ∀ k ∈ ks, k ≠ x := by
  rintro k hk rfl
  obtain ⟨j, hj, rfl⟩ := List.mem_iff_getElem.1 hk
  rw [(hasK_at hr hj).2] at h
  cases h
def getV (ks : List ByteArray) (vs : List V) (x : ByteArray) : V := if hasK ks x = true then vs.getD (placeI ks x) nullV else nullV
/-- A bound of a slice of n. -/
inductive Bnd where
  | at (n : Nat)
  | raises
  | silent
def clampN (x : Int) (n : Nat) : Nat := let y := if x < 0 then x + n else x; if y < 0 then 0 else if (n : Int) < y then n else y.toNat
theorem clampN_le (x : Int) (n : Nat) : clampN x n ≤ n := by
  unfold clampN
  simp only
  split <;> (try split) <;> (try split) <;> omega
def bndA (v : V) (n d : Nat) : Bnd := if v.kind = 0 then .at d else if v.kind ≠ 3 then .raises else if v.half.tmod 2 ≠ 0 then .silent else .at (clampN (v.half.tdiv 2) n)
def startT : ByteArray := ⟨#[115, 116, 97, 114, 116]⟩
def endT : ByteArray := ⟨#[101, 110, 100]⟩
/-- The ends of a slice of n. -/
inductive Cut where
  | fine (a b : Nat)
  | raises
  | silent
def boundsA (ks : List ByteArray) (vs : List V) (n : Nat) : Cut :=
  if ks.length ≠ 2 ∨ hasK ks startT = false ∨ hasK ks endT = false then .silent else
  match bndA (getV ks vs startT) n 0 with
  | .raises => .raises
  | .silent => .silent
  | .at a => match bndA (getV ks vs endT) n n with
    | .raises => .raises
    | .silent => .silent
    | .at b => .fine a (if a ≤ b then b else a)
def cutA (v k : V) : Ans :=
  if v.kind = 0 then (match boundsA k.keys k.vals 0 with | .fine _ _ => .fine nullV | _ => .silent)
  else if v.kind = 5 then (match boundsA k.keys k.vals v.list.length with | .fine a b => .fine (.mk 5 0 ⟨#[]⟩ ((v.list.drop a).take (b - a)) [] []) | .raises => .raises | .silent => .silent)
  else if v.kind = 6 then .silent else .raises
def nthA (l : List V) (h : Int) : V := let n := h.tdiv 2; let m := if n < 0 then n + l.length else n; if m < 0 then nullV else l.getD m.toNat nullV
/-- spec.Index, but at slices of strings. -/
def indexA (v k : V) : Ans :=
  if k.kind = 6 then cutA v k
  else if v.kind = 0 ∧ (k.kind = 4 ∨ k.kind = 3) then .fine nullV
  else if v.kind = 6 ∧ k.kind = 4 then .fine (getV v.keys v.vals k.text)
  else if v.kind = 5 ∧ k.kind = 3 then (if k.half.tmod 2 ≠ 0 then .silent else .fine (nthA v.list k.half))
  else if (v.kind = 4 ∧ k.kind = 3) ∨ (v.kind = 5 ∧ k.kind = 5) ∨ v.kind = 0 then .silent
  else .raises
/-- A step of spec.GetPath. -/
def stepA (v k : V) : Ans :=
  if v.kind = 0 ∧ (k.kind = 4 ∨ k.kind = 3) then .fine v else if v.kind = 4 ∧ k.kind = 6 then .silent else indexA v k
def pathA : V → List V → Ans
  | v, [] => .fine v
  | v, k :: p => match stepA v k with
    | .fine x => pathA x p
    | .raises => .raises
    | .silent => .silent
theorem pathA_snoc : ∀ (p : List V) (v k : V), pathA v (p ++ [k]) = match pathA v p with
    | .fine x => stepA x k
    | .raises => .raises
    | .silent => .silent
  | [], v, k => by
    simp only [List.nil_append, pathA]
    cases stepA v k <;> rfl
  | a :: p, v, k => by
    simp only [List.cons_append, pathA]
    cases h : stepA v a with
    | fine x => exact pathA_snoc p x k
    | raises => rfl
    | silent => rfl
/-- What ends a path ends every longer one. -/
theorem pathA_stop {p q : List V} {v : V} (h : ∀ x, pathA v p ≠ .fine x) : pathA v (p ++ q) = pathA v p := by
  induction q generalizing p with
  | nil => rw [List.append_nil]
  | cons k q ih =>
    have e : p ++ k :: q = (p ++ [k]) ++ q := by simp
    have s := pathA_snoc p v k
    cases hp : pathA v p with
    | fine x => exact absurd hp (h x)
    | raises =>
      rw [hp] at s
      rw [e, ih (fun x => by rw [s]; simp), s]
    | silent =>
      rw [hp] at s
      rw [e, ih (fun x => by rw [s]; simp), s]
theorem good_null : Good nullV := by
  refine .mk ?_ ?_ rfl (fun i hi => by simp at hi) (fun i hi => by simp at hi) (fun i hi => by simp at hi) (fun i hi => by simp at hi)
  · simp [shapeB, Lib.toList_data]
  · simp [halfB]
theorem good_row {l : List V} (h : ∀ x ∈ l, Good x) : Good (.mk 5 0 ⟨#[]⟩ l [] []) := by
  refine .mk ?_ ?_ rfl (fun i hi => h _ (List.getElem_mem hi)) (fun i hi => by simp at hi) (fun i hi => by simp at hi) (fun i hi => by simp at hi)
  · simp [shapeB, Lib.toList_data]
  · simp [halfB]
/-- What holds of null, of a value's own elements and of rows of them holds of what stands at a key. -/
theorem indexA_own {P : V → Prop} (h0 : P nullV) {v k x : V} (hl : ∀ y ∈ v.list, P y) (hv : ∀ y ∈ v.vals, P y) (hrow : ∀ a n, P (.mk 5 0 ⟨#[]⟩ ((v.list.drop a).take n) [] [])) (h : indexA v k = .fine x) : P x := by
  have hg : ∀ (l : List V) (n : Nat), (∀ y ∈ l, P y) → P (l.getD n nullV) := fun l n hl => by
    rw [List.getD_eq_getElem?_getD]
    cases hn : l[n]? with
    | none => exact h0
    | some y => exact hl y (List.mem_of_getElem? hn)
  unfold indexA at h
  split at h
  · unfold cutA at h
    split at h
    · split at h <;> cases h
      exact h0
    · split at h
      · split at h <;> cases h
        exact hrow _ _
      · split at h <;> cases h
  · split at h
    · cases h; exact h0
    · split at h
      · cases h
        unfold getV
        split
        · exact hg _ _ hv
        · exact h0
      · split at h
        · split at h
          · cases h
          · cases h
            unfold nthA
            simp only
            generalize (if k.half.tdiv 2 < 0 then k.half.tdiv 2 + (v.list.length : Int) else k.half.tdiv 2) = m
            split
            · exact h0
            · exact hg _ _ hl
        · split at h <;> cases h
theorem stepA_own {P : V → Prop} (h0 : P nullV) {v k x : V} (hx : P v) (hl : ∀ y ∈ v.list, P y) (hv : ∀ y ∈ v.vals, P y) (hrow : ∀ a n, P (.mk 5 0 ⟨#[]⟩ ((v.list.drop a).take n) [] [])) (h : stepA v k = .fine x) : P x := by
  unfold stepA at h
  split at h
  · cases h; exact hx
  · split at h
    · cases h
    · exact indexA_own h0 hl hv hrow h
theorem stepA_good {v k x : V} (g : Good v) (h : stepA v k = .fine x) : Good x := by
  obtain ⟨kd, hf, t, l, ks, vs⟩ := v
  obtain ⟨_, _, _, list, _, _, vals⟩ := g.all
  refine stepA_own (P := Good) good_null g (fun y hy => ?_) (fun y hy => ?_) (fun a n => good_row fun y hy => ?_) h
  · obtain ⟨i, hi, rfl⟩ := List.mem_iff_getElem.1 hy
    exact list i hi
  · obtain ⟨i, hi, rfl⟩ := List.mem_iff_getElem.1 hy
    exact vals i hi
  · obtain ⟨i, hi, rfl⟩ := List.mem_iff_getElem.1 (List.mem_of_mem_drop (List.mem_of_mem_take hy))
    exact list i hi
theorem pathA_good : ∀ {p : List V} {v x : V}, Good v → pathA v p = .fine x → Good x
  | [], v, x, g, h => by cases h; exact g
  | k :: p, v, x, g, h => by
    simp only [pathA] at h
    cases hs : stepA v k with
    | fine y => rw [hs] at h; exact pathA_good (stepA_good g hs) h
    | raises => rw [hs] at h; cases h
    | silent => rw [hs] at h; cases h
end Go.Proofs.YtjlkoekfcdpnaaaGreatDoor

namespace Go.Proofs.YtjlkoekfcdpnaaaGreatDoor
open Go Go.RowKit
mutual
theorem look_good : ∀ (v : V) (deep : Int) (s : Lk), (lookV v deep s).bad = false → Good v ∧ s.bad = false
  | .mk k h t l ks vs, deep, s, hb => by
    unfold lookV at hb
    split at hb
    · rename_i e
      rw [e] at hb
      cases hb
    · obtain ⟨hm, hv, hr, hk⟩ := look_goodM none ks vs deep _ hb
      obtain ⟨hl, hs⟩ := look_goodL l deep _ hm
      obtain ⟨hs, _, hval⟩ := Lk.str_bad hs
      obtain ⟨hs, hhalf⟩ := (Lk.want_bad _ _).1 hs
      obtain ⟨hs, hshape⟩ := (Lk.want_bad _ _).1 hs
      have hlen : ks.length = vs.length := by
        simp only [shapeB, Bool.and_eq_true, beq_iff_eq] at hshape
        exact hshape.2
      exact ⟨.mk hshape hhalf hval hl (fun i hi => (hr hlen).2 i hi) (fun i hi => hk hlen i hi) (fun i hi => hv hlen i hi), (Lk.part_bad hs).1⟩
theorem look_goodL : ∀ (l : List V) (deep : Int) (s : Lk), (lookL l deep s).bad = false → (∀ i (hi : i < l.length), Good l[i]) ∧ s.bad = false
  | [], _, s, hb => ⟨fun i hi => absurd hi (by simp), by unfold lookL at hb; exact hb⟩
  | v :: r, deep, s, hb => by
    unfold lookL at hb
    split at hb
    · rename_i e
      rw [e] at hb
      cases hb
    · rename_i e
      obtain ⟨hr, hs⟩ := look_goodL r deep _ hb
      obtain ⟨hv, _⟩ := look_good v _ _ hs
      refine ⟨fun i hi => ?_, by simpa using e⟩
      cases i with
      | zero => exact hv
      | succ j => exact hr j (by simpa using hi)
theorem look_goodM : ∀ (p : Option ByteArray) (ks : List ByteArray) (vs : List V) (deep : Int) (s : Lk), (lookM p ks vs deep s).bad = false →
    s.bad = false ∧ (ks.length = vs.length → ∀ i (hi : i < vs.length), Good vs[i]) ∧
    (ks.length = vs.length → (∀ (h0 : 0 < ks.length), riseB p ks[0] = true) ∧ ∀ i (hi : i + 1 < ks.length), Op.bytesLess ks[i].toList ks[i + 1].toList = true) ∧
    (ks.length = vs.length → ∀ i (hi : i < ks.length), Lib.validD ks[i].data.toList = true)
  | p, [], vs, deep, s, hb => by
    unfold lookM at hb
    refine ⟨hb, fun e i hi => ?_, fun e => ⟨fun h0 => absurd h0 (by simp), fun i hi => absurd hi (by simp)⟩, fun e i hi => absurd hi (by simp)⟩
    simp at e
    omega
  | p, k :: ks, [], deep, s, hb => by
    unfold lookM at hb
    exact ⟨hb, fun e => by simp at e, fun e => by simp at e, fun e => by simp at e⟩
  | p, k :: ks, v :: vs, deep, s, hb => by
    unfold lookM at hb
    split at hb
    · rename_i e
      rw [e] at hb
      cases hb
    · rename_i e
      obtain ⟨hm, hv, hr, hk⟩ := look_goodM (some k) ks vs deep _ hb
      obtain ⟨gv, hs⟩ := look_good v _ _ hm
      obtain ⟨hs, hrise⟩ := (Lk.want_bad _ _).1 hs
      obtain ⟨_, _, hval⟩ := Lk.str_bad hs
      refine ⟨by simpa using e, fun e i hi => ?_, fun e => ⟨fun _ => hrise, fun i hi => ?_⟩, fun e i hi => ?_⟩
      · have e' : ks.length = vs.length := by simpa using e
        cases i with
        | zero => exact gv
        | succ j => exact hv e' j (by simpa using hi)
      · have e' : ks.length = vs.length := by simpa using e
        cases i with
        | zero => exact (hr e').1 (by simpa using hi)
        | succ j => exact (hr e').2 j (by simpa using hi)
      · have e' : ks.length = vs.length := by simpa using e
        cases i with
        | zero => exact hval
        | succ j => exact hk e' j (by simpa using hi)
end

theorem fit_good {v : V} (h : fitB v = true) : Good v :=
  (look_good v 0 _ (by simpa [fitB] using h)).1
end Go.Proofs.YtjlkoekfcdpnaaaGreatDoor

namespace Go.Proofs.YtjlkoekfcdpnaaaGreatDoor
open Go Go.RowKit
def numV (n : Int) : V := .mk 3 (2 * n) ⟨#[]⟩ [] [] []
def strV (s : ByteArray) : V := .mk 4 0 s [] [] []

mutual
/-- How many they are. -/
def sizeV : V → Nat
  | .mk _ _ _ l _ vs => 1 + sizeL l + sizeL vs
def sizeL : List V → Nat
  | [] => 0
  | v :: r => sizeV v + sizeL r
end

theorem sizeL_cons (v : V) (r : List V) : sizeL (v :: r) = sizeV v + sizeL r := by rw [sizeL]
theorem sizeV_pos (v : V) : 1 ≤ sizeV v := by
  obtain ⟨k, h, t, l, ks, vs⟩ := v
  unfold sizeV
  omega
theorem sizeL_get : ∀ {l : List V} {i : Nat} (hi : i < l.length), sizeV l[i] ≤ sizeL l
  | v :: r, 0, _ => by unfold sizeL; simp
  | v :: r, i + 1, hi => by
    have := sizeL_get (l := r) (i := i) (by simpa using hi)
    unfold sizeL
    simp only [List.getElem_cons_succ]
    omega
theorem sizeL_len : ∀ (l : List V), l.length ≤ sizeL l
  | [] => by simp
  | v :: r => by
    have := sizeL_len r
    have := sizeV_pos v
    unfold sizeL
    simp only [List.length_cons]
    omega

/-- A place of v: what stands there is y. -/
inductive WayTo : V → List V → V → Prop
  | here (v : V) : WayTo v [] v
  | elem {k h : Int} {t : ByteArray} {l : List V} {ks : List ByteArray} {vs : List V} {p : List V} {y : V} (i : Nat) (hi : i < l.length) (hw : WayTo l[i] p y) : WayTo (.mk k h t l ks vs) (numV i :: p) y
  | key {k h : Int} {t : ByteArray} {l : List V} {ks : List ByteArray} {vs : List V} {p : List V} {y : V} (i : Nat) (hk : i < ks.length) (hi : i < vs.length) (hw : WayTo vs[i] p y) : WayTo (.mk k h t l ks vs) (strV ks[i] :: p) y

/-- Each path is shorter than the value is large. -/
theorem WayTo.short {v : V} {p : List V} {y : V} (h : WayTo v p y) : p.length + sizeV y ≤ sizeV v := by
  induction h with
  | here v => simp
  | elem i hi hw ih =>
    have := sizeL_get hi
    simp only [List.length_cons]
    rw [sizeV.eq_def (.mk ..)]
    simp only
    omega
  | key i hk hi hw ih =>
    have := sizeL_get hi
    simp only [List.length_cons]
    rw [sizeV.eq_def (.mk ..)]
    simp only
    omega
theorem Lk.part_parts {s : Lk} {deep : Int} (h0 : 0 ≤ s.parts) (h4 : s.parts ≤ 400) : (s.part deep).parts = s.parts + 1 := by
  show wrap64 (s.parts + 1) = _
  unfold wrap64
  omega
mutual
theorem look_parts : ∀ (v : V) (deep : Int) (s : Lk), 0 ≤ s.parts → s.parts ≤ 400 → (lookV v deep s).bad = false → (lookV v deep s).parts = s.parts + sizeV v ∧ (lookV v deep s).parts ≤ 400
  | .mk k h t l ks vs, deep, s, h0, h4, hb => by
    unfold lookV at hb ⊢
    split at hb
    · rename_i e
      rw [e] at hb
      cases hb
    · rename_i e
      rw [if_neg e]
      have e' : (s.part deep).bad = false := by simpa using e
      have hp := Lk.part_parts (deep := deep) h0 h4
      have hle := (Lk.part_bad e').2.1
      have hle2 : (s.part deep).parts ≤ 400 := hle
      obtain ⟨hm, _⟩ := look_goodM none ks vs deep _ hb
      obtain ⟨_, hs⟩ := look_goodL l deep _ hm
      have hs0 := hs
      obtain ⟨hs, _, _⟩ := Lk.str_bad hs
      obtain ⟨hs, _⟩ := (Lk.want_bad _ _).1 hs
      obtain ⟨hs, hshape⟩ := (Lk.want_bad _ _).1 hs
      have hlen : ks.length = vs.length := by
        simp only [shapeB, Bool.and_eq_true, beq_iff_eq] at hshape
        exact hshape.2
      have L := look_partsL l deep ((((s.part deep).want (shapeB k h t l.length ks.length vs.length)).want (halfB h)).str t) (by show 0 ≤ (s.part deep).parts; omega) hle2 hm
      have M := look_partsM none ks vs deep _ hlen (by rw [L.1]; show 0 ≤ (s.part deep).parts + _; omega) L.2 hb
      refine ⟨?_, M.2⟩
      rw [M.1, L.1]
      unfold sizeV
      show (s.part deep).parts + (sizeL l : Int) + (sizeL vs : Int) = _
      omega
termination_by structural v => v
theorem look_partsL : ∀ (l : List V) (deep : Int) (s : Lk), 0 ≤ s.parts → s.parts ≤ 400 → (lookL l deep s).bad = false → (lookL l deep s).parts = s.parts + sizeL l ∧ (lookL l deep s).parts ≤ 400
  | [], _, s, h0, h4, hb => by
    unfold lookL sizeL
    exact ⟨by simp, h4⟩
  | v :: r, deep, s, h0, h4, hb => by
    unfold lookL at hb ⊢
    split at hb
    · rename_i e
      rw [e] at hb
      cases hb
    · rename_i e
      rw [if_neg e]
      obtain ⟨_, hs⟩ := look_goodL r deep _ hb
      have A := look_parts v (wrap64 (deep + 1)) s h0 h4 hs
      have B := look_partsL r deep _ (by rw [A.1]; omega) A.2 hb
      refine ⟨?_, B.2⟩
      rw [B.1, A.1]
      rw [sizeL_cons]
      omega
termination_by structural l => l
theorem look_partsM : ∀ (p : Option ByteArray) (ks : List ByteArray) (vs : List V) (deep : Int) (s : Lk), ks.length = vs.length → 0 ≤ s.parts → s.parts ≤ 400 → (lookM p ks vs deep s).bad = false →
    (lookM p ks vs deep s).parts = s.parts + sizeL vs ∧ (lookM p ks vs deep s).parts ≤ 400
  | p, [], [], deep, s, hl, h0, h4, hb => by
    unfold lookM sizeL
    exact ⟨by simp, h4⟩
  | p, [], _ :: _, deep, s, hl, h0, h4, hb => by simp at hl
  | p, _ :: _, [], deep, s, hl, h0, h4, hb => by simp at hl
  | p, k :: ks, v :: vs, deep, s, hl, h0, h4, hb => by
    unfold lookM at hb ⊢
    split at hb
    · rename_i e
      rw [e] at hb
      cases hb
    · rename_i e
      rw [if_neg e]
      obtain ⟨hs, _⟩ := look_goodM (some k) ks vs deep _ hb
      have A := look_parts v (wrap64 (deep + 1)) ((s.str k).want (riseB p k)) h0 h4 hs
      have B := look_partsM (some k) ks vs deep _ (by simpa using hl) (by rw [A.1]; show 0 ≤ s.parts + _; omega) A.2 hb
      refine ⟨?_, B.2⟩
      rw [B.1, A.1]
      rw [sizeL_cons]
      show s.parts + _ + _ = _
      omega
termination_by structural _ _ vs => vs
end

theorem fit_size {v : V} (h : fitB v = true) : sizeV v ≤ 400 := by
  have := look_parts v 0 ⟨0, 0, false⟩ (by decide) (by decide) (by simpa [fitB] using h)
  have e : (0 : Int) + sizeV v ≤ 400 := by rw [← this.1]; exact this.2
  omega
theorem Good.kinds {k h : Int} {t : ByteArray} {l : List V} {ks : List ByteArray} {vs : List V} (g : Good (.mk k h t l ks vs)) : (k = 5 ∨ l = []) ∧ (k = 6 ∨ ks = []) ∧ ks.length = vs.length := by
  cases g with
  | mk shape half valid list rise vkeys vals =>
    simp only [shapeB, Bool.and_eq_true, Bool.or_eq_true, decide_eq_true_eq, beq_iff_eq] at shape
    refine ⟨?_, ?_, shape.2⟩
    · rcases shape.1.1.2 with h | h
      · exact .inl h
      · exact .inr (List.length_eq_zero_iff.1 h)
    · rcases shape.1.2 with h | h
      · exact .inl h
      · exact .inr (List.length_eq_zero_iff.1 h)
end Go.Proofs.YtjlkoekfcdpnaaaGreatDoor

namespace Go.Proofs.YtjlkoekfcdpnaaaGreatDoor
open Go Go.RowKit Go.Maps
def reach : Nat := 140737488351232
/-- The cells cs stand at b, o. -/
def CellsAt (w : World) (b o : Nat) (cs : List Value) : Prop := ∀ j (h : j < cs.length), w.cell? ⟨b, o + j, none⟩ = some cs[j]
theorem CellsAt.below {w w' : World} {B b o : Nat} {cs : List Value} (h : CellsAt w b o cs) (hb : Below B w w') (hlt : b < B) : CellsAt w' b o cs :=
  fun j hj => (hb.cell (p := ⟨b, o + j, none⟩) hlt).trans (h j hj)
inductive RepV (w : World) (B : Nat) : V → List Value → Prop
  | mk {k h : Int} {t : ByteArray} {l : List V} {ks : List ByteArray} {vs : List V} {la ka va : Option Addr} {lc kc vc : Nat} (C D : Nat → List Value)
    (hk : -9223372036854775808 ≤ k ∧ k ≤ 9223372036854775807) (hh : -9223372036854775808 ≤ h ∧ h ≤ 9223372036854775807)
    (ht : t.size ≤ 140737488351232) (hl : l.length * 104 ≤ 140737488351232) (hks : ks.length * 16 ≤ 140737488351232) (hvs : vs.length * 104 ≤ 140737488351232)
    (hs : ∀ s ∈ ks, s.size ≤ 140737488351232)
    (cl : 0 < l.length → ∃ b o, la = some ⟨b, o, none⟩ ∧ b < B ∧ ∀ i, i < l.length → CellsAt w b (o + i * 6) (C i))
    (rl : ∀ i (hi : i < l.length), RepV w B l[i] (C i))
    (ck : 0 < ks.length → ∃ b o, ka = some ⟨b, o, none⟩ ∧ b < B ∧ ∀ i (hi : i < ks.length), w.cell? ⟨b, o + i, none⟩ = some (.string ks[i]))
    (cv : 0 < vs.length → ∃ b o, va = some ⟨b, o, none⟩ ∧ b < B ∧ ∀ i, i < vs.length → CellsAt w b (o + i * 6) (D i))
    (rv : ∀ i (hi : i < vs.length), RepV w B vs[i] (D i)) (hlc : l.length ≤ lc) :
    RepV w B (.mk k h t l ks vs) [.int .i64 k, .int .i64 h, .string t, .slice la l.length lc, .slice ka ks.length kc, .slice va vs.length vc]
theorem RepV.carry {w w' : World} {B B' : Nat} (hb : Below B w w') (hB : B ≤ B') {v : V} {cs : List Value} (h : RepV w B v cs) : RepV w' B' v cs := by
  induction h with
  | mk C D hk hh ht hl hks hvs hs cl _ ck cv _ hlc ihl ihv =>
    refine .mk C D hk hh ht hl hks hvs hs ?_ ihl ?_ ?_ ihv hlc
    · intro h0
      obtain ⟨b, o, e, hlt, hc⟩ := cl h0
      exact ⟨b, o, e, by omega, fun i hi => (hc i hi).below hb hlt⟩
    · intro h0
      obtain ⟨b, o, e, hlt, hc⟩ := ck h0
      exact ⟨b, o, e, by omega, fun i hi => (hb.cell (p := ⟨b, o + i, none⟩) hlt).trans (hc i hi)⟩
    · intro h0
      obtain ⟨b, o, e, hlt, hc⟩ := cv h0
      exact ⟨b, o, e, by omega, fun i hi => (hc i hi).below hb hlt⟩
theorem RepV.mono {w : World} {B B' : Nat} (hB : B ≤ B') {v : V} {cs : List Value} (h : RepV w B v cs) : RepV w B' v cs := h.carry (Below.refl _ _) hB
end Go.Proofs.YtjlkoekfcdpnaaaGreatDoor

namespace Go.Proofs.YtjlkoekfcdpnaaaGreatDoor
open Go Go.RowKit Go.Deep
theorem at_alloc (w : World) (o : Obj) : (w.alloc o).heap[w.heap.size]? = some o := by
  show (w.heap.push o)[w.heap.size]? = _
  simp
theorem at_alloc2 (w : World) (o o' : Obj) : ((w.alloc o).alloc o').heap[w.heap.size + 1]? = some o' := by
  have := at_alloc (w.alloc o) o'
  simpa using this
theorem of_block6 {w : World} {b : Nat} {c0 c1 c2 c3 c4 c5 : Value} {t : TypeId} (h : w.heap[b]? = some (.cells #[c0, c1, c2, c3, c4, c5] t)) :
    w.cell? ⟨b, 0, none⟩ = some c0 ∧ w.cell? ⟨b, 1, none⟩ = some c1 ∧ w.cell? ⟨b, 2, none⟩ = some c2 ∧ w.cell? ⟨b, 3, none⟩ = some c3 ∧ w.cell? ⟨b, 4, none⟩ = some c4 ∧ w.cell? ⟨b, 5, none⟩ = some c5 := by
  simp [World.cell?, h]
theorem of_block7 {w : World} {b : Nat} {c0 c1 c2 c3 c4 c5 c6 : Value} {t : TypeId} (h : w.heap[b]? = some (.cells #[c0, c1, c2, c3, c4, c5, c6] t)) :
    w.cell? ⟨b, 0, none⟩ = some c0 ∧ w.cell? ⟨b, 1, none⟩ = some c1 ∧ w.cell? ⟨b, 2, none⟩ = some c2 ∧ w.cell? ⟨b, 3, none⟩ = some c3 ∧ w.cell? ⟨b, 4, none⟩ = some c4 ∧ w.cell? ⟨b, 5, none⟩ = some c5 ∧ w.cell? ⟨b, 6, none⟩ = some c6 := by
  simp [World.cell?, h]
theorem free_block7 {w : World} {b : Nat} {c0 c1 c2 c3 c4 c5 c6 : Value} {t : TypeId} (h : w.heap[b]? = some (.cells #[c0, c1, c2, c3, c4, c5, c6] t)) :
    w.frozen? ⟨b, 0, none⟩ = false ∧ w.frozen? ⟨b, 1, none⟩ = false ∧ w.frozen? ⟨b, 2, none⟩ = false ∧ w.frozen? ⟨b, 3, none⟩ = false ∧ w.frozen? ⟨b, 4, none⟩ = false ∧ w.frozen? ⟨b, 5, none⟩ = false ∧ w.frozen? ⟨b, 6, none⟩ = false := by
  simp [World.frozen?, h]
theorem set_row7 {w : World} {b : Nat} {c0 c1 c2 c3 c4 c5 c6 : Value} {t : TypeId} (h : w.heap[b]? = some (.cells #[c0, c1, c2, c3, c4, c5, c6] t)) (v0 v1 v2 v3 v4 v5 v6 : Value) :
    (((((((w.setCell ⟨b, 0, none⟩ v0).setCell ⟨b, 1, none⟩ v1).setCell ⟨b, 2, none⟩ v2).setCell ⟨b, 3, none⟩ v3).setCell ⟨b, 4, none⟩ v4).setCell ⟨b, 5, none⟩ v5).setCell ⟨b, 6, none⟩ v6).heap[b]? = some (.cells #[v0, v1, v2, v3, v4, v5, v6] t) := by
  have h0 := heap_setCell_same _ b 0 _ t v0 h
  have h1 := heap_setCell_same _ b 1 _ t v1 h0
  have h2 := heap_setCell_same _ b 2 _ t v2 h1
  have h3 := heap_setCell_same _ b 3 _ t v3 h2
  have h4 := heap_setCell_same _ b 4 _ t v4 h3
  have h5 := heap_setCell_same _ b 5 _ t v5 h4
  have h6 := heap_setCell_same _ b 6 _ t v6 h5
  simpa using h6
theorem below_alloc1 (w : World) (o : Obj) : Below w.heap.size w (w.alloc o) := (Below.refl _ _).alloc (Nat.le_refl _) o
theorem below_alloc2 (w : World) (o o' : Obj) : Below w.heap.size w ((w.alloc o).alloc o') := ((Below.refl _ _).alloc (Nat.le_refl _) _).alloc (by simp) _
theorem at_alloc3 (w : World) (o o' o'' : Obj) : Below w.heap.size w (((w.alloc o).alloc o').alloc o'') ∧ (((w.alloc o).alloc o').alloc o'').heap.size = w.heap.size + 3 ∧
    (((w.alloc o).alloc o').alloc o'').heap[w.heap.size + 1]? = some o' ∧ (((w.alloc o).alloc o').alloc o'').heap[w.heap.size + 1 + 1]? = some o'' := by
  refine ⟨(below_alloc2 w o o').alloc (by simp; omega) _, by simp, ?_, ?_⟩
  · rw [heap_alloc_old _ _ (by simp)]
    exact at_alloc2 w o o'
  · have := at_alloc2 (w.alloc o) o' o''
    simpa using this
theorem results_row_tmp {P : Program} {fn : Func} {p u : Tmp} {ty : TypeId} (h : fn.results = #[.cell p ty, .tmp u]) (tmps : Array Value) (w : World) (g : Nat) (t : TypeId) (cs : Array Value) (fr : Nat × Nat) (d : TypeDesc)
    (hp : tmps.getD p undef = .pointer (some ⟨g, 0, none⟩)) (hg : w.heap[g]? = some (.cells cs t fr))
    (hu : P.underlying ty = some d) (hd : (match d with | .struct _ | .array _ _ => true | _ => false) = true) (hi : (P.info? ty).map (·.size) = some cs.size) :
    (results fn tmps).run P w = .ok (.tuple #[.agg cs, tmps.getD u undef]) w := by
  rw [results_cell_tmp h, hp]
  simp [asAddr, run_loadVar_row w g t ty cs fr d hg hu hd hi, Result.andThen]
theorem set_row6 {w : World} {b : Nat} {c0 c1 c2 c3 c4 c5 : Value} {t : TypeId} (h : w.heap[b]? = some (.cells #[c0, c1, c2, c3, c4, c5] t)) (v0 v1 v2 v3 v4 v5 : Value) :
    ((((((w.setCell ⟨b, 0, none⟩ v0).setCell ⟨b, 1, none⟩ v1).setCell ⟨b, 2, none⟩ v2).setCell ⟨b, 3, none⟩ v3).setCell ⟨b, 4, none⟩ v4).setCell ⟨b, 5, none⟩ v5).heap[b]? = some (.cells #[v0, v1, v2, v3, v4, v5] t) := by
  have h0 := heap_setCell_same _ b 0 _ t v0 h
  have h1 := heap_setCell_same _ b 1 _ t v1 h0
  have h2 := heap_setCell_same _ b 2 _ t v2 h1
  have h3 := heap_setCell_same _ b 3 _ t v3 h2
  have h4 := heap_setCell_same _ b 4 _ t v4 h3
  have h5 := heap_setCell_same _ b 5 _ t v5 h4
  simpa using h5
theorem free_block6 {w : World} {b : Nat} {c0 c1 c2 c3 c4 c5 : Value} {t : TypeId} (h : w.heap[b]? = some (.cells #[c0, c1, c2, c3, c4, c5] t)) :
    w.frozen? ⟨b, 0, none⟩ = false ∧ w.frozen? ⟨b, 1, none⟩ = false ∧ w.frozen? ⟨b, 2, none⟩ = false ∧ w.frozen? ⟨b, 3, none⟩ = false ∧ w.frozen? ⟨b, 4, none⟩ = false ∧ w.frozen? ⟨b, 5, none⟩ = false := by
  simp [World.frozen?, h]
theorem below_set6 {a w : World} {B b : Nat} (h : Below B a w) (hb : B ≤ b) (v0 v1 v2 v3 v4 v5 : Value) :
    Below B a ((((((w.setCell ⟨b, 0, none⟩ v0).setCell ⟨b, 1, none⟩ v1).setCell ⟨b, 2, none⟩ v2).setCell ⟨b, 3, none⟩ v3).setCell ⟨b, 4, none⟩ v4).setCell ⟨b, 5, none⟩ v5) :=
  (((((h.setCell hb _).setCell hb _).setCell hb _).setCell hb _).setCell hb _).setCell hb _
theorem at_alloc20 (w : World) (o o' : Obj) : ((w.alloc o).alloc o').heap[w.heap.size]? = some o := by
  rw [heap_alloc_old _ _ (by simp)]
  exact at_alloc w o
theorem size_alloc2 (w : World) (o o' : Obj) : ((w.alloc o).alloc o').heap.size = w.heap.size + 2 := by simp
/-- What a callee leaves, handed on. -/
theorem below_next {w w1 w2 : World} (h : Below w.heap.size w w1) (k : Below w1.heap.size w1 w2) : Below w.heap.size w w2 := h.trans (k.mono h.size)
theorem below_grown2 {w w' : World} (h : Below w.heap.size w w') (row : Option Nat) : w.grownBy w' row := ⟨h.os, h.tape, h.output, h.size, fun k hk _ => h.block k hk⟩
theorem size_alloc1 (w : World) (o : Obj) : (w.alloc o).heap.size = w.heap.size + 1 := by simp
end Go.Proofs.YtjlkoekfcdpnaaaGreatDoor
