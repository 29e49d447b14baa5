/- The plain side: impl.Value as a tree (V), a Go value of type any as a tree (J), and what spec.Fit reckons. No program in sight. -/
/- Plain: what spec.Cmp says of two values; of good values it is 0 just where they are one. -/
/- Plain: what spec.Index and spec.GetPath say of good values. -/
/- Plain: what spec.Fit says of a value. -/
/- Plain: what spec.spots and spec.Ways give: all places of a value, the outer ones first; how many they are. -/
import Derived.RowKit
import Derived.Lib.ValidU
import GoSem.Core.Float
namespace Go.Proofs.YtpoibibbkjogpaaGreatDoor
open Go Go.RowKit

/-- impl.Value, as a tree. -/
inductive V where
  | mk (kind half : Int) (text : ByteArray) (list : List V) (keys : List ByteArray) (vals : List V)

def V.kind : V → Int | .mk k _ _ _ _ _ => k
def V.half : V → Int | .mk _ h _ _ _ _ => h
def V.text : V → ByteArray | .mk _ _ t _ _ _ => t
def V.list : V → List V | .mk _ _ _ l _ _ => l
def V.keys : V → List ByteArray | .mk _ _ _ _ k _ => k
def V.vals : V → List V | .mk _ _ _ _ _ v => v

/-- A Go value of type any, as a tree ('hole': struct{}{}). -/
inductive J where
  | null
  | bool (b : Bool)
  | int (n : Int)
  | flt (bits : Nat)
  | str (s : ByteArray)
  | arr (l : List J)
  | obj (m : List (ByteArray × J))
  | hole

/-- The state of a looker (spec/valid.go). -/
structure Lk where
  parts : Int
  bytes : Int
  bad : Bool

def Lk.want (s : Lk) (ok : Bool) : Lk := { s with bad := s.bad || !ok }
def Lk.part (s : Lk) (deep : Int) : Lk :=
  { s with parts := wrap64 (s.parts + 1), bad := s.bad || !(decide (wrap64 (s.parts + 1) ≤ 400) && decide (s.bytes ≤ 2000) && decide (deep ≤ 60)) }
def Lk.str (s : Lk) (b : ByteArray) : Lk :=
  { s with bytes := wrap64 (s.bytes + b.size), bad := s.bad || !(decide (wrap64 (s.bytes + b.size) ≤ 2000) && Lib.validD b.data.toList) }

/-- The two tests of a value by itself. -/
def shapeB (k h : Int) (t : ByteArray) (nl nk nv : Nat) : Bool :=
  decide (0 ≤ k) && decide (k ≤ 6) && (k == 3 || h == 0) && (k == 4 || t.toList == []) && (k == 5 || nl == 0) && (k == 6 || nk == 0) && nk == nv
def halfB (h : Int) : Bool :=
  decide (-18014398509481984 ≤ h) && decide (h ≤ 18014398509481984) && (h.tmod 2 == 0 || decide (-9007199254740992 < h) && decide (h < 9007199254740992))

def riseB (prev : Option ByteArray) (k : ByteArray) : Bool := match prev with
  | none => true
  | some p => Op.bytesLess p.toList k.toList

mutual
def lookV : V → Int → Lk → Lk
  | .mk k h t l ks vs, deep, s =>
    if (s.part deep).bad then s.part deep else
      lookM none ks vs deep (lookL l deep ((((s.part deep).want (shapeB k h t l.length ks.length vs.length)).want (halfB h)).str t))
def lookL : List V → Int → Lk → Lk
  | [], _, s => s
  | v :: r, deep, s => if s.bad then s else lookL r deep (lookV v (wrap64 (deep + 1)) s)
def lookM : Option ByteArray → List ByteArray → List V → Int → Lk → Lk
  | _, [], _, _, s => s
  | _, _ :: _, [], _, s => s
  | p, k :: ks, v :: vs, deep, s => if s.bad then s else lookM (some k) ks vs deep (lookV v (wrap64 (deep + 1)) ((s.str k).want (riseB p k)))
end

def fitB (v : V) : Bool := !(lookV v 0 ⟨0, 0, false⟩).bad

theorem Lk.want_bad (s : Lk) (ok : Bool) : (s.want ok).bad = false ↔ s.bad = false ∧ ok = true := by
  cases h : s.bad <;> cases ok <;> simp [Lk.want, h]
theorem Lk.part_bad {s : Lk} {deep : Int} (h : (s.part deep).bad = false) : s.bad = false ∧ wrap64 (s.parts + 1) ≤ 400 ∧ s.bytes ≤ 2000 ∧ deep ≤ 60 := by
  simp [Lk.part] at h
  exact ⟨h.1, by omega, by omega, by omega⟩
theorem Lk.str_bad {s : Lk} {b : ByteArray} (h : (s.str b).bad = false) : s.bad = false ∧ wrap64 (s.bytes + b.size) ≤ 2000 ∧ Lib.validD b.data.toList = true := by
  simp [Lk.str] at h
  exact ⟨h.1, by omega, h.2.2⟩

/-- What makes a value one of JSON. -/
def Rising (ks : List ByteArray) : Prop := ks.Pairwise fun a b => Op.bytesLess a.toList b.toList = true

inductive Good : V → Prop
  | mk {k h : Int} {t : ByteArray} {l : List V} {ks : List ByteArray} {vs : List V}
    (shape : shapeB k h t l.length ks.length vs.length = true) (half : halfB h = true) (valid : Lib.validD t.data.toList = true)
    (list : ∀ i (hi : i < l.length), Good l[i]) (rise : ∀ i (hi : i + 1 < ks.length), Op.bytesLess ks[i].toList ks[i + 1].toList = true)
    (vkeys : ∀ i (hi : i < ks.length), Lib.validD ks[i].data.toList = true) (vals : ∀ i (hi : i < vs.length), Good vs[i]) : Good (.mk k h t l ks vs)

/-- The float of an odd Half, as impl.toGo reckons it. -/
def halfBits (h : Int) : Nat := (FloatKind.f64.format.div (FloatKind.f64.nearest h) 4611686018427387904).getD 0

mutual
def toJ : V → J
  | .mk k h t l ks vs =>
    if k = 0 then .null else if k = 1 then .bool false else if k = 2 then .bool true
    else if k = 3 then (if h.tmod 2 = 0 then .int (h.tdiv 2) else .flt (halfBits h))
    else if k = 4 then .str t else if k = 5 then .arr (toJL l) else .obj (toJM ks vs)
def toJL : List V → List J
  | [] => []
  | v :: r => toJ v :: toJL r
def toJM : List ByteArray → List V → List (ByteArray × J)
  | k :: ks, v :: vs => (k, toJ v) :: toJM ks vs
  | _, _ => []
end

theorem toJL_eq : ∀ l : List V, toJL l = l.map toJ
  | [] => by simp [toJL]
  | v :: r => by simp [toJL, toJL_eq r]
theorem toJM_eq : ∀ (ks : List ByteArray) (vs : List V), toJM ks vs = ks.zip (vs.map toJ)
  | [], _ => by simp [toJM]
  | _ :: _, [] => by simp [toJM]
  | k :: ks, v :: vs => by simp [toJM, toJM_eq ks vs]

end Go.Proofs.YtpoibibbkjogpaaGreatDoor

namespace Go.Proofs.YtpoibibbkjogpaaGreatDoor
open Go Go.RowKit

/-- What the reference answers. -/
inductive Ans where
  | fine (v : V)
  | raises
  | silent
def Ans.how : Ans → Int
  | .fine _ => 0
  | .raises => 1
  | .silent => 2

def signI (n : Int) : Int := if n < 0 then -1 else if 0 < n then 1 else 0
def textsC (a b : ByteArray) : Int := if Op.bytesLess a.toList b.toList = true then -1 else if Op.bytesLess b.toList a.toList = true then 1 else 0
def keysC : List ByteArray → List ByteArray → Int
  | x :: xs, y :: ys => if textsC x y = 0 then keysC xs ys else textsC x y
  | [], ys => -(ys.length : Int)
  | x :: xs, [] => ((x :: xs).length : Int)

mutual
def cmpV : V → V → Int
  | .mk k h t l ks vs, .mk k' h' t' l' ks' vs' =>
    if k ≠ k' then signI (wrap64 (k - k')) else if k = 3 then signI (wrap64 (h - h')) else if k = 4 then textsC t t'
    else if k = 5 then signI (cmpL l l') else if k = 6 then (if keysC ks ks' = 0 then signI (cmpL vs vs') else signI (keysC ks ks')) else 0
def cmpL : List V → List V → Int
  | x :: xs, y :: ys => if cmpV x y = 0 then cmpL xs ys else cmpV x y
  | [], ys => -(ys.length : Int)
  | x :: xs, [] => ((x :: xs).length : Int)
end

theorem cmpL_drop (a b : List V) (n : Nat) (ha : n < a.length) (hb : n < b.length) :
    cmpL (a.drop n) (b.drop n) = if cmpV a[n] b[n] = 0 then cmpL (a.drop (n + 1)) (b.drop (n + 1)) else cmpV a[n] b[n] := by
  rw [List.drop_eq_getElem_cons ha, List.drop_eq_getElem_cons hb]
  simp only [cmpL]
theorem cmpL_end (a b : List V) (n : Nat) (h : a.length ≤ n ∨ b.length ≤ n) (h1 : n ≤ a.length) (h2 : n ≤ b.length) :
    cmpL (a.drop n) (b.drop n) = (a.length : Int) - b.length := by
  by_cases ha : a.length ≤ n
  · rw [List.drop_eq_nil_of_le ha]
    simp only [cmpL, List.length_drop]
    omega
  · have hb : b.length ≤ n := by omega
    rw [List.drop_eq_nil_of_le hb, List.drop_eq_getElem_cons (by omega)]
    simp only [cmpL, List.length_cons, List.length_drop]
    omega
theorem keysC_drop (a b : List ByteArray) (n : Nat) (ha : n < a.length) (hb : n < b.length) :
    keysC (a.drop n) (b.drop n) = if textsC a[n] b[n] = 0 then keysC (a.drop (n + 1)) (b.drop (n + 1)) else textsC a[n] b[n] := by
  rw [List.drop_eq_getElem_cons ha, List.drop_eq_getElem_cons hb]
  simp only [keysC]
theorem keysC_end (a b : List ByteArray) (n : Nat) (h : a.length ≤ n ∨ b.length ≤ n) (h1 : n ≤ a.length) (h2 : n ≤ b.length) :
    keysC (a.drop n) (b.drop n) = (a.length : Int) - b.length := by
  by_cases ha : a.length ≤ n
  · rw [List.drop_eq_nil_of_le ha]
    simp only [keysC, List.length_drop]
    omega
  · have hb : b.length ≤ n := by omega
    rw [List.drop_eq_nil_of_le hb, List.drop_eq_getElem_cons (by omega)]
    simp only [keysC, List.length_cons, List.length_drop]
    omega

theorem bLess_eq : ∀ (x y : List UInt8), Op.bytesLess x y = decide (x < y)
  | [], [] => by simp [Op.bytesLess]
  | _ :: _, [] => by simp [Op.bytesLess]
  | [], _ :: _ => by simp [Op.bytesLess]
  | a :: x, b :: y => by
    rw [Op.bytesLess, bLess_eq x y]
    simp only [List.cons_lt_cons_iff]
    by_cases h1 : a < b <;> by_cases h2 : a = b <;> by_cases h3 : x < y <;> simp [h1, h2, h3]
theorem toList_inj {a b : ByteArray} (h : a.toList = b.toList) : a = b := by
  rw [Lib.toList_data, Lib.toList_data] at h
  obtain ⟨⟨x⟩⟩ := a
  obtain ⟨⟨y⟩⟩ := b
  simp at h
  rw [h]
theorem textsC_lt {a b : ByteArray} : textsC a b = -1 ↔ a.toList < b.toList := by
  unfold textsC
  simp only [bLess_eq, decide_eq_true_eq]
  split
  · simp [*]
  · split <;> simp [*]
theorem textsC_gt {a b : ByteArray} : textsC a b = 1 ↔ b.toList < a.toList := by
  unfold textsC
  simp only [bLess_eq, decide_eq_true_eq]
  split
  · rename_i h
    simp
    try exact Std.le_of_lt h
  · split <;> simp [*]
theorem textsC_zero {a b : ByteArray} : textsC a b = 0 ↔ a = b := by
  unfold textsC
  simp only [bLess_eq, decide_eq_true_eq]
  constructor
  · intro h
    split at h
    · omega
    · split at h
      · omega
      · rename_i h1 h2
        exact toList_inj (List.le_antisymm (List.not_lt.1 h2) (List.not_lt.1 h1))
  · rintro rfl
    rw [if_neg (List.lt_irrefl _), if_neg (List.lt_irrefl _)]
theorem textsC_swap (a b : ByteArray) : textsC b a = -textsC a b := by
  unfold textsC
  simp only [bLess_eq, decide_eq_true_eq]
  by_cases h1 : a.toList < b.toList <;> by_cases h2 : b.toList < a.toList
  · exact absurd (List.lt_trans h1 h2) (List.lt_irrefl _)
  all_goals simp [h1, h2]

theorem signI_zero {n : Int} : signI n = 0 ↔ n = 0 := by unfold signI; split <;> (try split) <;> omega

theorem keysC_zero : ∀ {a b : List ByteArray}, keysC a b = 0 ↔ a = b
  | [], [] => by simp [keysC]
  | [], _ :: _ => by simp [keysC] <;> omega
  | _ :: _, [] => by simp [keysC] <;> omega
  | x :: xs, y :: ys => by
    simp only [keysC]
    split
    · rename_i h
      rw [keysC_zero, textsC_zero.1 h]
      simp
    · rename_i h
      constructor
      · intro e; exact absurd e h
      · intro e
        obtain ⟨rfl, rfl⟩ := List.cons.inj e
        exact absurd (textsC_zero.2 rfl) h

theorem cmpL_zero : ∀ {a b : List V} (_ : ∀ i (hi : i < a.length), ∀ y ∈ b, (cmpV a[i] y = 0 ↔ a[i] = y)), cmpL a b = 0 ↔ a = b
  | [], [], _ => by simp [cmpL]
  | [], _ :: _, _ => by simp [cmpL] <;> omega
  | _ :: _, [], _ => by simp [cmpL] <;> omega
  | x :: xs, y :: ys, h => by
    have h0 : cmpV x y = 0 ↔ x = y := h 0 (by simp) y (by simp)
    have ih := cmpL_zero (a := xs) (b := ys) (fun i hi y' hy => h (i + 1) (by simpa using hi) y' (by simp [hy]))
    simp only [cmpL]
    split
    · rename_i e
      rw [ih, h0.1 e]
      simp
    · rename_i e
      constructor
      · intro e'; exact absurd e' e
      · intro e'
        obtain ⟨rfl, rfl⟩ := List.cons.inj e'
        exact absurd (h0.2 rfl) e

theorem shape_plain {k h : Int} {t : ByteArray} {l : List V} {ks : List ByteArray} {vs : List V} (g : shapeB k h t l.length ks.length vs.length = true) :
    0 ≤ k ∧ k ≤ 6 ∧ (k ≠ 3 → h = 0) ∧ (k ≠ 4 → t = ⟨#[]⟩) ∧ (k ≠ 5 → l = []) ∧ (k ≠ 6 → ks = []) ∧ (k ≠ 6 → vs = []) ∧ ks.length = vs.length := by
  simp only [shapeB, Bool.and_eq_true, decide_eq_true_eq, Bool.or_eq_true, beq_iff_eq] at g
  obtain ⟨⟨⟨⟨⟨⟨hk0, hk6⟩, s1⟩, s2⟩, s3⟩, s4⟩, hlen⟩ := g
  refine ⟨hk0, hk6, fun n => s1.resolve_left n, fun n => ?_, fun n => List.length_eq_zero_iff.1 (s3.resolve_left n), fun n => List.length_eq_zero_iff.1 (s4.resolve_left n), fun n => List.length_eq_zero_iff.1 (by have := s4.resolve_left n; omega), hlen⟩
  have e := s2.resolve_left n
  exact toList_inj (e.trans (by rw [Lib.toList_data]))

theorem half_bounds {h : Int} (g : halfB h = true) : -18014398509481984 ≤ h ∧ h ≤ 18014398509481984 ∧ (h.tmod 2 ≠ 0 → -9007199254740992 < h ∧ h < 9007199254740992) := by
  simp only [halfB, Bool.and_eq_true, decide_eq_true_eq, Bool.or_eq_true, beq_iff_eq] at g
  exact ⟨g.1.1, g.1.2, fun n => g.2.resolve_left n⟩

theorem wrap_sub_zero {a b : Int} (ha : -18014398509481984 ≤ a ∧ a ≤ 18014398509481984) (hb : -18014398509481984 ≤ b ∧ b ≤ 18014398509481984) : wrap64 (a - b) = a - b := by
  unfold wrap64; omega

theorem Good.all {k h : Int} {t : ByteArray} {l : List V} {ks : List ByteArray} {vs : List V} (g : Good (.mk k h t l ks vs)) :
    shapeB k h t l.length ks.length vs.length = true ∧ halfB h = true ∧ Lib.validD t.data.toList = true ∧ (∀ i (hi : i < l.length), Good l[i]) ∧
    (∀ i (hi : i + 1 < ks.length), Op.bytesLess ks[i].toList ks[i + 1].toList = true) ∧ (∀ i (hi : i < ks.length), Lib.validD ks[i].data.toList = true) ∧ (∀ i (hi : i < vs.length), Good vs[i]) := by
  cases g with
  | mk a b c d e f g => exact ⟨a, b, c, d, e, f, g⟩

theorem cmpV_zero {a : V} (ga : Good a) : ∀ {b : V}, Good b → (cmpV a b = 0 ↔ a = b) := by
  induction ga with
  | @mk k h t l ks vs shape half valid list rise vkeys vals ihl ihv =>
  intro b gb
  obtain ⟨k', h', t', l', ks', vs'⟩ := b
  obtain ⟨shape', half', _, list', _, _, vals'⟩ := gb.all
  obtain ⟨p1, p2, p3, p4, p5, p6, p7, p8⟩ := shape_plain shape
  obtain ⟨q1, q2, q3, q4, q5, q6, q7, q8⟩ := shape_plain shape'
  obtain ⟨r1, r2, _⟩ := half_bounds half
  obtain ⟨r3, r4, _⟩ := half_bounds half'
  have hl := cmpL_zero (a := l) (b := l') (fun i hi y hy => by
    obtain ⟨j, hj, rfl⟩ := List.mem_iff_getElem.1 hy
    exact ihl i hi (list' j hj))
  have hv := cmpL_zero (a := vs) (b := vs') (fun i hi y hy => by
    obtain ⟨j, hj, rfl⟩ := List.mem_iff_getElem.1 hy
    exact ihv i hi (vals' j hj))
  simp only [cmpV]
  by_cases ek : k = k'
  · subst ek
    simp only [ne_eq, not_true_eq_false, if_false]
    by_cases k3 : k = 3
    · subst k3
      rw [if_pos rfl, signI_zero, wrap_sub_zero ⟨r1, r2⟩ ⟨r3, r4⟩, p4 (by decide), p5 (by decide), p6 (by decide), p7 (by decide), q4 (by decide), q5 (by decide), q6 (by decide), q7 (by decide)]
      simp
      omega
    · rw [if_neg k3, p3 k3, q3 k3]
      by_cases k4 : k = 4
      · subst k4
        rw [if_pos rfl, textsC_zero, p5 (by decide), p6 (by decide), p7 (by decide), q5 (by decide), q6 (by decide), q7 (by decide)]
        simp
      · rw [if_neg k4, p4 k4, q4 k4]
        by_cases k5 : k = 5
        · subst k5
          rw [if_pos rfl, signI_zero, hl, p6 (by decide), p7 (by decide), q6 (by decide), q7 (by decide)]
          simp
        · rw [if_neg k5, p5 k5, q5 k5]
          by_cases k6 : k = 6
          · rw [if_pos k6]
            by_cases e : keysC ks ks' = 0
            · rw [if_pos e, signI_zero, hv, keysC_zero.1 e]
              simp
            · rw [if_neg e, signI_zero]
              constructor
              · intro e'; exact absurd e' e
              · intro e'
                simp at e'
                exact absurd (keysC_zero.2 e'.1) e
          · rw [if_neg k6, p6 k6, p7 k6, q6 k6, q7 k6]
            simp
  · rw [if_pos ek, signI_zero, wrap_sub_zero (by omega) (by omega)]
    constructor
    · intro e; omega
    · intro e; simp at e; exact absurd e.1 ek

end Go.Proofs.YtpoibibbkjogpaaGreatDoor

namespace Go.Proofs.YtpoibibbkjogpaaGreatDoor
open Go Go.RowKit

def nullV : V := .mk 0 0 ⟨#[]⟩ [] [] []

/-- Where a key stands in rising keys, or would stand. -/
def placeI : List ByteArray → ByteArray → Nat
  | [], _ => 0
  | k :: r, x => if Op.bytesLess k.toList x.toList = true then placeI r x + 1 else 0
theorem placeI_le : ∀ (ks : List ByteArray) (x : ByteArray), placeI ks x ≤ ks.length
  | [], _ => Nat.le_refl _
  | k :: r, x => by
    have := placeI_le r x
    simp only [placeI]
    split <;> simp <;> omega
theorem placeI_less : ∀ {ks : List ByteArray} {x : ByteArray} {i : Nat} (h : i < placeI ks x), Op.bytesLess (ks[i]'(Nat.lt_of_lt_of_le h (placeI_le ks x))).toList x.toList = true
  | [], _, _, h => by simp [placeI] at h
  | k :: r, x, i, h => by
    have h0 := h
    simp only [placeI] at h0
    split at h0
    · rename_i c
      cases i with
      | zero => exact c
      | succ i => exact placeI_less (ks := r) (by omega)
    · omega
theorem placeI_not : ∀ {ks : List ByteArray} {x : ByteArray} (h : placeI ks x < ks.length), Op.bytesLess ks[placeI ks x].toList x.toList = false
  | [], _, h => by simp at h
  | k :: r, x, h => by
    by_cases c : Op.bytesLess k.toList x.toList = true
    · have e : placeI (k :: r) x = placeI r x + 1 := by simp [placeI, c]
      have h2 : placeI r x < r.length := by rw [e] at h; simpa using h
      have := placeI_not h2
      simp only [e, List.getElem_cons_succ]
      exact this
    · have e : placeI (k :: r) x = 0 := by simp [placeI, c]
      simp only [e, List.getElem_cons_zero]
      simpa using c
theorem placeI_eq : ∀ {ks : List ByteArray} {x : ByteArray} {j : Nat} (hj : j < ks.length) (_ : ∀ i (hi : i < j), Op.bytesLess (ks[i]'(by omega)).toList x.toList = true) (_ : Op.bytesLess ks[j].toList x.toList = false), placeI ks x = j
  | [], _, _, hj, _, _ => by simp at hj
  | k :: r, x, 0, _, _, h2 => by
    simp only [List.getElem_cons_zero] at h2
    simp [placeI, h2]
  | k :: r, x, j + 1, hj, h1, h2 => by
    have c := h1 0 (by omega)
    simp only [List.getElem_cons_zero] at c
    have := placeI_eq (ks := r) (x := x) (j := j) (by simpa using hj) (fun i hi => by have := h1 (i + 1) (by omega); simpa using this) (by simpa using h2)
    simp [placeI, c, this]

/-- Whether rising keys hold a key. -/
def hasK (ks : List ByteArray) (x : ByteArray) : Bool := match ks[placeI ks x]? with
  | some k => k.toList == x.toList
  | none => false
theorem hasK_iff {ks : List ByteArray} {x : ByteArray} : hasK ks x = true ↔ ∃ h : placeI ks x < ks.length, ks[placeI ks x] = x := by
  unfold hasK
  by_cases h : placeI ks x < ks.length
  · rw [List.getElem?_eq_getElem h]
    simp only [beq_iff_eq]
    exact ⟨fun e => ⟨h, toList_inj e⟩, fun ⟨_, e⟩ => by rw [e]⟩
  · rw [List.getElem?_eq_none (by omega)]
    exact ⟨fun e => (by cases e), fun ⟨h', _⟩ => absurd h' h⟩

def RiseK (ks : List ByteArray) : Prop := ∀ i j (hi : i < j) (hj : j < ks.length), Op.bytesLess (ks[i]'(by omega)).toList ks[j].toList = true
theorem hasK_at {ks : List ByteArray} (hr : RiseK ks) {j : Nat} (hj : j < ks.length) : placeI ks ks[j] = j ∧ hasK ks ks[j] = true := by
  have e := placeI_eq (ks := ks) (x := ks[j]) hj (fun i hi => hr i j hi hj) (by rw [bLess_eq]; simp [List.lt_irrefl])
  refine ⟨e, hasK_iff.2 ⟨by omega, ?_⟩⟩
  simp only [e]
theorem hasK_miss {ks : List ByteArray} (hr : RiseK ks) {x : ByteArray} (h : hasK ks x = false) : ∀ k ∈ ks, k ≠ x := by
  rintro k hk rfl
  obtain ⟨j, hj, rfl⟩ := List.mem_iff_getElem.1 hk
  rw [(hasK_at hr hj).2] at h
  cases h

def getV (ks : List ByteArray) (vs : List V) (x : ByteArray) : V := if hasK ks x = true then vs.getD (placeI ks x) nullV else nullV

/-- A bound of a slice of n. -/
inductive Bnd where
  | at (n : Nat)
  | raises
  | silent
def clampN (x : Int) (n : Nat) : Nat := let y := if x < 0 then x + n else x; if y < 0 then 0 else if (n : Int) < y then n else y.toNat
theorem clampN_le (x : Int) (n : Nat) : clampN x n ≤ n := by
  unfold clampN
  simp only
  split <;> (try split) <;> (try split) <;> omega
def bndA (v : V) (n d : Nat) : Bnd := if v.kind = 0 then .at d else if v.kind ≠ 3 then .raises else if v.half.tmod 2 ≠ 0 then .silent else .at (clampN (v.half.tdiv 2) n)

def startT : ByteArray := ⟨#[115, 116, 97, 114, 116]⟩
def endT : ByteArray := ⟨#[101, 110, 100]⟩

/-- The ends of a slice of n. -/
inductive Cut where
  | fine (a b : Nat)
  | raises
  | silent
def boundsA (ks : List ByteArray) (vs : List V) (n : Nat) : Cut :=
  if ks.length ≠ 2 ∨ hasK ks startT = false ∨ hasK ks endT = false then .silent else
  match bndA (getV ks vs startT) n 0 with
  | .raises => .raises
  | .silent => .silent
  | .at a => match bndA (getV ks vs endT) n n with
    | .raises => .raises
    | .silent => .silent
    | .at b => .fine a (if a ≤ b then b else a)
theorem bndA_le {v : V} {n d a : Nat} (hd : d ≤ n) (h : bndA v n d = .at a) : a ≤ n := by
  unfold bndA at h
  split at h
  · cases h; exact hd
  · split at h
    · cases h
    · split at h
      · cases h
      · cases h; exact clampN_le _ _
theorem boundsA_le {ks : List ByteArray} {vs : List V} {n a b : Nat} (h : boundsA ks vs n = .fine a b) : a ≤ b ∧ b ≤ n := by
  unfold boundsA at h
  split at h
  · cases h
  · cases h1 : bndA (getV ks vs startT) n 0 with
    | raises => rw [h1] at h; cases h
    | silent => rw [h1] at h; cases h
    | «at» a' =>
      rw [h1] at h
      have l1 := bndA_le (Nat.zero_le _) h1
      cases h2 : bndA (getV ks vs endT) n n with
      | raises => rw [h2] at h; cases h
      | silent => rw [h2] at h; cases h
      | «at» b' =>
        rw [h2] at h
        have l2 := bndA_le (Nat.le_refl _) h2
        cases h
        split <;> omega

def cutA (v k : V) : Ans :=
  if v.kind = 0 then (match boundsA k.keys k.vals 0 with | .fine _ _ => .fine nullV | _ => .silent)
  else if v.kind = 5 then (match boundsA k.keys k.vals v.list.length with | .fine a b => .fine (.mk 5 0 ⟨#[]⟩ ((v.list.drop a).take (b - a)) [] []) | .raises => .raises | .silent => .silent)
  else if v.kind = 6 then .silent else .raises

def nthA (l : List V) (h : Int) : V := let n := h.tdiv 2; let m := if n < 0 then n + l.length else n; if m < 0 then nullV else l.getD m.toNat nullV

/-- spec.Index, but at slices of strings. -/
def indexA (v k : V) : Ans :=
  if k.kind = 6 then cutA v k
  else if v.kind = 0 ∧ (k.kind = 4 ∨ k.kind = 3) then .fine nullV
  else if v.kind = 6 ∧ k.kind = 4 then .fine (getV v.keys v.vals k.text)
  else if v.kind = 5 ∧ k.kind = 3 then (if k.half.tmod 2 ≠ 0 then .silent else .fine (nthA v.list k.half))
  else if (v.kind = 4 ∧ k.kind = 3) ∨ (v.kind = 5 ∧ k.kind = 5) ∨ v.kind = 0 then .silent
  else .raises

/-- A step of spec.GetPath. -/
def stepA (v k : V) : Ans :=
  if v.kind = 0 ∧ (k.kind = 4 ∨ k.kind = 3) then .fine v else if v.kind = 4 ∧ k.kind = 6 then .silent else indexA v k

def pathA : V → List V → Ans
  | v, [] => .fine v
  | v, k :: p => match stepA v k with
    | .fine x => pathA x p
    | .raises => .raises
    | .silent => .silent
theorem pathA_snoc : ∀ (p : List V) (v k : V), pathA v (p ++ [k]) = match pathA v p with
    | .fine x => stepA x k
    | .raises => .raises
    | .silent => .silent
  | [], v, k => by
    simp only [List.nil_append, pathA]
    cases stepA v k <;> rfl
  | a :: p, v, k => by
    simp only [List.cons_append, pathA]
    cases h : stepA v a with
    | fine x => exact pathA_snoc p x k
    | raises => rfl
    | silent => rfl
/-- What ends a path ends every longer one. -/
theorem pathA_stop {p q : List V} {v : V} (h : ∀ x, pathA v p ≠ .fine x) : pathA v (p ++ q) = pathA v p := by
  induction q generalizing p with
  | nil => rw [List.append_nil]
  | cons k q ih =>
    have e : p ++ k :: q = (p ++ [k]) ++ q := by simp
    have s := pathA_snoc p v k
    cases hp : pathA v p with
    | fine x => exact absurd hp (h x)
    | raises =>
      rw [hp] at s
      rw [e, ih (fun x => by rw [s]; simp), s]
    | silent =>
      rw [hp] at s
      rw [e, ih (fun x => by rw [s]; simp), s]

theorem good_null : Good nullV := by
  refine .mk ?_ ?_ rfl (fun i hi => by simp at hi) (fun i hi => by simp at hi) (fun i hi => by simp at hi) (fun i hi => by simp at hi)
  · simp [shapeB, Lib.toList_data]
  · simp [halfB]
theorem good_row {l : List V} (h : ∀ x ∈ l, Good x) : Good (.mk 5 0 ⟨#[]⟩ l [] []) := by
  refine .mk ?_ ?_ rfl (fun i hi => h _ (List.getElem_mem hi)) (fun i hi => by simp at hi) (fun i hi => by simp at hi) (fun i hi => by simp at hi)
  · simp [shapeB, Lib.toList_data]
  · simp [halfB]

/-- What holds of null, of a value's own elements and of rows of them holds of what stands at a key. -/
theorem indexA_own {P : V → Prop} (h0 : P nullV) {v k x : V} (hl : ∀ y ∈ v.list, P y) (hv : ∀ y ∈ v.vals, P y) (hrow : ∀ a n, P (.mk 5 0 ⟨#[]⟩ ((v.list.drop a).take n) [] [])) (h : indexA v k = .fine x) : P x := by
  have hg : ∀ (l : List V) (n : Nat), (∀ y ∈ l, P y) → P (l.getD n nullV) := fun l n hl => by
    rw [List.getD_eq_getElem?_getD]
    cases hn : l[n]? with
    | none => exact h0
    | some y => exact hl y (List.mem_of_getElem? hn)
  unfold indexA at h
  split at h
  · unfold cutA at h
    split at h
    · split at h <;> cases h
      exact h0
    · split at h
      · split at h <;> cases h
        exact hrow _ _
      · split at h <;> cases h
  · split at h
    · cases h; exact h0
    · split at h
      · cases h
        unfold getV
        split
        · exact hg _ _ hv
        · exact h0
      · split at h
        · split at h
          · cases h
          · cases h
            unfold nthA
            simp only
            generalize (if k.half.tdiv 2 < 0 then k.half.tdiv 2 + (v.list.length : Int) else k.half.tdiv 2) = m
            split
            · exact h0
            · exact hg _ _ hl
        · split at h <;> cases h
theorem stepA_own {P : V → Prop} (h0 : P nullV) {v k x : V} (hx : P v) (hl : ∀ y ∈ v.list, P y) (hv : ∀ y ∈ v.vals, P y) (hrow : ∀ a n, P (.mk 5 0 ⟨#[]⟩ ((v.list.drop a).take n) [] [])) (h : stepA v k = .fine x) : P x := by
  unfold stepA at h
  split at h
  · cases h; exact hx
  · split at h
    · cases h
    · exact indexA_own h0 hl hv hrow h

theorem stepA_good {v k x : V} (g : Good v) (h : stepA v k = .fine x) : Good x := by
  obtain ⟨kd, hf, t, l, ks, vs⟩ := v
  obtain ⟨_, _, _, list, _, _, vals⟩ := g.all
  refine stepA_own (P := Good) good_null g (fun y hy => ?_) (fun y hy => ?_) (fun a n => good_row fun y hy => ?_) h
  · obtain ⟨i, hi, rfl⟩ := List.mem_iff_getElem.1 hy
    exact list i hi
  · obtain ⟨i, hi, rfl⟩ := List.mem_iff_getElem.1 hy
    exact vals i hi
  · obtain ⟨i, hi, rfl⟩ := List.mem_iff_getElem.1 (List.mem_of_mem_drop (List.mem_of_mem_take hy))
    exact list i hi
theorem pathA_good : ∀ {p : List V} {v x : V}, Good v → pathA v p = .fine x → Good x
  | [], v, x, g, h => by cases h; exact g
  | k :: p, v, x, g, h => by
    simp only [pathA] at h
    cases hs : stepA v k with
    | fine y => rw [hs] at h; exact pathA_good (stepA_good g hs) h
    | raises => rw [hs] at h; cases h
    | silent => rw [hs] at h; cases h

end Go.Proofs.YtpoibibbkjogpaaGreatDoor

namespace Go.Proofs.YtpoibibbkjogpaaGreatDoor
open Go Go.RowKit

mutual
theorem look_good : ∀ (v : V) (deep : Int) (s : Lk), (lookV v deep s).bad = false → Good v ∧ s.bad = false
  | .mk k h t l ks vs, deep, s, hb => by
    unfold lookV at hb
    split at hb
    · rename_i e
      rw [e] at hb
      cases hb
    · obtain ⟨hm, hv, hr, hk⟩ := look_goodM none ks vs deep _ hb
      obtain ⟨hl, hs⟩ := look_goodL l deep _ hm
      obtain ⟨hs, _, hval⟩ := Lk.str_bad hs
      obtain ⟨hs, hhalf⟩ := (Lk.want_bad _ _).1 hs
      obtain ⟨hs, hshape⟩ := (Lk.want_bad _ _).1 hs
      have hlen : ks.length = vs.length := by
        simp only [shapeB, Bool.and_eq_true, beq_iff_eq] at hshape
        exact hshape.2
      exact ⟨.mk hshape hhalf hval hl (fun i hi => (hr hlen).2 i hi) (fun i hi => hk hlen i hi) (fun i hi => hv hlen i hi), (Lk.part_bad hs).1⟩
theorem look_goodL : ∀ (l : List V) (deep : Int) (s : Lk), (lookL l deep s).bad = false → (∀ i (hi : i < l.length), Good l[i]) ∧ s.bad = false
  | [], _, s, hb => ⟨fun i hi => absurd hi (by simp), by unfold lookL at hb; exact hb⟩
  | v :: r, deep, s, hb => by
    unfold lookL at hb
    split at hb
    · rename_i e
      rw [e] at hb
      cases hb
    · rename_i e
      obtain ⟨hr, hs⟩ := look_goodL r deep _ hb
      obtain ⟨hv, _⟩ := look_good v _ _ hs
      refine ⟨fun i hi => ?_, by simpa using e⟩
      cases i with
      | zero => exact hv
      | succ j => exact hr j (by simpa using hi)
theorem look_goodM : ∀ (p : Option ByteArray) (ks : List ByteArray) (vs : List V) (deep : Int) (s : Lk), (lookM p ks vs deep s).bad = false →
    s.bad = false ∧ (ks.length = vs.length → ∀ i (hi : i < vs.length), Good vs[i]) ∧
    (ks.length = vs.length → (∀ (h0 : 0 < ks.length), riseB p ks[0] = true) ∧ ∀ i (hi : i + 1 < ks.length), Op.bytesLess ks[i].toList ks[i + 1].toList = true) ∧
    (ks.length = vs.length → ∀ i (hi : i < ks.length), Lib.validD ks[i].data.toList = true)
  | p, [], vs, deep, s, hb => by
    unfold lookM at hb
    refine ⟨hb, fun e i hi => ?_, fun e => ⟨fun h0 => absurd h0 (by simp), fun i hi => absurd hi (by simp)⟩, fun e i hi => absurd hi (by simp)⟩
    simp at e
    omega
  | p, k :: ks, [], deep, s, hb => by
    unfold lookM at hb
    exact ⟨hb, fun e => by simp at e, fun e => by simp at e, fun e => by simp at e⟩
  | p, k :: ks, v :: vs, deep, s, hb => by
    unfold lookM at hb
    split at hb
    · rename_i e
      rw [e] at hb
      cases hb
    · rename_i e
      obtain ⟨hm, hv, hr, hk⟩ := look_goodM (some k) ks vs deep _ hb
      obtain ⟨gv, hs⟩ := look_good v _ _ hm
      obtain ⟨hs, hrise⟩ := (Lk.want_bad _ _).1 hs
      obtain ⟨_, _, hval⟩ := Lk.str_bad hs
      refine ⟨by simpa using e, fun e i hi => ?_, fun e => ⟨fun _ => hrise, fun i hi => ?_⟩, fun e i hi => ?_⟩
      · have e' : ks.length = vs.length := by simpa using e
        cases i with
        | zero => exact gv
        | succ j => exact hv e' j (by simpa using hi)
      · have e' : ks.length = vs.length := by simpa using e
        cases i with
        | zero => exact (hr e').1 (by simpa using hi)
        | succ j => exact (hr e').2 j (by simpa using hi)
      · have e' : ks.length = vs.length := by simpa using e
        cases i with
        | zero => exact hval
        | succ j => exact hk e' j (by simpa using hi)
end

theorem fit_good {v : V} (h : fitB v = true) : Good v :=
  (look_good v 0 _ (by simpa [fitB] using h)).1

end Go.Proofs.YtpoibibbkjogpaaGreatDoor

namespace Go.Proofs.YtpoibibbkjogpaaGreatDoor
open Go Go.RowKit

def numV (n : Int) : V := .mk 3 (2 * n) ⟨#[]⟩ [] [] []
def strV (s : ByteArray) : V := .mk 4 0 s [] [] []

mutual
/-- The places at and in a value that stands at p. -/
def spotsV : List V → V → List (List V × V)
  | p, .mk k h t l ks vs => (p, .mk k h t l ks vs) :: (spotsL p 0 l ++ spotsM p ks vs)
def spotsL : List V → Nat → List V → List (List V × V)
  | _, _, [] => []
  | p, i, v :: r => spotsV (p ++ [numV i]) v ++ spotsL p (i + 1) r
def spotsM : List V → List ByteArray → List V → List (List V × V)
  | p, k :: ks, v :: vs => spotsV (p ++ [strV k]) v ++ spotsM p ks vs
  | _, _, _ => []
end

mutual
/-- How many they are. -/
def sizeV : V → Nat
  | .mk _ _ _ l _ vs => 1 + sizeL l + sizeL vs
def sizeL : List V → Nat
  | [] => 0
  | v :: r => sizeV v + sizeL r
end

theorem sizeL_cons (v : V) (r : List V) : sizeL (v :: r) = sizeV v + sizeL r := by rw [sizeL]
theorem sizeV_pos (v : V) : 1 ≤ sizeV v := by
  obtain ⟨k, h, t, l, ks, vs⟩ := v
  unfold sizeV
  omega
theorem sizeL_get : ∀ {l : List V} {i : Nat} (hi : i < l.length), sizeV l[i] ≤ sizeL l
  | v :: r, 0, _ => by unfold sizeL; simp
  | v :: r, i + 1, hi => by
    have := sizeL_get (l := r) (i := i) (by simpa using hi)
    unfold sizeL
    simp only [List.getElem_cons_succ]
    omega
theorem sizeL_len : ∀ (l : List V), l.length ≤ sizeL l
  | [] => by simp
  | v :: r => by
    have := sizeL_len r
    have := sizeV_pos v
    unfold sizeL
    simp only [List.length_cons]
    omega

mutual
theorem spotsV_len : ∀ (p : List V) (v : V), (spotsV p v).length ≤ sizeV v
  | p, .mk k h t l ks vs => by
    have h1 := spotsL_len p 0 l
    have h2 := spotsM_len p ks vs
    unfold spotsV sizeV
    simp only [List.length_cons, List.length_append]
    omega
theorem spotsL_len : ∀ (p : List V) (i : Nat) (l : List V), (spotsL p i l).length ≤ sizeL l
  | _, _, [] => by unfold spotsL; simp
  | p, i, v :: r => by
    have h1 := spotsV_len (p ++ [numV i]) v
    have h2 := spotsL_len p (i + 1) r
    unfold spotsL sizeL
    simp only [List.length_append]
    omega
theorem spotsM_len : ∀ (p : List V) (ks : List ByteArray) (vs : List V), (spotsM p ks vs).length ≤ sizeL vs
  | _, [], [] => by unfold spotsM; simp
  | _, [], _ :: _ => by unfold spotsM; simp
  | _, _ :: _, [] => by unfold spotsM; simp
  | p, k :: ks, v :: vs => by
    have h1 := spotsV_len (p ++ [strV k]) v
    have h2 := spotsM_len p ks vs
    unfold spotsM sizeL
    simp only [List.length_append]
    omega
end

/-- A place of v: what stands there is y. -/
inductive WayTo : V → List V → V → Prop
  | here (v : V) : WayTo v [] v
  | elem {k h : Int} {t : ByteArray} {l : List V} {ks : List ByteArray} {vs : List V} {p : List V} {y : V} (i : Nat) (hi : i < l.length) (hw : WayTo l[i] p y) : WayTo (.mk k h t l ks vs) (numV i :: p) y
  | key {k h : Int} {t : ByteArray} {l : List V} {ks : List ByteArray} {vs : List V} {p : List V} {y : V} (i : Nat) (hk : i < ks.length) (hi : i < vs.length) (hw : WayTo vs[i] p y) : WayTo (.mk k h t l ks vs) (strV ks[i] :: p) y

mutual
theorem spotsV_way : ∀ (p : List V) (v : V) (q : List V) (y : V), (q, y) ∈ spotsV p v → ∃ r, q = p ++ r ∧ WayTo v r y
  | p, .mk k h t l ks vs, q, y, hm => by
    unfold spotsV at hm
    simp only [List.mem_cons, List.mem_append, Prod.mk.injEq] at hm
    rcases hm with ⟨rfl, rfl⟩ | hm | hm
    · exact ⟨[], by simp, .here _⟩
    · obtain ⟨i, hi, r, rfl, hw⟩ := spotsL_way p 0 l q y hm
      exact ⟨numV i :: r, by simp, .elem i hi hw⟩
    · obtain ⟨i, hk, hi, r, rfl, hw⟩ := spotsM_way p ks vs q y hm
      exact ⟨strV ks[i] :: r, by simp, .key i hk hi hw⟩
termination_by structural _ v => v
theorem spotsL_way : ∀ (p : List V) (n : Nat) (l : List V) (q : List V) (y : V), (q, y) ∈ spotsL p n l → ∃ i, ∃ hi : i < l.length, ∃ r, q = p ++ (numV ((n + i : Nat) : Int) :: r) ∧ WayTo l[i] r y
  | _, _, [], q, y, hm => by unfold spotsL at hm; cases hm
  | p, n, v :: l, q, y, hm => by
    unfold spotsL at hm
    rcases List.mem_append.1 hm with hm | hm
    · obtain ⟨r, rfl, hw⟩ := spotsV_way (p ++ [numV n]) v q y hm
      exact ⟨0, by simp, r, by simp, hw⟩
    · obtain ⟨i, hi, r, rfl, hw⟩ := spotsL_way p (n + 1) l q y hm
      exact ⟨i + 1, by simpa using hi, r, by rw [show n + 1 + i = n + (i + 1) by omega], hw⟩
termination_by structural _ _ l => l
theorem spotsM_way : ∀ (p : List V) (ks : List ByteArray) (vs : List V) (q : List V) (y : V), (q, y) ∈ spotsM p ks vs → ∃ i, ∃ hk : i < ks.length, ∃ hi : i < vs.length, ∃ r, q = p ++ (strV ks[i] :: r) ∧ WayTo vs[i] r y
  | _, [], [], q, y, hm => by unfold spotsM at hm; cases hm
  | _, [], _ :: _, q, y, hm => by unfold spotsM at hm; cases hm
  | _, _ :: _, [], q, y, hm => by unfold spotsM at hm; cases hm
  | p, k :: ks, v :: vs, q, y, hm => by
    unfold spotsM at hm
    rcases List.mem_append.1 hm with hm | hm
    · obtain ⟨r, rfl, hw⟩ := spotsV_way (p ++ [strV k]) v q y hm
      exact ⟨0, by simp, by simp, r, by simp, hw⟩
    · obtain ⟨i, hk, hi, r, rfl, hw⟩ := spotsM_way p ks vs q y hm
      exact ⟨i + 1, by simpa using hk, by simpa using hi, r, by simp, hw⟩
termination_by structural _ _ vs => vs
end

/-- Each path is shorter than the value is large. -/
theorem WayTo.short {v : V} {p : List V} {y : V} (h : WayTo v p y) : p.length + sizeV y ≤ sizeV v := by
  induction h with
  | here v => simp
  | elem i hi hw ih =>
    have := sizeL_get hi
    simp only [List.length_cons]
    rw [sizeV.eq_def (.mk ..)]
    simp only
    omega
  | key i hk hi hw ih =>
    have := sizeL_get hi
    simp only [List.length_cons]
    rw [sizeV.eq_def (.mk ..)]
    simp only
    omega

theorem Lk.part_parts {s : Lk} {deep : Int} (h0 : 0 ≤ s.parts) (h4 : s.parts ≤ 400) : (s.part deep).parts = s.parts + 1 := by
  show wrap64 (s.parts + 1) = _
  unfold wrap64
  omega

mutual
theorem look_parts : ∀ (v : V) (deep : Int) (s : Lk), 0 ≤ s.parts → s.parts ≤ 400 → (lookV v deep s).bad = false → (lookV v deep s).parts = s.parts + sizeV v ∧ (lookV v deep s).parts ≤ 400
  | .mk k h t l ks vs, deep, s, h0, h4, hb => by
    unfold lookV at hb ⊢
    split at hb
    · rename_i e
      rw [e] at hb
      cases hb
    · rename_i e
      rw [if_neg e]
      have e' : (s.part deep).bad = false := by simpa using e
      have hp := Lk.part_parts (deep := deep) h0 h4
      have hle := (Lk.part_bad e').2.1
      have hle2 : (s.part deep).parts ≤ 400 := hle
      obtain ⟨hm, _⟩ := look_goodM none ks vs deep _ hb
      obtain ⟨_, hs⟩ := look_goodL l deep _ hm
      have hs0 := hs
      obtain ⟨hs, _, _⟩ := Lk.str_bad hs
      obtain ⟨hs, _⟩ := (Lk.want_bad _ _).1 hs
      obtain ⟨hs, hshape⟩ := (Lk.want_bad _ _).1 hs
      have hlen : ks.length = vs.length := by
        simp only [shapeB, Bool.and_eq_true, beq_iff_eq] at hshape
        exact hshape.2
      have L := look_partsL l deep ((((s.part deep).want (shapeB k h t l.length ks.length vs.length)).want (halfB h)).str t) (by show 0 ≤ (s.part deep).parts; omega) hle2 hm
      have M := look_partsM none ks vs deep _ hlen (by rw [L.1]; show 0 ≤ (s.part deep).parts + _; omega) L.2 hb
      refine ⟨?_, M.2⟩
      rw [M.1, L.1]
      unfold sizeV
      show (s.part deep).parts + (sizeL l : Int) + (sizeL vs : Int) = _
      omega
termination_by structural v => v
theorem look_partsL : ∀ (l : List V) (deep : Int) (s : Lk), 0 ≤ s.parts → s.parts ≤ 400 → (lookL l deep s).bad = false → (lookL l deep s).parts = s.parts + sizeL l ∧ (lookL l deep s).parts ≤ 400
  | [], _, s, h0, h4, hb => by
    unfold lookL sizeL
    exact ⟨by simp, h4⟩
  | v :: r, deep, s, h0, h4, hb => by
    unfold lookL at hb ⊢
    split at hb
    · rename_i e
      rw [e] at hb
      cases hb
    · rename_i e
      rw [if_neg e]
      obtain ⟨_, hs⟩ := look_goodL r deep _ hb
      have A := look_parts v (wrap64 (deep + 1)) s h0 h4 hs
      have B := look_partsL r deep _ (by rw [A.1]; omega) A.2 hb
      refine ⟨?_, B.2⟩
      rw [B.1, A.1]
      rw [sizeL_cons]
      omega
termination_by structural l => l
theorem look_partsM : ∀ (p : Option ByteArray) (ks : List ByteArray) (vs : List V) (deep : Int) (s : Lk), ks.length = vs.length → 0 ≤ s.parts → s.parts ≤ 400 → (lookM p ks vs deep s).bad = false →
    (lookM p ks vs deep s).parts = s.parts + sizeL vs ∧ (lookM p ks vs deep s).parts ≤ 400
  | p, [], [], deep, s, hl, h0, h4, hb => by
    unfold lookM sizeL
    exact ⟨by simp, h4⟩
  | p, [], _ :: _, deep, s, hl, h0, h4, hb => by simp at hl
  | p, _ :: _, [], deep, s, hl, h0, h4, hb => by simp at hl
  | p, k :: ks, v :: vs, deep, s, hl, h0, h4, hb => by
    unfold lookM at hb ⊢
    split at hb
    · rename_i e
      rw [e] at hb
      cases hb
    · rename_i e
      rw [if_neg e]
      obtain ⟨hs, _⟩ := look_goodM (some k) ks vs deep _ hb
      have A := look_parts v (wrap64 (deep + 1)) ((s.str k).want (riseB p k)) h0 h4 hs
      have B := look_partsM (some k) ks vs deep _ (by simpa using hl) (by rw [A.1]; show 0 ≤ s.parts + _; omega) A.2 hb
      refine ⟨?_, B.2⟩
      rw [B.1, A.1]
      rw [sizeL_cons]
      show s.parts + _ + _ = _
      omega
termination_by structural _ _ vs => vs
end

theorem fit_size {v : V} (h : fitB v = true) : sizeV v ≤ 400 := by
  have := look_parts v 0 ⟨0, 0, false⟩ (by decide) (by decide) (by simpa [fitB] using h)
  have e : (0 : Int) + sizeV v ≤ 400 := by rw [← this.1]; exact this.2
  omega

def keysOf (l : List V) (ks : List ByteArray) : List V := (List.range l.length).map (fun (i : Nat) => numV (i : Int)) ++ ks.map strV
/-- What the elements of an array, or the values of an object, are. -/
def chV (v : V) : List V := if v.kind = 5 then v.list else if v.kind = 6 then v.vals else []
/-- The places right below one. -/
def kidsV (p : List V) (v : V) : List (List V × V) := ((keysOf v.list v.keys).zip (chV v)).map fun q => (p ++ [q.1], q.2)

theorem Good.kinds {k h : Int} {t : ByteArray} {l : List V} {ks : List ByteArray} {vs : List V} (g : Good (.mk k h t l ks vs)) : (k = 5 ∨ l = []) ∧ (k = 6 ∨ ks = []) ∧ ks.length = vs.length := by
  cases g with
  | mk shape half valid list rise vkeys vals =>
    simp only [shapeB, Bool.and_eq_true, Bool.or_eq_true, decide_eq_true_eq, beq_iff_eq] at shape
    refine ⟨?_, ?_, shape.2⟩
    · rcases shape.1.1.2 with h | h
      · exact .inl h
      · exact .inr (List.length_eq_zero_iff.1 h)
    · rcases shape.1.2 with h | h
      · exact .inl h
      · exact .inr (List.length_eq_zero_iff.1 h)

theorem chV_list {k h : Int} {t : ByteArray} {l : List V} {ks : List ByteArray} {vs : List V} (e : k = 5) : chV (.mk k h t l ks vs) = l := by
  unfold chV; exact if_pos e
theorem chV_vals {k h : Int} {t : ByteArray} {l : List V} {ks : List ByteArray} {vs : List V} (e : k = 6) : chV (.mk k h t l ks vs) = vs := by
  exact (if_neg (show ¬ k = 5 by omega)).trans (if_pos e)
theorem chV_nil {k h : Int} {t : ByteArray} {l : List V} {ks : List ByteArray} {vs : List V} (e : k ≠ 5) (e' : k ≠ 6) : chV (.mk k h t l ks vs) = [] := by
  exact (if_neg (show ¬ k = 5 from e)).trans (if_neg e')

theorem keys_len {v : V} (g : Good v) : (keysOf v.list v.keys).length = (chV v).length := by
  obtain ⟨k, h, t, l, ks, vs⟩ := v
  obtain ⟨h5, h6, hl⟩ := g.kinds
  show (keysOf l ks).length = _
  unfold keysOf
  rw [List.length_append, List.length_map, List.length_range, List.length_map]
  by_cases c5 : k = 5
  · rw [chV_list c5]
    rcases h6 with c6 | rfl
    · omega
    · simp
  · obtain rfl := h5.resolve_left c5
    by_cases c6 : k = 6
    · rw [chV_vals c6]; simpa using hl
    · rw [chV_nil c5 c6]
      obtain rfl := h6.resolve_left c6
      simp

theorem spotsL_kids : ∀ (p : List V) (n : Nat) (l : List V), spotsL p n l = (((List.range l.length).map (fun (i : Nat) => numV ((n + i : Nat) : Int))).zip l).flatMap fun q => spotsV (p ++ [q.1]) q.2
  | _, _, [] => by unfold spotsL; simp
  | p, n, v :: l => by
    unfold spotsL
    rw [spotsL_kids p (n + 1) l, List.length_cons, List.range_succ_eq_map]
    simp only [List.map_cons, List.zip_cons_cons, List.flatMap_cons, List.map_map, Nat.add_zero]
    congr 3
    apply List.map_congr_left
    intro i _
    simp only [Function.comp]
    rw [show n + 1 + i = n + (i + 1) by omega]
theorem spotsM_kids : ∀ (p : List V) (ks : List ByteArray) (vs : List V), spotsM p ks vs = ((ks.map strV).zip vs).flatMap fun q => spotsV (p ++ [q.1]) q.2
  | _, [], [] => by unfold spotsM; simp
  | _, [], _ :: _ => by unfold spotsM; simp
  | _, _ :: _, [] => by unfold spotsM; simp
  | p, k :: ks, v :: vs => by
    unfold spotsM
    rw [spotsM_kids p ks vs]
    simp
theorem spotsV_kids {v : V} (g : Good v) (p : List V) : spotsV p v = (p, v) :: (kidsV p v).flatMap fun q => spotsV q.1 q.2 := by
  obtain ⟨k, h, t, l, ks, vs⟩ := v
  obtain ⟨h5, h6, hl⟩ := g.kinds
  rw [spotsV, spotsL_kids, spotsM_kids]
  show _ = (p, V.mk k h t l ks vs) :: (((keysOf l ks).zip (chV (.mk k h t l ks vs))).map fun q => (p ++ [q.1], q.2)).flatMap fun q => spotsV q.1 q.2
  congr 1
  unfold keysOf
  by_cases c5 : k = 5
  · rw [chV_list c5]
    obtain rfl : ks = [] := h6.resolve_left (by omega)
    obtain rfl : vs = [] := List.length_eq_zero_iff.1 (by simpa using hl.symm)
    simp [List.flatMap_map]
  · obtain rfl := h5.resolve_left c5
    by_cases c6 : k = 6
    · rw [chV_vals c6]
      simp [List.flatMap_map]
    · rw [chV_nil c5 c6]
      obtain rfl := h6.resolve_left c6
      obtain rfl : vs = [] := List.length_eq_zero_iff.1 (by simpa using hl.symm)
      simp

end Go.Proofs.YtpoibibbkjogpaaGreatDoor
