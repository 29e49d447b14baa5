/- The plain side: impl.Value as a tree (V), a Go value of type any as a tree (J), and what spec.Fit reckons. No program in sight. -/
import Derived.RowKit
import Derived.Lib.ValidU
import GoSem.Core.Float
namespace Go.Proofs.YtmcahfcihhddjaaGreatDoor
open Go Go.RowKit

/-- impl.Value, as a tree. -/
inductive V where
  | mk (kind half : Int) (text : ByteArray) (list : List V) (keys : List ByteArray) (vals : List V)

def V.kind : V → Int | .mk k _ _ _ _ _ => k
def V.half : V → Int | .mk _ h _ _ _ _ => h
def V.text : V → ByteArray | .mk _ _ t _ _ _ => t
def V.list : V → List V | .mk _ _ _ l _ _ => l
def V.keys : V → List ByteArray | .mk _ _ _ _ k _ => k
def V.vals : V → List V | .mk _ _ _ _ _ v => v

/-- A Go value of type any, as a tree ('hole': struct{}{}). -/
inductive J where
  | null
  | bool (b : Bool)
  | int (n : Int)
  | flt (bits : Nat)
  | str (s : ByteArray)
  | arr (l : List J)
  | obj (m : List (ByteArray × J))
  | hole

/-- The state of a looker (spec/valid.go). -/
structure Lk where
  parts : Int
  bytes : Int
  bad : Bool

def Lk.want (s : Lk) (ok : Bool) : Lk := { s with bad := s.bad || !ok }
def Lk.part (s : Lk) (deep : Int) : Lk :=
  { s with parts := wrap64 (s.parts + 1), bad := s.bad || !(decide (wrap64 (s.parts + 1) ≤ 400) && decide (s.bytes ≤ 2000) && decide (deep ≤ 60)) }
def Lk.str (s : Lk) (b : ByteArray) : Lk :=
  { s with bytes := wrap64 (s.bytes + b.size), bad := s.bad || !(decide (wrap64 (s.bytes + b.size) ≤ 2000) && Lib.validD b.data.toList) }

/-- The two tests of a value by itself. -/
def shapeB (k h : Int) (t : ByteArray) (nl nk nv : Nat) : Bool :=
  decide (0 ≤ k) && decide (k ≤ 6) && (k == 3 || h == 0) && (k == 4 || t.toList == []) && (k == 5 || nl == 0) && (k == 6 || nk == 0) && nk == nv
def halfB (h : Int) : Bool :=
  decide (-18014398509481984 ≤ h) && decide (h ≤ 18014398509481984) && (h.tmod 2 == 0 || decide (-9007199254740992 < h) && decide (h < 9007199254740992))

def riseB (prev : Option ByteArray) (k : ByteArray) : Bool := match prev with
  | none => true
  | some p => Op.bytesLess p.toList k.toList

mutual
def lookV : V → Int → Lk → Lk
  | .mk k h t l ks vs, deep, s =>
    if (s.part deep).bad then s.part deep else
      lookM none ks vs deep (lookL l deep ((((s.part deep).want (shapeB k h t l.length ks.length vs.length)).want (halfB h)).str t))
def lookL : List V → Int → Lk → Lk
  | [], _, s => s
  | v :: r, deep, s => if s.bad then s else lookL r deep (lookV v (wrap64 (deep + 1)) s)
def lookM : Option ByteArray → List ByteArray → List V → Int → Lk → Lk
  | _, [], _, _, s => s
  | _, _ :: _, [], _, s => s
  | p, k :: ks, v :: vs, deep, s => if s.bad then s else lookM (some k) ks vs deep (lookV v (wrap64 (deep + 1)) ((s.str k).want (riseB p k)))
end

def fitB (v : V) : Bool := !(lookV v 0 ⟨0, 0, false⟩).bad

theorem Lk.want_bad (s : Lk) (ok : Bool) : (s.want ok).bad = false ↔ s.bad = false ∧ ok = true := by
  cases h : s.bad <;> cases ok <;> simp [Lk.want, h]
theorem Lk.part_bad {s : Lk} {deep : Int} (h : (s.part deep).bad = false) : s.bad = false ∧ wrap64 (s.parts + 1) ≤ 400 ∧ s.bytes ≤ 2000 ∧ deep ≤ 60 := by
  simp [Lk.part] at h
  exact ⟨h.1, by omega, by omega, by omega⟩
theorem Lk.str_bad {s : Lk} {b : ByteArray} (h : (s.str b).bad = false) : s.bad = false ∧ wrap64 (s.bytes + b.size) ≤ 2000 ∧ Lib.validD b.data.toList = true := by
  simp [Lk.str] at h
  exact ⟨h.1, by omega, h.2.2⟩

/-- What makes a value one of JSON. -/
def Rising (ks : List ByteArray) : Prop := ks.Pairwise fun a b => Op.bytesLess a.toList b.toList = true

inductive Good : V → Prop
  | mk {k h : Int} {t : ByteArray} {l : List V} {ks : List ByteArray} {vs : List V}
    (shape : shapeB k h t l.length ks.length vs.length = true) (half : halfB h = true) (valid : Lib.validD t.data.toList = true)
    (list : ∀ i (hi : i < l.length), Good l[i]) (rise : ∀ i (hi : i + 1 < ks.length), Op.bytesLess ks[i].toList ks[i + 1].toList = true)
    (vkeys : ∀ i (hi : i < ks.length), Lib.validD ks[i].data.toList = true) (vals : ∀ i (hi : i < vs.length), Good vs[i]) : Good (.mk k h t l ks vs)

/-- The float of an odd Half, as impl.toGo reckons it. -/
def halfBits (h : Int) : Nat := (FloatKind.f64.format.div (FloatKind.f64.nearest h) 4611686018427387904).getD 0

mutual
def toJ : V → J
  | .mk k h t l ks vs =>
    if k = 0 then .null else if k = 1 then .bool false else if k = 2 then .bool true
    else if k = 3 then (if h.tmod 2 = 0 then .int (h.tdiv 2) else .flt (halfBits h))
    else if k = 4 then .str t else if k = 5 then .arr (toJL l) else .obj (toJM ks vs)
def toJL : List V → List J
  | [] => []
  | v :: r => toJ v :: toJL r
def toJM : List ByteArray → List V → List (ByteArray × J)
  | k :: ks, v :: vs => (k, toJ v) :: toJM ks vs
  | _, _ => []
end

theorem toJL_eq : ∀ l : List V, toJL l = l.map toJ
  | [] => by simp [toJL]
  | v :: r => by simp [toJL, toJL_eq r]
theorem toJM_eq : ∀ (ks : List ByteArray) (vs : List V), toJM ks vs = ks.zip (vs.map toJ)
  | [], _ => by simp [toJM]
  | _ :: _, [] => by simp [toJM]
  | k :: ks, v :: vs => by simp [toJM, toJM_eq ks vs]

end Go.Proofs.YtmcahfcihhddjaaGreatDoor
