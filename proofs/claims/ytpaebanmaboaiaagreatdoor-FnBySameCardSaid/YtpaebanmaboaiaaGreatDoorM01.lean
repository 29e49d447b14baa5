/- The plain side: impl.Value as a tree (V), a Go value of type any as a tree (J), and what spec.Fit reckons. No program in sight. -/
/- Plain: what sort.SliceStable makes of a row, as a function: the same swaps in the same order. No program in sight. -/
/- How the program's values read: impl.Value as a tree (V), a Go value of type any as a tree (J). No function is walked here. -/
/- Small facts on worlds. No program in sight. -/
/- How a Go value of type any reads as a tree (J). No function is walked here. -/
/- What the walks of package sort's functions over 'less' and 'swap' share; contract of insertionSort_func. -/
/- Plain: the steps of the functions of Stab, one by one. No program in sight. -/
import Derived.RowKit
import Derived.Lib.ValidU
import GoSem.Core.Float
import Derived.WalkKit
import Derived.Maps.OwnSet
import Derived.Maps.RangeWalk
import Derived.Maps.AppendAt
import Derived.Lib.Hide
import Derived.Test.YtpaebanmaboaiaaGreatDoorProg
import Derived.Laws.Rows
import Derived.Laws.ResultCell
import Derived.Deep.OwnRows
import Derived.Deep.QuietTactic
import Derived.WalkLawsBesides
namespace Go.Proofs.YtpaebanmaboaiaaGreatDoor
open Go Go.RowKit
/-- impl.Value, as a tree. -/
inductive V where
  | mk (kind half : Int) (text : ByteArray) (list : List V) (keys : List ByteArray) (vals : List V)
def V.kind : V → Int | .mk k _ _ _ _ _ => k
def V.half : V → Int | .mk _ h _ _ _ _ => h
def V.text : V → ByteArray | .mk _ _ t _ _ _ => t
def V.list : V → List V | .mk _ _ _ l _ _ => l
def V.keys : V → List ByteArray | .mk _ _ _ _ k _ => k
def V.vals : V → List V | .mk _ _ _ _ _ v => v
/-- A Go value of type any, as a tree ('hole': struct{}{}). -/
inductive J where
  | null
  | bool (b : Bool)
  | int (n : Int)
  | flt (bits : Nat)
  | str (s : ByteArray)
  | arr (l : List J)
  | obj (m : List (ByteArray × J))
  | hole
/-- The state of a looker (spec/valid.go). -/
structure Lk where
  parts : Int
  bytes : Int
  bad : Bool
def Lk.want (s : Lk) (ok : Bool) : Lk := { s with bad := s.bad || !ok }
def Lk.part (s : Lk) (deep : Int) : Lk :=
  { s with parts := wrap64 (s.parts + 1), bad := s.bad || !(decide (wrap64 (s.parts + 1) ≤ 400) && decide (s.bytes ≤ 2000) && decide (deep ≤ 60)) }
def Lk.str (s : Lk) (b : ByteArray) : Lk :=
  { s with bytes := wrap64 (s.bytes + b.size), bad := s.bad || !(decide (wrap64 (s.bytes + b.size) ≤ 2000) && Lib.validD b.data.toList) }
/-- The two tests of a value by itself. -/
def shapeB (k h : Int) (t : ByteArray) (nl nk nv : Nat) : Bool :=
  decide (0 ≤ k) && decide (k ≤ 6) && (k == 3 || h == 0) && (k == 4 || t.toList == []) && (k == 5 || nl == 0) && (k == 6 || nk == 0) && nk == nv
def halfB (h : Int) : Bool :=
  decide (-18014398509481984 ≤ h) && decide (h ≤ 18014398509481984) && (h.tmod 2 == 0 || decide (-9007199254740992 < h) && decide (h < 9007199254740992))
def riseB (prev : Option ByteArray) (k : ByteArray) : Bool := match prev with
  | none => true
  | some p => Op.bytesLess p.toList k.toList
mutual
def lookV : V → Int → Lk → Lk
  | .mk k h t l ks vs, deep, s =>
    if (s.part deep).bad then s.part deep else
      lookM none ks vs deep (lookL l deep ((((s.part deep).want (shapeB k h t l.length ks.length vs.length)).want (halfB h)).str t))
def lookL : List V → Int → Lk → Lk
  | [], _, s => s
  | v :: r, deep, s => if s.bad then s else lookL r deep (lookV v (wrap64 (deep + 1)) s)
def lookM : Option ByteArray → List ByteArray → List V → Int → Lk → Lk
  | _, [], _, _, s => s
  | _, _ :: _, [], _, s => s
  | p, k :: ks, v :: vs, deep, s => if s.bad then s else lookM (some k) ks vs deep (lookV v (wrap64 (deep + 1)) ((s.str k).want (riseB p k)))
end

def fitB (v : V) : Bool := !(lookV v 0 ⟨0, 0, false⟩).bad
theorem Lk.want_bad (s : Lk) (ok : Bool) : (s.want ok).bad = false ↔ s.bad = false ∧ ok = true := by
  cases h : s.bad <;> cases ok <;> simp [Lk.want, h]
theorem Lk.part_bad {s : Lk} {deep : Int} (h : (s.part deep).bad = false) : s.bad = false ∧ wrap64 (s.parts + 1) ≤ 400 ∧ s.bytes ≤ 2000 ∧ deep ≤ 60 := by
  simp [Lk.part] at h
  exact ⟨h.1, by omega, by omega, by omega⟩
theorem Lk.str_bad {s : Lk} {b : ByteArray} (h : (s.str b).bad = false) : s.bad = false ∧ wrap64 (s.bytes + b.size) ≤ 2000 ∧ Lib.validD b.data.toList = true := by
  simp [Lk.str] at h
  exact ⟨h.1, by omega, h.2.2⟩
inductive Good : V → Prop
  | mk {k h : Int} {t : ByteArray} {l : List V} {ks : List ByteArray} {vs : List V}
    (shape : shapeB k h t l.length ks.length vs.length = true) (half : halfB h = true) (valid : Lib.validD t.data.toList = true)
    (list : ∀ i (hi : i < l.length), Good l[i]) (rise : ∀ i (hi : i + 1 < ks.length), Op.bytesLess ks[i].toList ks[i + 1].toList = true)
    (vkeys : ∀ i (hi : i < ks.length), Lib.validD ks[i].data.toList = true) (vals : ∀ i (hi : i < vs.length), Good vs[i]) : Good (.mk k h t l ks vs)
/-- The float of an odd Half, as impl.toGo reckons it. -/
def halfBits (h : Int) : Nat := (FloatKind.f64.format.div (FloatKind.f64.nearest h) 4611686018427387904).getD 0
mutual
def toJ : V → J
  | .mk k h t l ks vs =>
    if k = 0 then .null else if k = 1 then .bool false else if k = 2 then .bool true
    else if k = 3 then (if h.tmod 2 = 0 then .int (h.tdiv 2) else .flt (halfBits h))
    else if k = 4 then .str t else if k = 5 then .arr (toJL l) else .obj (toJM ks vs)
def toJL : List V → List J
  | [] => []
  | v :: r => toJ v :: toJL r
def toJM : List ByteArray → List V → List (ByteArray × J)
  | k :: ks, v :: vs => (k, toJ v) :: toJM ks vs
  | _, _ => []
end

theorem toJL_eq : ∀ l : List V, toJL l = l.map toJ
  | [] => by simp [toJL]
  | v :: r => by simp [toJL, toJL_eq r]
theorem toJM_eq : ∀ (ks : List ByteArray) (vs : List V), toJM ks vs = ks.zip (vs.map toJ)
  | [], _ => by simp [toJM]
  | _ :: _, [] => by simp [toJM]
  | k :: ks, v :: vs => by simp [toJM, toJM_eq ks vs]
end Go.Proofs.YtpaebanmaboaiaaGreatDoor

namespace Go.Proofs.YtpaebanmaboaiaaGreatDoor
abbrev Row := Nat → Nat
def swp (r : Row) (i j : Nat) : Row := fun k => if k = i then r j else if k = j then r i else r k
section
variable (lt : Nat → Nat → Bool)
/-- insertionSort_func's inner loop, from j down. -/
def insJ (a : Nat) : Nat → Row → Row
  | 0, r => r
  | j + 1, r => if a < j + 1 ∧ lt (r (j + 1)) (r j) = true then insJ a j (swp r (j + 1) j) else r
def insI (a b i : Nat) (r : Row) : Row := if i < b then insI a b (i + 1) (insJ lt a i r) else r
termination_by b - i
/-- A binary search. -/
def bsW (p : Nat → Bool) (i j : Nat) : Nat := if i < j then (if p ((i + j) / 2) = true then bsW p ((i + j) / 2 + 1) j else bsW p i ((i + j) / 2)) else i
termination_by j - i
decreasing_by all_goals omega
def shUp (i k : Nat) (r : Row) : Row := if k + 1 < i then shUp i (k + 1) (swp r k (k + 1)) else r
termination_by i - k
def shDn (i : Nat) : Nat → Row → Row
  | 0, r => r
  | k + 1, r => if i < k + 1 then shDn i k (swp r (k + 1) k) else r
def swR (a b n i : Nat) (r : Row) : Row := if i < n then swR a b n (i + 1) (swp r (a + i) (b + i)) else r
termination_by n - i
def rotR (m i j : Nat) (r : Row) : Row := if i = j then swR (m - i) m i 0 r else if i = 0 ∨ j = 0 then r else if j < i then rotR m (i - j) j (swR (m - i) m j 0 r) else rotR m i (j - i) (swR (m - i) (m + j - i) i 0 r)
termination_by i + j
decreasing_by all_goals omega
def symM : Nat → Nat → Nat → Nat → Row → Row
  | 0, _, _, _, r => r
  | f + 1, a, m, b, r =>
    if m = a + 1 then shUp (bsW (fun h => lt (r h) (r a)) m b) a r
    else if b = m + 1 then shDn (bsW (fun h => !lt (r m) (r h)) a m) m r
    else
      let mid := (a + b) / 2
      let n := mid + m
      let start := if mid < m then bsW (fun c => !lt (r (n - 1 - c)) (r c)) (n - b) mid else bsW (fun c => !lt (r (n - 1 - c)) (r c)) a m
      let e := n - start
      let r1 := if start < m ∧ m < e then rotR m (m - start) (e - m) r else r
      let r2 := if a < start ∧ start < mid then symM f a start mid r1 else r1
      if mid < e ∧ e < b then symM f mid e b r2 else r2
def stb1 (n a : Nat) (r : Row) : Row := if a + 20 ≤ n then stb1 n (a + 20) (insI lt a (a + 20) (a + 1) r) else insI lt a n (a + 1) r
termination_by n - a
def mrgI (n bs a : Nat) (r : Row) : Row := if 0 < bs ∧ a + 2 * bs ≤ n then mrgI n bs (a + 2 * bs) (symM lt (2 * bs) a (a + bs) (a + 2 * bs) r) else if a + bs < n then symM lt (n - a) a (a + bs) n r else r
termination_by n - a
decreasing_by omega
def stb2 (n bs : Nat) (r : Row) : Row := if 0 < bs ∧ bs < n then stb2 n (2 * bs) (mrgI lt n bs 0 r) else r
termination_by n - bs
decreasing_by omega
def stable (n : Nat) (r : Row) : Row := stb2 lt n 20 (stb1 lt n 0 r)
end
/-- A row that has each number below n once. -/
def PermN (n : Nat) (r : Row) : Prop := (∀ k, k < n → r k < n) ∧ ∀ i j, i < n → j < n → r i = r j → i = j
theorem permN_id (n : Nat) : PermN n (fun k => k) := ⟨fun _ h => h, fun _ _ _ _ h => h⟩
theorem PermN.swp {n : Nat} {r : Row} (h : PermN n r) {i j : Nat} (hi : i < n) (hj : j < n) : PermN n (swp r i j) := by
  refine ⟨fun k hk => ?_, fun p q hp hq e => ?_⟩
  · unfold Go.Proofs.YtpaebanmaboaiaaGreatDoor.swp
    split
    · exact h.1 j hj
    · split
      · exact h.1 i hi
      · exact h.1 k hk
  · unfold Go.Proofs.YtpaebanmaboaiaaGreatDoor.swp at e
    have h2 := h.2
    split at e <;> split at e <;> (try split at e) <;> (try split at e)
    all_goals first
      | omega
      | (have := h2 _ _ (by assumption) (by assumption) e; omega)
      | (have := h2 _ _ hj hi e; omega)
      | (have := h2 _ _ hj hq e; omega)
      | (have := h2 _ _ hi hj e; omega)
      | (have := h2 _ _ hi hq e; omega)
      | (have := h2 _ _ hp hj e; omega)
      | (have := h2 _ _ hp hi e; omega)
theorem bsW_in (p : Nat → Bool) (i j : Nat) (h : i ≤ j) : i ≤ bsW p i j ∧ bsW p i j ≤ j := by
  induction i, j using bsW.induct p with
  | case1 i j hij hp ih =>
    rw [bsW, if_pos hij, if_pos hp]
    have := ih (by omega)
    omega
  | case2 i j hij hp ih =>
    rw [bsW, if_pos hij, if_neg hp]
    have := ih (by omega)
    omega
  | case3 i j hij =>
    rw [bsW, if_neg hij]
    omega
end Go.Proofs.YtpaebanmaboaiaaGreatDoor

namespace Go.Proofs.YtpaebanmaboaiaaGreatDoor
open Go Go.RowKit Go.Maps
def reach : Nat := 140737488351232
/-- The cells cs stand at b, o. -/
def CellsAt (w : World) (b o : Nat) (cs : List Value) : Prop := ∀ j (h : j < cs.length), w.cell? ⟨b, o + j, none⟩ = some cs[j]
theorem CellsAt.below {w w' : World} {B b o : Nat} {cs : List Value} (h : CellsAt w b o cs) (hb : Below B w w') (hlt : b < B) : CellsAt w' b o cs :=
  fun j hj => (hb.cell (p := ⟨b, o + j, none⟩) hlt).trans (h j hj)
inductive RepV (w : World) (B : Nat) : V → List Value → Prop
  | mk {k h : Int} {t : ByteArray} {l : List V} {ks : List ByteArray} {vs : List V} {la ka va : Option Addr} {lc kc vc : Nat} (C D : Nat → List Value)
    (hk : -9223372036854775808 ≤ k ∧ k ≤ 9223372036854775807) (hh : -9223372036854775808 ≤ h ∧ h ≤ 9223372036854775807)
    (ht : t.size ≤ 140737488351232) (hl : l.length * 104 ≤ 140737488351232) (hks : ks.length * 16 ≤ 140737488351232) (hvs : vs.length * 104 ≤ 140737488351232)
    (hs : ∀ s ∈ ks, s.size ≤ 140737488351232)
    (cl : 0 < l.length → ∃ b o, la = some ⟨b, o, none⟩ ∧ b < B ∧ ∀ i, i < l.length → CellsAt w b (o + i * 6) (C i))
    (rl : ∀ i (hi : i < l.length), RepV w B l[i] (C i))
    (ck : 0 < ks.length → ∃ b o, ka = some ⟨b, o, none⟩ ∧ b < B ∧ ∀ i (hi : i < ks.length), w.cell? ⟨b, o + i, none⟩ = some (.string ks[i]))
    (cv : 0 < vs.length → ∃ b o, va = some ⟨b, o, none⟩ ∧ b < B ∧ ∀ i, i < vs.length → CellsAt w b (o + i * 6) (D i))
    (rv : ∀ i (hi : i < vs.length), RepV w B vs[i] (D i)) (hlc : l.length ≤ lc) :
    RepV w B (.mk k h t l ks vs) [.int .i64 k, .int .i64 h, .string t, .slice la l.length lc, .slice ka ks.length kc, .slice va vs.length vc]
theorem RepV.carry {w w' : World} {B B' : Nat} (hb : Below B w w') (hB : B ≤ B') {v : V} {cs : List Value} (h : RepV w B v cs) : RepV w' B' v cs := by
  induction h with
  | mk C D hk hh ht hl hks hvs hs cl _ ck cv _ hlc ihl ihv =>
    refine .mk C D hk hh ht hl hks hvs hs ?_ ihl ?_ ?_ ihv hlc
    · intro h0
      obtain ⟨b, o, e, hlt, hc⟩ := cl h0
      exact ⟨b, o, e, by omega, fun i hi => (hc i hi).below hb hlt⟩
    · intro h0
      obtain ⟨b, o, e, hlt, hc⟩ := ck h0
      exact ⟨b, o, e, by omega, fun i hi => (hb.cell (p := ⟨b, o + i, none⟩) hlt).trans (hc i hi)⟩
    · intro h0
      obtain ⟨b, o, e, hlt, hc⟩ := cv h0
      exact ⟨b, o, e, by omega, fun i hi => (hc i hi).below hb hlt⟩
theorem RepV.mono {w : World} {B B' : Nat} (hB : B ≤ B') {v : V} {cs : List Value} (h : RepV w B v cs) : RepV w B' v cs := h.carry (Below.refl _ _) hB
end Go.Proofs.YtpaebanmaboaiaaGreatDoor

namespace Go.Proofs.YtpaebanmaboaiaaGreatDoor
open Go Go.RowKit Go.Deep
theorem at_alloc (w : World) (o : Obj) : (w.alloc o).heap[w.heap.size]? = some o := by
  show (w.heap.push o)[w.heap.size]? = _
  simp
theorem at_alloc2 (w : World) (o o' : Obj) : ((w.alloc o).alloc o').heap[w.heap.size + 1]? = some o' := by
  have := at_alloc (w.alloc o) o'
  simpa using this
theorem of_block6 {w : World} {b : Nat} {c0 c1 c2 c3 c4 c5 : Value} {t : TypeId} (h : w.heap[b]? = some (.cells #[c0, c1, c2, c3, c4, c5] t)) :
    w.cell? ⟨b, 0, none⟩ = some c0 ∧ w.cell? ⟨b, 1, none⟩ = some c1 ∧ w.cell? ⟨b, 2, none⟩ = some c2 ∧ w.cell? ⟨b, 3, none⟩ = some c3 ∧ w.cell? ⟨b, 4, none⟩ = some c4 ∧ w.cell? ⟨b, 5, none⟩ = some c5 := by
  simp [World.cell?, h]
theorem of_block7 {w : World} {b : Nat} {c0 c1 c2 c3 c4 c5 c6 : Value} {t : TypeId} (h : w.heap[b]? = some (.cells #[c0, c1, c2, c3, c4, c5, c6] t)) :
    w.cell? ⟨b, 0, none⟩ = some c0 ∧ w.cell? ⟨b, 1, none⟩ = some c1 ∧ w.cell? ⟨b, 2, none⟩ = some c2 ∧ w.cell? ⟨b, 3, none⟩ = some c3 ∧ w.cell? ⟨b, 4, none⟩ = some c4 ∧ w.cell? ⟨b, 5, none⟩ = some c5 ∧ w.cell? ⟨b, 6, none⟩ = some c6 := by
  simp [World.cell?, h]
theorem free_block7 {w : World} {b : Nat} {c0 c1 c2 c3 c4 c5 c6 : Value} {t : TypeId} (h : w.heap[b]? = some (.cells #[c0, c1, c2, c3, c4, c5, c6] t)) :
    w.frozen? ⟨b, 0, none⟩ = false ∧ w.frozen? ⟨b, 1, none⟩ = false ∧ w.frozen? ⟨b, 2, none⟩ = false ∧ w.frozen? ⟨b, 3, none⟩ = false ∧ w.frozen? ⟨b, 4, none⟩ = false ∧ w.frozen? ⟨b, 5, none⟩ = false ∧ w.frozen? ⟨b, 6, none⟩ = false := by
  simp [World.frozen?, h]
theorem set_row7 {w : World} {b : Nat} {c0 c1 c2 c3 c4 c5 c6 : Value} {t : TypeId} (h : w.heap[b]? = some (.cells #[c0, c1, c2, c3, c4, c5, c6] t)) (v0 v1 v2 v3 v4 v5 v6 : Value) :
    (((((((w.setCell ⟨b, 0, none⟩ v0).setCell ⟨b, 1, none⟩ v1).setCell ⟨b, 2, none⟩ v2).setCell ⟨b, 3, none⟩ v3).setCell ⟨b, 4, none⟩ v4).setCell ⟨b, 5, none⟩ v5).setCell ⟨b, 6, none⟩ v6).heap[b]? = some (.cells #[v0, v1, v2, v3, v4, v5, v6] t) := by
  have h0 := heap_setCell_same _ b 0 _ t v0 h
  have h1 := heap_setCell_same _ b 1 _ t v1 h0
  have h2 := heap_setCell_same _ b 2 _ t v2 h1
  have h3 := heap_setCell_same _ b 3 _ t v3 h2
  have h4 := heap_setCell_same _ b 4 _ t v4 h3
  have h5 := heap_setCell_same _ b 5 _ t v5 h4
  have h6 := heap_setCell_same _ b 6 _ t v6 h5
  simpa using h6
theorem below_alloc1 (w : World) (o : Obj) : Below w.heap.size w (w.alloc o) := (Below.refl _ _).alloc (Nat.le_refl _) o
theorem below_alloc2 (w : World) (o o' : Obj) : Below w.heap.size w ((w.alloc o).alloc o') := ((Below.refl _ _).alloc (Nat.le_refl _) _).alloc (by simp) _
theorem at_alloc3 (w : World) (o o' o'' : Obj) : Below w.heap.size w (((w.alloc o).alloc o').alloc o'') ∧ (((w.alloc o).alloc o').alloc o'').heap.size = w.heap.size + 3 ∧
    (((w.alloc o).alloc o').alloc o'').heap[w.heap.size + 1]? = some o' ∧ (((w.alloc o).alloc o').alloc o'').heap[w.heap.size + 1 + 1]? = some o'' := by
  refine ⟨(below_alloc2 w o o').alloc (by simp; omega) _, by simp, ?_, ?_⟩
  · rw [heap_alloc_old _ _ (by simp)]
    exact at_alloc2 w o o'
  · have := at_alloc2 (w.alloc o) o' o''
    simpa using this
theorem results_row_tmp {P : Program} {fn : Func} {p u : Tmp} {ty : TypeId} (h : fn.results = #[.cell p ty, .tmp u]) (tmps : Array Value) (w : World) (g : Nat) (t : TypeId) (cs : Array Value) (fr : Nat × Nat) (d : TypeDesc)
    (hp : tmps.getD p undef = .pointer (some ⟨g, 0, none⟩)) (hg : w.heap[g]? = some (.cells cs t fr))
    (hu : P.underlying ty = some d) (hd : (match d with | .struct _ | .array _ _ => true | _ => false) = true) (hi : (P.info? ty).map (·.size) = some cs.size) :
    (results fn tmps).run P w = .ok (.tuple #[.agg cs, tmps.getD u undef]) w := by
  rw [results_cell_tmp h, hp]
  simp [asAddr, run_loadVar_row w g t ty cs fr d hg hu hd hi, Result.andThen]
theorem set_row6 {w : World} {b : Nat} {c0 c1 c2 c3 c4 c5 : Value} {t : TypeId} (h : w.heap[b]? = some (.cells #[c0, c1, c2, c3, c4, c5] t)) (v0 v1 v2 v3 v4 v5 : Value) :
    ((((((w.setCell ⟨b, 0, none⟩ v0).setCell ⟨b, 1, none⟩ v1).setCell ⟨b, 2, none⟩ v2).setCell ⟨b, 3, none⟩ v3).setCell ⟨b, 4, none⟩ v4).setCell ⟨b, 5, none⟩ v5).heap[b]? = some (.cells #[v0, v1, v2, v3, v4, v5] t) := by
  have h0 := heap_setCell_same _ b 0 _ t v0 h
  have h1 := heap_setCell_same _ b 1 _ t v1 h0
  have h2 := heap_setCell_same _ b 2 _ t v2 h1
  have h3 := heap_setCell_same _ b 3 _ t v3 h2
  have h4 := heap_setCell_same _ b 4 _ t v4 h3
  have h5 := heap_setCell_same _ b 5 _ t v5 h4
  simpa using h5
theorem free_block6 {w : World} {b : Nat} {c0 c1 c2 c3 c4 c5 : Value} {t : TypeId} (h : w.heap[b]? = some (.cells #[c0, c1, c2, c3, c4, c5] t)) :
    w.frozen? ⟨b, 0, none⟩ = false ∧ w.frozen? ⟨b, 1, none⟩ = false ∧ w.frozen? ⟨b, 2, none⟩ = false ∧ w.frozen? ⟨b, 3, none⟩ = false ∧ w.frozen? ⟨b, 4, none⟩ = false ∧ w.frozen? ⟨b, 5, none⟩ = false := by
  simp [World.frozen?, h]
theorem below_set6 {a w : World} {B b : Nat} (h : Below B a w) (hb : B ≤ b) (v0 v1 v2 v3 v4 v5 : Value) :
    Below B a ((((((w.setCell ⟨b, 0, none⟩ v0).setCell ⟨b, 1, none⟩ v1).setCell ⟨b, 2, none⟩ v2).setCell ⟨b, 3, none⟩ v3).setCell ⟨b, 4, none⟩ v4).setCell ⟨b, 5, none⟩ v5) :=
  (((((h.setCell hb _).setCell hb _).setCell hb _).setCell hb _).setCell hb _).setCell hb _
theorem at_alloc20 (w : World) (o o' : Obj) : ((w.alloc o).alloc o').heap[w.heap.size]? = some o := by
  rw [heap_alloc_old _ _ (by simp)]
  exact at_alloc w o
theorem size_alloc2 (w : World) (o o' : Obj) : ((w.alloc o).alloc o').heap.size = w.heap.size + 2 := by simp
/-- What a callee leaves, handed on. -/
theorem below_next {w w1 w2 : World} (h : Below w.heap.size w w1) (k : Below w1.heap.size w1 w2) : Below w.heap.size w w2 := h.trans (k.mono h.size)
theorem below_grown2 {w w' : World} (h : Below w.heap.size w w') (row : Option Nat) : w.grownBy w' row := ⟨h.os, h.tape, h.output, h.size, fun k hk _ => h.block k hk⟩
theorem size_alloc1 (w : World) (o : Obj) : (w.alloc o).heap.size = w.heap.size + 1 := by simp
end Go.Proofs.YtpaebanmaboaiaaGreatDoor

namespace Go.Proofs.YtpaebanmaboaiaaGreatDoor
open Go Go.RowKit Go.Maps Go.Deep
theorem RepV.shape {w : World} {B : Nat} {v : V} {cs : List Value} (h : RepV w B v cs) : ∃ (k h : Int) (t : ByteArray) (la ka va : Option Addr) (nl cl nk ck nv cv : Nat),
    cs = [.int .i64 k, .int .i64 h, .string t, .slice la nl cl, .slice ka nk ck, .slice va nv cv] := by
  cases h
  exact ⟨_, _, _, _, _, _, _, _, _, _, _, _, rfl⟩
theorem cells6 {w : World} {b o : Nat} {c0 c1 c2 c3 c4 c5 : Value} (h : CellsAt w b o [c0, c1, c2, c3, c4, c5]) :
    w.cell? ⟨b, o, none⟩ = some c0 ∧ w.cell? ⟨b, o + 1, none⟩ = some c1 ∧ w.cell? ⟨b, o + 2, none⟩ = some c2 ∧ w.cell? ⟨b, o + 3, none⟩ = some c3 ∧ w.cell? ⟨b, o + 4, none⟩ = some c4 ∧ w.cell? ⟨b, o + 5, none⟩ = some c5 :=
  ⟨h 0 (by simp), h 1 (by simp), h 2 (by simp), h 3 (by simp), h 4 (by simp), h 5 (by simp)⟩
/-- How a map's element reads: it is told as it stands. -/
def heldR (v : Value) : Option (DataW Value × List MemPlace) := some (.held v, [])
/-- A map's entries as its reading has them. -/
def entries (m : List (ByteArray × J)) (E : Nat → Value) : List (Lit × DataW Value) := m.mapIdx fun i p => (Lit.string p.1.data.toList, DataW.held (E i))
/-- Block r is a Go map that holds just these entries. -/
def MapAt (w : World) (r : Nat) (m : List (ByteArray × J)) (E : Nat → Value) : Prop := ∃ n, n ≤ 140737488351232 ∧ w.ownsMap Tryz.prog 9 heldR r n (.map (entries m E))
/-- The greatest capacity of an array (where gojq.update copies arrays, as great as their length). -/
def capMax : Nat := 9223372036854775807
/-- The value v of type any is the tree j, in w; the blocks that it lies in are in S, each for one place of the tree alone. -/
inductive RepJ (w : World) : (Nat → Prop) → J → Value → Prop
  | null (S : Nat → Prop) : RepJ w S .null .nilIface
  | bool (S : Nat → Prop) (b : Bool) : RepJ w S (.bool b) (.iface 4 (.bool b))
  | int (S : Nat → Prop) (n : Int) (h : -9223372036854775808 ≤ n ∧ n ≤ 9223372036854775807) : RepJ w S (.int n) (.iface 3 (.int .i64 n))
  | flt (S : Nat → Prop) (x : Nat) : RepJ w S (.flt x) (.iface 48 (.float .f64 x))
  | str (S : Nat → Prop) (s : ByteArray) (h : s.size ≤ 140737488351232) : RepJ w S (.str s) (.iface 9 (.string s))
  | arr {S : Nat → Prop} {l : List J} {a : Option Addr} {c : Nat} (f : Nat → Value) (b o N : Nat) (F : Nat → Nat → Prop) (hl : l.length * 16 ≤ 140737488351232) (hc : l.length ≤ c)
      (ca : 0 < l.length → a = some ⟨b, o, none⟩ ∧ S b ∧ w.rowIs b 20 N f ∧ o + l.length ≤ N)
      (own : ∀ i, i < l.length → ¬ F i b) (sub : ∀ i k, i < l.length → F i k → S k) (dis : ∀ i j k, i < j → j < l.length → F i k → F j k → False)
      (ra : ∀ i (hi : i < l.length), RepJ w (F i) l[i] (f (o + i))) (hcb : c ≤ capMax) (hnn : a ≠ none) : RepJ w S (.arr l) (.iface 49 (.slice a l.length c))
  | obj {S : Nat → Prop} {m : List (ByteArray × J)} {r : Nat} (E : Nat → Value) (F : Nat → Nat → Prop) (hr : S r) (hm : MapAt w r m E) (hs : ∀ p ∈ m, p.1.size ≤ 140737488351232)
      (own : ∀ i, i < m.length → ¬ F i r) (sub : ∀ i k, i < m.length → F i k → S k) (dis : ∀ i j k, i < j → j < m.length → F i k → F j k → False)
      (rm : ∀ i (hi : i < m.length), RepJ w (F i) m[i].2 (E i)) : RepJ w S (.obj m) (.iface 52 (.map (some r)))
  | hole (S : Nat → Prop) : RepJ w S .hole (.iface 72 (.agg #[]))
theorem MapAt.carry {w w' : World} {r : Nat} {m : List (ByteArray × J)} {E : Nat → Value} (h : MapAt w r m E) (hr : w'.heap[r]? = w.heap[r]?) : MapAt w' r m E := by
  obtain ⟨n, hn, es, clock, hbk, F, hs, hD⟩ := h
  exact ⟨n, hn, es, clock, hr.trans hbk, F, hs, hD⟩
theorem rowIs_carry {w w' : World} {b t n : Nat} {f : Nat → Value} (h : w.rowIs b t n f) (hr : w'.heap[b]? = w.heap[b]?) : w'.rowIs b t n f := by
  obtain ⟨c, hb, hn, hc⟩ := h
  exact ⟨c, hr.trans hb, hn, hc⟩
theorem RepJ.carry {w w' : World} {S : Nat → Prop} {j : J} {v : Value} (h : RepJ w S j v) (hS : ∀ k, S k → w'.heap[k]? = w.heap[k]?) : RepJ w' S j v := by
  induction h with
  | null S => exact .null S
  | bool S b => exact .bool S b
  | int S n h => exact .int S n h
  | flt S x => exact .flt S x
  | str S s h => exact .str S s h
  | arr f b o N F hl hc ca own sub dis _ hcb hnn ih =>
    refine .arr f b o N F hl hc ?_ own sub dis (fun i hi => ih i hi (fun k hk => hS k (sub i k hi hk))) hcb hnn
    intro h0
    obtain ⟨e, hb, hrow, hN⟩ := ca h0
    exact ⟨e, hb, rowIs_carry hrow (hS _ hb), hN⟩
  | obj E F hr hm hs own sub dis _ ih => exact .obj E F hr (hm.carry (hS _ hr)) hs own sub dis (fun i hi => ih i hi (fun k hk => hS k (sub i k hi hk)))
  | hole S => exact .hole S
theorem RepJ.mono {w : World} {S S' : Nat → Prop} {j : J} {v : Value} (h : RepJ w S j v) (hS : ∀ k, S k → S' k) : RepJ w S' j v := by
  cases h with
  | null => exact .null _
  | bool _ b => exact .bool _ b
  | int _ n h => exact .int _ n h
  | flt _ x => exact .flt _ x
  | str _ s h => exact .str _ s h
  | arr f b o N F hl hc ca own sub dis ra hcb hnn => exact .arr f b o N F hl hc (fun h0 => let ⟨e, hb, r⟩ := ca h0; ⟨e, hS _ hb, r⟩) own (fun i k hi hk => hS _ (sub i k hi hk)) dis ra hcb hnn
  | obj E F hr hm hs own sub dis rm => exact .obj E F (hS _ hr) hm hs own (fun i k hi hk => hS _ (sub i k hi hk)) dis rm
  | hole => exact .hole _
theorem RepJ.under {w w' : World} {B : Nat} {S : Nat → Prop} {j : J} {v : Value} (h : RepJ w S j v) (hb : Below B w w') (hS : ∀ k, S k → k < B) : RepJ w' S j v :=
  h.carry fun k hk => hb.block k (hS k hk)
theorem RepJ.form {w : World} {S : Nat → Prop} {j : J} {v : Value} (h : RepJ w S j v) : v = .nilIface ∨ ∃ t y, v = .iface t y := by
  cases h <;> first | exact .inl rfl | exact .inr ⟨_, _, rfl⟩
def Ret (R : Value → World → Prop) (e : Ending) (w : World) : Prop := ∃ v, e = .returned v ∧ R v w
def EntersF (f : Nat) : Prop := ∀ args w, (callFunc f args).run Tryz.prog w = .ok (.enter f args) w
end Go.Proofs.YtpaebanmaboaiaaGreatDoor

namespace Go.Proofs.YtpaebanmaboaiaaGreatDoor
open Go Go.RowKit Go.Deep
/-- What lies from B on stays. -/
def Kept (B : Nat) (w w' : World) : Prop := w.heap.size ≤ w'.heap.size ∧ ∀ k, B ≤ k → k < w.heap.size → w'.heap[k]? = w.heap[k]?
theorem Kept.refl (B : Nat) (w : World) : Kept B w w := ⟨Nat.le_refl _, fun _ _ _ => rfl⟩
theorem Kept.trans {B : Nat} {w w1 w2 : World} (h : Kept B w w1) (k : Kept B w1 w2) : Kept B w w2 :=
  ⟨Nat.le_trans h.1 k.1, fun q h1 h2 => (k.2 q h1 (Nat.lt_of_lt_of_le h2 h.1)).trans (h.2 q h1 h2)⟩
theorem Kept.below {B : Nat} {w w1 w2 : World} (h : Kept B w w1) (k : Below w1.heap.size w1 w2) : Kept B w w2 := h.trans ⟨k.size, fun q _ h2 => k.block q h2⟩
theorem Kept.alloc {B : Nat} (w : World) (o : Obj) : Kept B w (w.alloc o) := ⟨by simp, fun k _ h => heap_alloc_old _ _ h⟩
theorem Kept.drew {B : Nat} {w w1 : World} (h : Kept B w w1) : Kept B w w1.drew := h
/-- 'less' and 'swap' over a row of n, of which r says what stands where; I says that of a world. -/
structure Sorter (n B : Nat) (g sf : Nat) (lb sb : Array Value) (lt : Nat → Nat → Bool) (I : Row → World → Prop) : Prop where
  eg : EntersF g
  small : n < 4611686018427387904
  low : ∀ r w, I r w → B ≤ w.heap.size
  alloc : ∀ r w o, I r w → I r (w.alloc o)
  drew : ∀ r w, I r w → I r w.drew
  less : ∀ r w (i j : Nat), I r w → i < n → j < n → Calls Tryz.prog g (#[.int .i64 i, .int .i64 j] ++ lb) w fun e w' => e = .returned (.bool (lt (r i) (r j))) ∧ I r w' ∧ Below w.heap.size w w'
  swap : ∀ r w (i j : Nat), I r w → i < n → j < n → 2 ≤ n → ∃ w', (callFunc sf (#[.int .i64 i, .int .i64 j] ++ sb)).run Tryz.prog w = .ok (.value (.tuple #[])) w' ∧ I (swp r i j) w' ∧ w'.heap.size = w.heap.size ∧ ∀ k, B ≤ k → w'.heap[k]? = w.heap[k]?
/-- How such a function ends. -/
def SortP (B : Nat) (I : Row → World → Prop) (w : World) (r : Row) (e : Ending) (w' : World) : Prop := e = .returned (.tuple #[]) ∧ I r w' ∧ Kept B w w'
/-- The parameter 'data' in its box. -/
def Data (w : World) (b g sf : Nat) (lb sb : Array Value) : Prop := w.heap[b]? = some (.cells #[.func (.func g) #[] lb, .func (.func sf) #[] sb] 132)
theorem Data.kept {B b g sf : Nat} {lb sb : Array Value} {w w' : World} (h : Data w b g sf lb sb) (k : Kept B w w') (hb : B ≤ b) : Data w' b g sf lb sb := by
  unfold Data at h ⊢
  rw [k.2 b hb (Array.getElem?_eq_some_iff.1 h).1]
  exact h
theorem Data.cells {b g sf : Nat} {lb sb : Array Value} {w : World} (h : Data w b g sf lb sb) : w.cell? ⟨b, 0, none⟩ = some (.func (.func g) #[] lb) ∧ w.cell? ⟨b, 1, none⟩ = some (.func (.func sf) #[] sb) := by
  unfold Data at h
  simp [World.cell?, h]
/-- The two loops' relations. -/
def InsOut (B : Nat) (I : Row → World → Prop) (lt : Nat → Nat → Bool) (a b : Nat) (r : Row) (w : World) (v : Value) (wr : World) : Prop :=
  ∃ (i : Nat) (rk : Row), v = .int .i64 i ∧ a < i ∧ i ≤ b + 1 ∧ I rk wr ∧ Kept B w wr ∧ insI lt a b i rk = insI lt a b (a + 1) r
def InsIn (B : Nat) (I : Row → World → Prop) (lt : Nat → Nat → Bool) (a i : Nat) (r : Row) (w : World) (v : Value) (wr : World) : Prop :=
  ∃ (j : Nat) (rj : Row), v = .int .i64 j ∧ a ≤ j ∧ j ≤ i ∧ I rj wr ∧ Kept B w wr ∧ insJ lt a j rj = insJ lt a i r
theorem insJ_stop {lt : Nat → Nat → Bool} {a j : Nat} {r : Row} (h : j ≤ a ∨ lt (r j) (r (j - 1)) = false) : insJ lt a j r = r := by
  cases j with
  | zero => rfl
  | succ j =>
    rw [insJ, if_neg]
    rintro ⟨h1, h2⟩
    rcases h with h | h
    · omega
    · rw [Nat.add_sub_cancel, h2] at h; cases h
theorem insJ_go {lt : Nat → Nat → Bool} {a j : Nat} {r : Row} (h : a < j) (h2 : lt (r j) (r (j - 1)) = true) : insJ lt a j r = insJ lt a (j - 1) (swp r j (j - 1)) := by
  cases j with
  | zero => omega
  | succ j => rw [insJ, if_pos ⟨h, h2⟩]; rfl
set_option maxHeartbeats 2000000 in
set_option maxRecDepth 100000 in
theorem insertion_any {n B g sf : Nat} {lb sb : Array Value} {lt : Nat → Nat → Bool} {I : Row → World → Prop} (H : Sorter n B g sf lb sb lt I) (a b : Nat) (hab : a ≤ b) (hb : b ≤ n) (r : Row) (w : World) (hI : I r w) :
    Calls Tryz.prog 120 #[.agg #[.func (.func g) #[] lb, .func (.func sf) #[] sb], .int .i64 a, .int .i64 b] w (SortP B I w (insI lt a b (a + 1) r)) := by
  have eg := H.eg
  unfold EntersF at eg
  have hsm := H.small
  have HS := Lib.hid H; clear H
  have hBw := HS.out.low _ _ hI
  have hI1 := HS.out.alloc _ _ (.cells #[.func (.func g) #[] lb, .func (.func sf) #[] sb] 132) hI
  have hK1 : Kept B w (w.alloc (.cells #[.func (.func g) #[] lb, .func (.func sf) #[] sb] 132)) := .alloc w _
  have hD1 : Data (w.alloc (.cells #[.func (.func g) #[] lb, .func (.func sf) #[] sb] 132)) w.heap.size g sf lb sb := at_alloc w _
  have hsz1 : w.heap.size < (w.alloc (.cells #[.func (.func g) #[] lb, .func (.func sf) #[] sb] 132)).heap.size := by simp
  obtain ⟨w1, hw1⟩ : ∃ w1, w1 = w.alloc (.cells #[.func (.func g) #[] lb, .func (.func sf) #[] sb] 132) := ⟨_, rfl⟩
  rw [← hw1] at hI1 hK1 hD1 hsz1
  have HI1 := Lib.hid hI1; clear hI1 hI
  have HK1 := Lib.hid hK1; clear hK1
  have HD1 := Lib.hid hD1; clear hD1
  go_enter Tryz.func120, Tryz.ntmps120
  go_wp2_with fail
  rw [← hw1]
  clear hw1
  go_loopw [6] (fun v wr => InsOut B I lt a b r w1 v wr) (fun v _ => b + 1 - (intOf v).toNat)
  case atStart => exact ⟨a + 1, r, by go_num, by omega, by omega, HI1.out, .refl _ _, rfl⟩
  case round =>
    obtain ⟨i, rk, rfl, hai, hib, hIk, hKk, hO⟩ := hrel
    have HO := Lib.hid hO; clear hO
    have HIk := Lib.hid hIk; clear hIk
    by_cases hlt : i < b
    · have u1 : (i : Int) < (b : Int) := by omega
      obtain ⟨wo, hwo⟩ : ∃ wo : World, wo = wr := ⟨_, rfl⟩
      go_wp2_with fail
      subst hwo
      have HKk := Lib.hid hKk; clear hKk
      go_loopw [7] (fun v wr => InsIn B I lt a i rk wo v wr) (fun v _ => (intOf v).toNat)
      case atStart => exact ⟨i, rk, rfl, by omega, Nat.le_refl _, HIk.out, .refl _ _, rfl⟩
      case round =>
        obtain ⟨j, rj, rfl, haj, hji, hIj, hKj, hJ⟩ := hrel
        have HJ := Lib.hid hJ; clear hJ
        have hK : Kept B w1 wr := HKk.out.trans hKj
        have HKj := Lib.hid hKj; clear hKj
        have hD : Data wr w.heap.size g sf lb sb := HD1.out.kept hK hBw
        have HK := Lib.hid hK; clear hK
        have HD := Lib.hid hD
        obtain ⟨c0, c1⟩ := hD.cells
        clear hD
        have out : (j ≤ a ∨ lt (rj j) (rj (j - 1)) = false) → ∀ w', I rj w' → Below wr.heap.size wr w' → InsOut B I lt a b r w1 (.int .i64 ((i : Int) + 1)) w' := fun hs w' hi hb' =>
          ⟨i + 1, rj, by go_num, by omega, by omega, hi, HK.out.below hb', by rw [← HO.out, insI.eq_def lt a b i rk, if_pos hlt, ← HJ.out, insJ_stop hs]⟩
        have OUT := Lib.hid out
        clear out
        by_cases hja : a < j
        · have hl := HS.out.less rj wr j (j - 1) hIj (by omega) (by omega)
          rw [show (((j - 1 : Nat) : Int)) = (j : Int) - 1 by omega] at hl
          have u2 : (a : Int) < (j : Int) := by omega
          have HL := Lib.hid hl; clear hl
          cases hlv : lt (rj j) (rj (j - 1)) with
          | true =>
            rw [hlv] at HL
            go_wp2_with fail
            refine HL.out.mono ?_
            clear HL
            rintro e w' ⟨rfl, hI', hb'⟩
            have d1 := (hb'.cell (p := ⟨w.heap.size, 1, none⟩) (by exact (Array.getElem?_eq_some_iff.1 HD.out).1)).trans c1
            go_wp2_with fail
            obtain ⟨w2, hs, hI2, hz2, hk2⟩ := HS.out.swap rj w' j (j - 1) hI' (by omega) (by omega) (by omega)
            rw [show (((j - 1 : Nat) : Int)) = (j : Int) - 1 by omega] at hs
            have hK2 : Kept B wr w2 := (Kept.refl B wr).below hb' |>.trans ⟨by omega, fun k hk _ => hk2 k hk⟩
            have HI2 := Lib.hid hI2; clear hI2 hk2 hI'
            rw [hs, Oper.upon_value]
            clear hs
            go_wp2_with fail
            go_roundw
            case rel => exact ⟨j - 1, swp rj j (j - 1), by congr 1 <;> omega, by omega, by omega, HI2.out, HKj.out.trans hK2, by rw [← HJ.out, insJ_go hja hlv]⟩
            case measure => simp [intOf]; omega
          | false =>
            rw [hlv] at HL
            go_wp2_with fail
            refine HL.out.mono ?_
            clear HL
            rintro e w' ⟨rfl, hI', hb'⟩
            go_wp2_with fail
            go_roundw
            case rel => exact OUT.out (.inr hlv) _ hI' hb'
            case measure => simp [intOf]; omega
        · have u2 : ¬ (a : Int) < (j : Int) := by omega
          go_wp2_with fail
          go_roundw
          case rel => exact OUT.out (.inl (by omega)) _ hIj (Below.refl _ _)
          case measure => simp [intOf]; omega
    · have u1 : ¬ (i : Int) < (b : Int) := by omega
      have hend : insI lt a b i rk = rk := by rw [insI.eq_def, if_neg hlt]
      go_wp2_with fail
      (try simp only [Exit.inBlock, Exit.then]); refine bodyPost_ret (results_none rfl _ _ _) rfl ?_
      exact ⟨rfl, by rw [← HO.out, hend]; exact HIk.out, HK1.out.trans hKk⟩
end Go.Proofs.YtpaebanmaboaiaaGreatDoor

namespace Go.Proofs.YtpaebanmaboaiaaGreatDoor
theorem bsW_lo {p : Nat → Bool} {i j : Nat} (h : i < j) (hp : p ((i + j) / 2) = true) : bsW p i j = bsW p ((i + j) / 2 + 1) j := by rw [bsW, if_pos h, if_pos hp]
theorem bsW_hi {p : Nat → Bool} {i j : Nat} (h : i < j) (hp : p ((i + j) / 2) = false) : bsW p i j = bsW p i ((i + j) / 2) := by rw [bsW, if_pos h, if_neg (by rw [hp]; decide)]
theorem bsW_end {p : Nat → Bool} {i j : Nat} (h : ¬ i < j) : bsW p i j = i := by rw [bsW, if_neg h]
theorem shUp_go {i k : Nat} {r : Row} (h : k + 1 < i) : shUp i k r = shUp i (k + 1) (swp r k (k + 1)) := by rw [shUp, if_pos h]
theorem shUp_end {i k : Nat} {r : Row} (h : ¬ k + 1 < i) : shUp i k r = r := by rw [shUp, if_neg h]
theorem shDn_go {i k : Nat} {r : Row} (h : i < k) : shDn i k r = shDn i (k - 1) (swp r k (k - 1)) := by
  cases k with
  | zero => omega
  | succ k => rw [shDn, if_pos h]; rfl
theorem shDn_end {i k : Nat} {r : Row} (h : ¬ i < k) : shDn i k r = r := by
  cases k with
  | zero => rfl
  | succ k => rw [shDn, if_neg h]
theorem swR_go {a b n i : Nat} {r : Row} (h : i < n) : swR a b n i r = swR a b n (i + 1) (swp r (a + i) (b + i)) := by rw [swR, if_pos h]
theorem swR_end {a b n i : Nat} {r : Row} (h : ¬ i < n) : swR a b n i r = r := by rw [swR, if_neg h]
theorem rotR_gt {m i j : Nat} {r : Row} (hj : 0 < j) (h : j < i) : rotR m i j r = rotR m (i - j) j (swR (m - i) m j 0 r) := by
  rw [rotR, if_neg (by omega), if_neg (by omega), if_pos h]
theorem rotR_lt {m i j : Nat} {r : Row} (hi : 0 < i) (h : i < j) : rotR m i j r = rotR m i (j - i) (swR (m - i) (m + j - i) i 0 r) := by
  rw [rotR, if_neg (by omega), if_neg (by omega), if_neg (by omega)]
theorem rotR_end {m i : Nat} {r : Row} : rotR m i i r = swR (m - i) m i 0 r := by rw [rotR, if_pos rfl]
section
variable {lt : Nat → Nat → Bool}
theorem symM_up {f a b : Nat} {r : Row} : symM lt (f + 1) a (a + 1) b r = shUp (bsW (fun h => lt (r h) (r a)) (a + 1) b) a r := by rw [symM, if_pos rfl]
theorem symM_dn {f a m : Nat} {r : Row} (h : m ≠ a + 1) : symM lt (f + 1) a m (m + 1) r = shDn (bsW (fun h => !lt (r m) (r h)) a m) m r := by rw [symM, if_neg h, if_pos rfl]
/-- Where the blocks are parted. -/
def stW (lt : Nat → Nat → Bool) (a m b : Nat) (r : Row) : Nat :=
  if (a + b) / 2 < m then bsW (fun c => !lt (r ((a + b) / 2 + m - 1 - c)) (r c)) ((a + b) / 2 + m - b) ((a + b) / 2) else bsW (fun c => !lt (r ((a + b) / 2 + m - 1 - c)) (r c)) a m
def sy1 (lt : Nat → Nat → Bool) (a m b : Nat) (r : Row) : Row :=
  if stW lt a m b r < m ∧ m < (a + b) / 2 + m - stW lt a m b r then rotR m (m - stW lt a m b r) ((a + b) / 2 + m - stW lt a m b r - m) r else r
def sy2 (lt : Nat → Nat → Bool) (f a m b : Nat) (r : Row) : Row :=
  if a < stW lt a m b r ∧ stW lt a m b r < (a + b) / 2 then symM lt f a (stW lt a m b r) ((a + b) / 2) (sy1 lt a m b r) else sy1 lt a m b r
theorem symM_mid {f a m b : Nat} {r : Row} (h1 : m ≠ a + 1) (h2 : b ≠ m + 1) :
    symM lt (f + 1) a m b r = if (a + b) / 2 < (a + b) / 2 + m - stW lt a m b r ∧ (a + b) / 2 + m - stW lt a m b r < b then symM lt f ((a + b) / 2) ((a + b) / 2 + m - stW lt a m b r) b (sy2 lt f a m b r) else sy2 lt f a m b r := by
  rw [symM, if_neg h1, if_neg h2]
  rfl
theorem stW_in {a m b : Nat} (r : Row) (h1 : a < m) (h2 : m < b) (_ : m ≠ a + 1) (_ : b ≠ m + 1) :
    a ≤ stW lt a m b r ∧ stW lt a m b r ≤ m ∧ stW lt a m b r ≤ (a + b) / 2 ∧ (a + b) / 2 + m - stW lt a m b r ≤ b ∧ m ≤ (a + b) / 2 + m - stW lt a m b r := by
  unfold stW
  split
  · have := bsW_in (fun c => !lt (r ((a + b) / 2 + m - 1 - c)) (r c)) ((a + b) / 2 + m - b) ((a + b) / 2) (by omega)
    omega
  · have := bsW_in (fun c => !lt (r ((a + b) / 2 + m - 1 - c)) (r c)) a m (by omega)
    omega
theorem stb1_go {n a : Nat} {r : Row} (h : a + 20 ≤ n) : stb1 lt n a r = stb1 lt n (a + 20) (insI lt a (a + 20) (a + 1) r) := by rw [stb1, if_pos h]
theorem stb1_end {n a : Nat} {r : Row} (h : ¬ a + 20 ≤ n) : stb1 lt n a r = insI lt a n (a + 1) r := by rw [stb1, if_neg h]
theorem mrgI_go {n bs a : Nat} {r : Row} (h : a + 2 * bs ≤ n) (h0 : 0 < bs) : mrgI lt n bs a r = mrgI lt n bs (a + 2 * bs) (symM lt (2 * bs) a (a + bs) (a + 2 * bs) r) := by rw [mrgI, if_pos ⟨h0, h⟩]
theorem mrgI_last {n bs a : Nat} {r : Row} (h : ¬ a + 2 * bs ≤ n) (h2 : a + bs < n) : mrgI lt n bs a r = symM lt (n - a) a (a + bs) n r := by rw [mrgI, if_neg (by omega), if_pos h2]
theorem mrgI_end {n bs a : Nat} {r : Row} (h : ¬ a + 2 * bs ≤ n) (h2 : ¬ a + bs < n) : mrgI lt n bs a r = r := by rw [mrgI, if_neg (by omega), if_neg h2]
theorem stb2_go {n bs : Nat} {r : Row} (h0 : 0 < bs) (h : bs < n) : stb2 lt n bs r = stb2 lt n (2 * bs) (mrgI lt n bs 0 r) := by rw [stb2, if_pos ⟨h0, h⟩]
theorem stb2_end {n bs : Nat} {r : Row} (h : ¬ bs < n) : stb2 lt n bs r = r := by rw [stb2, if_neg (by omega)]
end
end Go.Proofs.YtpaebanmaboaiaaGreatDoor
