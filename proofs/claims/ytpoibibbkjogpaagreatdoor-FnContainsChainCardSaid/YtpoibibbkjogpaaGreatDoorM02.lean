/- How the program's values read: impl.Value as a tree (V), a Go value of type any as a tree (J). No function is walked here. -/
/- Small facts on worlds. No program in sight. -/
/- How a Go value of type any reads as a tree (J). No function is walked here. -/
/- Rows of impl.Value that a call itself makes; a value with the blocks that it lies in. No function is walked here. -/
/- An answer of the reference as it returns; spec.Array. -/
/- A float turned into an int, whatever it is. -/
/- Floats that are integers or halves (below 2^53): what they read as, how they compare, that sums and differences of them are exact. No program in sight. -/
import Derived.WalkKit
import Derived.Maps.OwnSet
import Derived.Maps.RangeWalk
import Derived.Maps.AppendAt
import Derived.Lib.Hide
import Derived.Test.YtpoibibbkjogpaaGreatDoorProg
import Derived.Test.YtpoibibbkjogpaaGreatDoorM01
import Derived.Laws.Rows
import Derived.Laws.ResultCell
import Derived.Deep.OwnRows
import Derived.WalkLawsBesides
import Derived.Laws.FloatArith
import GoSem.Core.Float
namespace Go.Proofs.YtpoibibbkjogpaaGreatDoor
open Go Go.RowKit Go.Maps

def reach : Nat := 140737488351232

/-- The cells cs stand at b, o. -/
def CellsAt (w : World) (b o : Nat) (cs : List Value) : Prop := ∀ j (h : j < cs.length), w.cell? ⟨b, o + j, none⟩ = some cs[j]

theorem CellsAt.below {w w' : World} {B b o : Nat} {cs : List Value} (h : CellsAt w b o cs) (hb : Below B w w') (hlt : b < B) : CellsAt w' b o cs :=
  fun j hj => (hb.cell (p := ⟨b, o + j, none⟩) hlt).trans (h j hj)

inductive RepV (w : World) (B : Nat) : V → List Value → Prop
  | mk {k h : Int} {t : ByteArray} {l : List V} {ks : List ByteArray} {vs : List V} {la ka va : Option Addr} {lc kc vc : Nat} (C D : Nat → List Value)
    (hk : -9223372036854775808 ≤ k ∧ k ≤ 9223372036854775807) (hh : -9223372036854775808 ≤ h ∧ h ≤ 9223372036854775807)
    (ht : t.size ≤ 140737488351232) (hl : l.length * 104 ≤ 140737488351232) (hks : ks.length * 16 ≤ 140737488351232) (hvs : vs.length * 104 ≤ 140737488351232)
    (hs : ∀ s ∈ ks, s.size ≤ 140737488351232)
    (cl : 0 < l.length → ∃ b o, la = some ⟨b, o, none⟩ ∧ b < B ∧ ∀ i, i < l.length → CellsAt w b (o + i * 6) (C i))
    (rl : ∀ i (hi : i < l.length), RepV w B l[i] (C i))
    (ck : 0 < ks.length → ∃ b o, ka = some ⟨b, o, none⟩ ∧ b < B ∧ ∀ i (hi : i < ks.length), w.cell? ⟨b, o + i, none⟩ = some (.string ks[i]))
    (cv : 0 < vs.length → ∃ b o, va = some ⟨b, o, none⟩ ∧ b < B ∧ ∀ i, i < vs.length → CellsAt w b (o + i * 6) (D i))
    (rv : ∀ i (hi : i < vs.length), RepV w B vs[i] (D i)) (hlc : l.length ≤ lc) :
    RepV w B (.mk k h t l ks vs) [.int .i64 k, .int .i64 h, .string t, .slice la l.length lc, .slice ka ks.length kc, .slice va vs.length vc]

theorem RepV.carry {w w' : World} {B B' : Nat} (hb : Below B w w') (hB : B ≤ B') {v : V} {cs : List Value} (h : RepV w B v cs) : RepV w' B' v cs := by
  induction h with
  | mk C D hk hh ht hl hks hvs hs cl _ ck cv _ hlc ihl ihv =>
    refine .mk C D hk hh ht hl hks hvs hs ?_ ihl ?_ ?_ ihv hlc
    · intro h0
      obtain ⟨b, o, e, hlt, hc⟩ := cl h0
      exact ⟨b, o, e, by omega, fun i hi => (hc i hi).below hb hlt⟩
    · intro h0
      obtain ⟨b, o, e, hlt, hc⟩ := ck h0
      exact ⟨b, o, e, by omega, fun i hi => (hb.cell (p := ⟨b, o + i, none⟩) hlt).trans (hc i hi)⟩
    · intro h0
      obtain ⟨b, o, e, hlt, hc⟩ := cv h0
      exact ⟨b, o, e, by omega, fun i hi => (hc i hi).below hb hlt⟩

theorem RepV.mono {w : World} {B B' : Nat} (hB : B ≤ B') {v : V} {cs : List Value} (h : RepV w B v cs) : RepV w B' v cs := h.carry (Below.refl _ _) hB

end Go.Proofs.YtpoibibbkjogpaaGreatDoor

namespace Go.Proofs.YtpoibibbkjogpaaGreatDoor
open Go Go.RowKit Go.Deep

theorem at_alloc (w : World) (o : Obj) : (w.alloc o).heap[w.heap.size]? = some o := by
  show (w.heap.push o)[w.heap.size]? = _
  simp
theorem at_alloc2 (w : World) (o o' : Obj) : ((w.alloc o).alloc o').heap[w.heap.size + 1]? = some o' := by
  have := at_alloc (w.alloc o) o'
  simpa using this
theorem of_block6 {w : World} {b : Nat} {c0 c1 c2 c3 c4 c5 : Value} {t : TypeId} (h : w.heap[b]? = some (.cells #[c0, c1, c2, c3, c4, c5] t)) :
    w.cell? ⟨b, 0, none⟩ = some c0 ∧ w.cell? ⟨b, 1, none⟩ = some c1 ∧ w.cell? ⟨b, 2, none⟩ = some c2 ∧ w.cell? ⟨b, 3, none⟩ = some c3 ∧ w.cell? ⟨b, 4, none⟩ = some c4 ∧ w.cell? ⟨b, 5, none⟩ = some c5 := by
  simp [World.cell?, h]
theorem of_block7 {w : World} {b : Nat} {c0 c1 c2 c3 c4 c5 c6 : Value} {t : TypeId} (h : w.heap[b]? = some (.cells #[c0, c1, c2, c3, c4, c5, c6] t)) :
    w.cell? ⟨b, 0, none⟩ = some c0 ∧ w.cell? ⟨b, 1, none⟩ = some c1 ∧ w.cell? ⟨b, 2, none⟩ = some c2 ∧ w.cell? ⟨b, 3, none⟩ = some c3 ∧ w.cell? ⟨b, 4, none⟩ = some c4 ∧ w.cell? ⟨b, 5, none⟩ = some c5 ∧ w.cell? ⟨b, 6, none⟩ = some c6 := by
  simp [World.cell?, h]
theorem free_block7 {w : World} {b : Nat} {c0 c1 c2 c3 c4 c5 c6 : Value} {t : TypeId} (h : w.heap[b]? = some (.cells #[c0, c1, c2, c3, c4, c5, c6] t)) :
    w.frozen? ⟨b, 0, none⟩ = false ∧ w.frozen? ⟨b, 1, none⟩ = false ∧ w.frozen? ⟨b, 2, none⟩ = false ∧ w.frozen? ⟨b, 3, none⟩ = false ∧ w.frozen? ⟨b, 4, none⟩ = false ∧ w.frozen? ⟨b, 5, none⟩ = false ∧ w.frozen? ⟨b, 6, none⟩ = false := by
  simp [World.frozen?, h]
theorem set_row7 {w : World} {b : Nat} {c0 c1 c2 c3 c4 c5 c6 : Value} {t : TypeId} (h : w.heap[b]? = some (.cells #[c0, c1, c2, c3, c4, c5, c6] t)) (v0 v1 v2 v3 v4 v5 v6 : Value) :
    (((((((w.setCell ⟨b, 0, none⟩ v0).setCell ⟨b, 1, none⟩ v1).setCell ⟨b, 2, none⟩ v2).setCell ⟨b, 3, none⟩ v3).setCell ⟨b, 4, none⟩ v4).setCell ⟨b, 5, none⟩ v5).setCell ⟨b, 6, none⟩ v6).heap[b]? = some (.cells #[v0, v1, v2, v3, v4, v5, v6] t) := by
  have h0 := heap_setCell_same _ b 0 _ t v0 h
  have h1 := heap_setCell_same _ b 1 _ t v1 h0
  have h2 := heap_setCell_same _ b 2 _ t v2 h1
  have h3 := heap_setCell_same _ b 3 _ t v3 h2
  have h4 := heap_setCell_same _ b 4 _ t v4 h3
  have h5 := heap_setCell_same _ b 5 _ t v5 h4
  have h6 := heap_setCell_same _ b 6 _ t v6 h5
  simpa using h6
theorem below_alloc1 (w : World) (o : Obj) : Below w.heap.size w (w.alloc o) := (Below.refl _ _).alloc (Nat.le_refl _) o
theorem below_alloc2 (w : World) (o o' : Obj) : Below w.heap.size w ((w.alloc o).alloc o') := ((Below.refl _ _).alloc (Nat.le_refl _) _).alloc (by simp) _
theorem at_alloc3 (w : World) (o o' o'' : Obj) : Below w.heap.size w (((w.alloc o).alloc o').alloc o'') ∧ (((w.alloc o).alloc o').alloc o'').heap.size = w.heap.size + 3 ∧
    (((w.alloc o).alloc o').alloc o'').heap[w.heap.size + 1]? = some o' ∧ (((w.alloc o).alloc o').alloc o'').heap[w.heap.size + 1 + 1]? = some o'' := by
  refine ⟨(below_alloc2 w o o').alloc (by simp; omega) _, by simp, ?_, ?_⟩
  · rw [heap_alloc_old _ _ (by simp)]
    exact at_alloc2 w o o'
  · have := at_alloc2 (w.alloc o) o' o''
    simpa using this
theorem results_row_tmp {P : Program} {fn : Func} {p u : Tmp} {ty : TypeId} (h : fn.results = #[.cell p ty, .tmp u]) (tmps : Array Value) (w : World) (g : Nat) (t : TypeId) (cs : Array Value) (fr : Nat × Nat) (d : TypeDesc)
    (hp : tmps.getD p undef = .pointer (some ⟨g, 0, none⟩)) (hg : w.heap[g]? = some (.cells cs t fr))
    (hu : P.underlying ty = some d) (hd : (match d with | .struct _ | .array _ _ => true | _ => false) = true) (hi : (P.info? ty).map (·.size) = some cs.size) :
    (results fn tmps).run P w = .ok (.tuple #[.agg cs, tmps.getD u undef]) w := by
  rw [results_cell_tmp h, hp]
  simp [asAddr, run_loadVar_row w g t ty cs fr d hg hu hd hi, Result.andThen]
theorem set_row6 {w : World} {b : Nat} {c0 c1 c2 c3 c4 c5 : Value} {t : TypeId} (h : w.heap[b]? = some (.cells #[c0, c1, c2, c3, c4, c5] t)) (v0 v1 v2 v3 v4 v5 : Value) :
    ((((((w.setCell ⟨b, 0, none⟩ v0).setCell ⟨b, 1, none⟩ v1).setCell ⟨b, 2, none⟩ v2).setCell ⟨b, 3, none⟩ v3).setCell ⟨b, 4, none⟩ v4).setCell ⟨b, 5, none⟩ v5).heap[b]? = some (.cells #[v0, v1, v2, v3, v4, v5] t) := by
  have h0 := heap_setCell_same _ b 0 _ t v0 h
  have h1 := heap_setCell_same _ b 1 _ t v1 h0
  have h2 := heap_setCell_same _ b 2 _ t v2 h1
  have h3 := heap_setCell_same _ b 3 _ t v3 h2
  have h4 := heap_setCell_same _ b 4 _ t v4 h3
  have h5 := heap_setCell_same _ b 5 _ t v5 h4
  simpa using h5
theorem free_block6 {w : World} {b : Nat} {c0 c1 c2 c3 c4 c5 : Value} {t : TypeId} (h : w.heap[b]? = some (.cells #[c0, c1, c2, c3, c4, c5] t)) :
    w.frozen? ⟨b, 0, none⟩ = false ∧ w.frozen? ⟨b, 1, none⟩ = false ∧ w.frozen? ⟨b, 2, none⟩ = false ∧ w.frozen? ⟨b, 3, none⟩ = false ∧ w.frozen? ⟨b, 4, none⟩ = false ∧ w.frozen? ⟨b, 5, none⟩ = false := by
  simp [World.frozen?, h]
theorem below_set6 {a w : World} {B b : Nat} (h : Below B a w) (hb : B ≤ b) (v0 v1 v2 v3 v4 v5 : Value) :
    Below B a ((((((w.setCell ⟨b, 0, none⟩ v0).setCell ⟨b, 1, none⟩ v1).setCell ⟨b, 2, none⟩ v2).setCell ⟨b, 3, none⟩ v3).setCell ⟨b, 4, none⟩ v4).setCell ⟨b, 5, none⟩ v5) :=
  (((((h.setCell hb _).setCell hb _).setCell hb _).setCell hb _).setCell hb _).setCell hb _
theorem at_alloc30 (w : World) (o o' o'' : Obj) : (((w.alloc o).alloc o').alloc o'').heap[w.heap.size]? = some o := by
  rw [heap_alloc_old _ _ (by simp; omega), heap_alloc_old _ _ (by simp)]
  exact at_alloc w o
theorem at_alloc20 (w : World) (o o' : Obj) : ((w.alloc o).alloc o').heap[w.heap.size]? = some o := by
  rw [heap_alloc_old _ _ (by simp)]
  exact at_alloc w o
theorem size_alloc2 (w : World) (o o' : Obj) : ((w.alloc o).alloc o').heap.size = w.heap.size + 2 := by simp
/-- What a callee leaves, handed on. -/
theorem below_next {w w1 w2 : World} (h : Below w.heap.size w w1) (k : Below w1.heap.size w1 w2) : Below w.heap.size w w2 := h.trans (k.mono h.size)
theorem below_grown2 {w w' : World} (h : Below w.heap.size w w') (row : Option Nat) : w.grownBy w' row := ⟨h.os, h.tape, h.output, h.size, fun k hk _ => h.block k hk⟩
theorem size_alloc1 (w : World) (o : Obj) : (w.alloc o).heap.size = w.heap.size + 1 := by simp

end Go.Proofs.YtpoibibbkjogpaaGreatDoor

namespace Go.Proofs.YtpoibibbkjogpaaGreatDoor
open Go Go.RowKit Go.Maps Go.Deep

theorem RepV.shape {w : World} {B : Nat} {v : V} {cs : List Value} (h : RepV w B v cs) : ∃ (k h : Int) (t : ByteArray) (la ka va : Option Addr) (nl cl nk ck nv cv : Nat),
    cs = [.int .i64 k, .int .i64 h, .string t, .slice la nl cl, .slice ka nk ck, .slice va nv cv] := by
  cases h
  exact ⟨_, _, _, _, _, _, _, _, _, _, _, _, rfl⟩

theorem cells6 {w : World} {b o : Nat} {c0 c1 c2 c3 c4 c5 : Value} (h : CellsAt w b o [c0, c1, c2, c3, c4, c5]) :
    w.cell? ⟨b, o, none⟩ = some c0 ∧ w.cell? ⟨b, o + 1, none⟩ = some c1 ∧ w.cell? ⟨b, o + 2, none⟩ = some c2 ∧ w.cell? ⟨b, o + 3, none⟩ = some c3 ∧ w.cell? ⟨b, o + 4, none⟩ = some c4 ∧ w.cell? ⟨b, o + 5, none⟩ = some c5 :=
  ⟨h 0 (by simp), h 1 (by simp), h 2 (by simp), h 3 (by simp), h 4 (by simp), h 5 (by simp)⟩

/-- How a map's element reads: it is told as it stands. -/
def heldR (v : Value) : Option (DataW Value × List MemPlace) := some (.held v, [])

/-- A map's entries as its reading has them. -/
def entries (m : List (ByteArray × J)) (E : Nat → Value) : List (Lit × DataW Value) := m.mapIdx fun i p => (Lit.string p.1.data.toList, DataW.held (E i))

/-- Block r is a Go map that holds just these entries. -/
def MapAt (w : World) (r : Nat) (m : List (ByteArray × J)) (E : Nat → Value) : Prop := ∃ n, n ≤ 140737488351232 ∧ w.ownsMap Tryz.prog 9 heldR r n (.map (entries m E))

/-- The greatest capacity of an array (where gojq.update copies arrays, as great as their length). -/
def capMax : Nat := 8796093021952

/-- The value v of type any is the tree j, in w; the blocks that it lies in are in S, each for one place of the tree alone. -/
inductive RepJ (w : World) : (Nat → Prop) → J → Value → Prop
  | null (S : Nat → Prop) : RepJ w S .null .nilIface
  | bool (S : Nat → Prop) (b : Bool) : RepJ w S (.bool b) (.iface 4 (.bool b))
  | int (S : Nat → Prop) (n : Int) (h : -9223372036854775808 ≤ n ∧ n ≤ 9223372036854775807) : RepJ w S (.int n) (.iface 3 (.int .i64 n))
  | flt (S : Nat → Prop) (x : Nat) : RepJ w S (.flt x) (.iface 58 (.float .f64 x))
  | str (S : Nat → Prop) (s : ByteArray) (h : s.size ≤ 140737488351232) : RepJ w S (.str s) (.iface 9 (.string s))
  | arr {S : Nat → Prop} {l : List J} {a : Option Addr} {c : Nat} (f : Nat → Value) (b o N : Nat) (F : Nat → Nat → Prop) (hl : l.length * 16 ≤ 140737488351232) (hc : l.length ≤ c)
      (ca : 0 < l.length → a = some ⟨b, o, none⟩ ∧ S b ∧ w.rowIs b 20 N f ∧ o + l.length ≤ N)
      (own : ∀ i, i < l.length → ¬ F i b) (sub : ∀ i k, i < l.length → F i k → S k) (dis : ∀ i j k, i < j → j < l.length → F i k → F j k → False)
      (ra : ∀ i (hi : i < l.length), RepJ w (F i) l[i] (f (o + i))) (hcb : c ≤ capMax) (hnn : a ≠ none) : RepJ w S (.arr l) (.iface 59 (.slice a l.length c))
  | obj {S : Nat → Prop} {m : List (ByteArray × J)} {r : Nat} (E : Nat → Value) (F : Nat → Nat → Prop) (hr : S r) (hm : MapAt w r m E) (hs : ∀ p ∈ m, p.1.size ≤ 140737488351232)
      (own : ∀ i, i < m.length → ¬ F i r) (sub : ∀ i k, i < m.length → F i k → S k) (dis : ∀ i j k, i < j → j < m.length → F i k → F j k → False)
      (rm : ∀ i (hi : i < m.length), RepJ w (F i) m[i].2 (E i)) : RepJ w S (.obj m) (.iface 62 (.map (some r)))
  | hole (S : Nat → Prop) : RepJ w S .hole (.iface 108 (.agg #[]))

theorem MapAt.carry {w w' : World} {r : Nat} {m : List (ByteArray × J)} {E : Nat → Value} (h : MapAt w r m E) (hr : w'.heap[r]? = w.heap[r]?) : MapAt w' r m E := by
  obtain ⟨n, hn, es, clock, hbk, F, hs, hD⟩ := h
  exact ⟨n, hn, es, clock, hr.trans hbk, F, hs, hD⟩

theorem rowIs_carry {w w' : World} {b t n : Nat} {f : Nat → Value} (h : w.rowIs b t n f) (hr : w'.heap[b]? = w.heap[b]?) : w'.rowIs b t n f := by
  obtain ⟨c, hb, hn, hc⟩ := h
  exact ⟨c, hr.trans hb, hn, hc⟩

theorem RepJ.carry {w w' : World} {S : Nat → Prop} {j : J} {v : Value} (h : RepJ w S j v) (hS : ∀ k, S k → w'.heap[k]? = w.heap[k]?) : RepJ w' S j v := by
  induction h with
  | null S => exact .null S
  | bool S b => exact .bool S b
  | int S n h => exact .int S n h
  | flt S x => exact .flt S x
  | str S s h => exact .str S s h
  | arr f b o N F hl hc ca own sub dis _ hcb hnn ih =>
    refine .arr f b o N F hl hc ?_ own sub dis (fun i hi => ih i hi (fun k hk => hS k (sub i k hi hk))) hcb hnn
    intro h0
    obtain ⟨e, hb, hrow, hN⟩ := ca h0
    exact ⟨e, hb, rowIs_carry hrow (hS _ hb), hN⟩
  | obj E F hr hm hs own sub dis _ ih => exact .obj E F hr (hm.carry (hS _ hr)) hs own sub dis (fun i hi => ih i hi (fun k hk => hS k (sub i k hi hk)))
  | hole S => exact .hole S

theorem RepJ.mono {w : World} {S S' : Nat → Prop} {j : J} {v : Value} (h : RepJ w S j v) (hS : ∀ k, S k → S' k) : RepJ w S' j v := by
  cases h with
  | null => exact .null _
  | bool _ b => exact .bool _ b
  | int _ n h => exact .int _ n h
  | flt _ x => exact .flt _ x
  | str _ s h => exact .str _ s h
  | arr f b o N F hl hc ca own sub dis ra hcb hnn => exact .arr f b o N F hl hc (fun h0 => let ⟨e, hb, r⟩ := ca h0; ⟨e, hS _ hb, r⟩) own (fun i k hi hk => hS _ (sub i k hi hk)) dis ra hcb hnn
  | obj E F hr hm hs own sub dis rm => exact .obj E F (hS _ hr) hm hs own (fun i k hi hk => hS _ (sub i k hi hk)) dis rm
  | hole => exact .hole _

theorem RepJ.under {w w' : World} {B : Nat} {S : Nat → Prop} {j : J} {v : Value} (h : RepJ w S j v) (hb : Below B w w') (hS : ∀ k, S k → k < B) : RepJ w' S j v :=
  h.carry fun k hk => hb.block k (hS k hk)

theorem RepJ.form {w : World} {S : Nat → Prop} {j : J} {v : Value} (h : RepJ w S j v) : v = .nilIface ∨ ∃ t y, v = .iface t y := by
  cases h <;> first | exact .inl rfl | exact .inr ⟨_, _, rfl⟩

def Ret (R : Value → World → Prop) (e : Ending) (w : World) : Prop := ∃ v, e = .returned v ∧ R v w
def EntersF (f : Nat) : Prop := ∀ args w, (callFunc f args).run Tryz.prog w = .ok (.enter f args) w

end Go.Proofs.YtpoibibbkjogpaaGreatDoor

namespace Go.Proofs.YtpoibibbkjogpaaGreatDoor
open Go Go.RowKit Go.Maps Go.Deep

/-- The cells cs are the value v, in w; the blocks that it lies in are in S. -/
inductive RepS (w : World) (S : Nat → Prop) : V → List Value → Prop
  | mk {k h : Int} {t : ByteArray} {l : List V} {ks : List ByteArray} {vs : List V} {la ka va : Option Addr} {lc kc vc : Nat} (C D : Nat → List Value)
    (hk : -9223372036854775808 ≤ k ∧ k ≤ 9223372036854775807) (hh : -9223372036854775808 ≤ h ∧ h ≤ 9223372036854775807)
    (ht : t.size ≤ 140737488351232) (hl : l.length * 104 ≤ 140737488351232) (hks : ks.length * 16 ≤ 140737488351232) (hvs : vs.length * 104 ≤ 140737488351232)
    (hs : ∀ s ∈ ks, s.size ≤ 140737488351232)
    (cl : 0 < l.length → ∃ b o, la = some ⟨b, o, none⟩ ∧ S b ∧ ∀ i, i < l.length → CellsAt w b (o + i * 6) (C i))
    (rl : ∀ i (hi : i < l.length), RepS w S l[i] (C i))
    (ck : 0 < ks.length → ∃ b o, ka = some ⟨b, o, none⟩ ∧ S b ∧ ∀ i (hi : i < ks.length), w.cell? ⟨b, o + i, none⟩ = some (.string ks[i]))
    (cv : 0 < vs.length → ∃ b o, va = some ⟨b, o, none⟩ ∧ S b ∧ ∀ i, i < vs.length → CellsAt w b (o + i * 6) (D i))
    (rv : ∀ i (hi : i < vs.length), RepS w S vs[i] (D i)) (hlc : l.length ≤ lc) :
    RepS w S (.mk k h t l ks vs) [.int .i64 k, .int .i64 h, .string t, .slice la l.length lc, .slice ka ks.length kc, .slice va vs.length vc]

theorem CellsAt.same {w w' : World} {b o : Nat} {cs : List Value} (h : CellsAt w b o cs) (hb : w'.heap[b]? = w.heap[b]?) : CellsAt w' b o cs :=
  fun j hj => (World.cell?_of_block (a := ⟨b, o + j, none⟩) hb).trans (h j hj)

theorem RepS.turn {w w' : World} {S S' : Nat → Prop} {v : V} {cs : List Value} (h : RepS w S v cs) (hS : ∀ k, S k → w'.heap[k]? = w.heap[k]? ∧ S' k) : RepS w' S' v cs := by
  induction h with
  | mk C D hk hh ht hl hks hvs hs cl _ ck cv _ hlc ihl ihv =>
    refine .mk C D hk hh ht hl hks hvs hs ?_ ihl ?_ ?_ ihv hlc
    · intro h0
      obtain ⟨b, o, e, hb, hc⟩ := cl h0
      exact ⟨b, o, e, (hS b hb).2, fun i hi => (hc i hi).same (hS b hb).1⟩
    · intro h0
      obtain ⟨b, o, e, hb, hc⟩ := ck h0
      exact ⟨b, o, e, (hS b hb).2, fun i hi => (World.cell?_of_block (a := ⟨b, o + i, none⟩) (hS b hb).1).trans (hc i hi)⟩
    · intro h0
      obtain ⟨b, o, e, hb, hc⟩ := cv h0
      exact ⟨b, o, e, (hS b hb).2, fun i hi => (hc i hi).same (hS b hb).1⟩
theorem RepS.carry {w w' : World} {S : Nat → Prop} {v : V} {cs : List Value} (h : RepS w S v cs) (hS : ∀ k, S k → w'.heap[k]? = w.heap[k]?) : RepS w' S v cs :=
  h.turn fun k hk => ⟨hS k hk, hk⟩
theorem RepS.mono {w : World} {S S' : Nat → Prop} {v : V} {cs : List Value} (h : RepS w S v cs) (hS : ∀ k, S k → S' k) : RepS w S' v cs :=
  h.turn fun k hk => ⟨rfl, hS k hk⟩
theorem RepS.toV {w : World} {S : Nat → Prop} {B : Nat} {v : V} {cs : List Value} (h : RepS w S v cs) (hS : ∀ k, S k → k < B) : RepV w B v cs := by
  induction h with
  | mk C D hk hh ht hl hks hvs hs cl _ ck cv _ hlc ihl ihv =>
    refine .mk C D hk hh ht hl hks hvs hs ?_ ihl ?_ ?_ ihv hlc
    · intro h0
      obtain ⟨b, o, e, hb, hc⟩ := cl h0
      exact ⟨b, o, e, hS b hb, hc⟩
    · intro h0
      obtain ⟨b, o, e, hb, hc⟩ := ck h0
      exact ⟨b, o, e, hS b hb, hc⟩
    · intro h0
      obtain ⟨b, o, e, hb, hc⟩ := cv h0
      exact ⟨b, o, e, hS b hb, hc⟩
theorem RepV.toS {w : World} {B : Nat} {v : V} {cs : List Value} (h : RepV w B v cs) : RepS w (· < B) v cs := by
  induction h with
  | mk C D hk hh ht hl hks hvs hs cl _ ck cv _ hlc ihl ihv => exact .mk C D hk hh ht hl hks hvs hs cl ihl ck cv ihv hlc
theorem RepS.shape {w : World} {S : Nat → Prop} {v : V} {cs : List Value} (h : RepS w S v cs) : ∃ (k h : Int) (t : ByteArray) (la ka va : Option Addr) (nl cl nk ck nv cv : Nat),
    cs = [.int .i64 k, .int .i64 h, .string t, .slice la nl cl, .slice ka nk ck, .slice va nv cv] := by
  cases h
  exact ⟨_, _, _, _, _, _, _, _, _, _, _, _, rfl⟩
theorem RepS.six {w : World} {S : Nat → Prop} {v : V} {cs : List Value} (h : RepS w S v cs) : cs.length = 6 := by
  cases h
  rfl
theorem RepS.one {w : World} {S : Nat → Prop} {v : V} {cs : List Value} (h : RepS w S v cs) : ∀ u ∈ cs, u.oneCell' = true := by
  cases h
  intro u hu
  simp only [List.mem_cons, List.not_mem_nil, or_false] at hu
  rcases hu with rfl | rfl | rfl | rfl | rfl | rfl <;> rfl

theorem addr_add (g j : Nat) : (⟨g, 0, none⟩ : Addr).add j = ⟨g, j, none⟩ := by unfold Addr.add; split <;> simp_all

/-- The cells of the first n elements, one behind the other. -/
def flat (C : Nat → List Value) : Nat → List Value
  | 0 => []
  | n + 1 => flat C n ++ C n
theorem flat_len {C : Nat → List Value} : ∀ {n : Nat}, (∀ i, i < n → (C i).length = 6) → (flat C n).length = n * 6
  | 0, _ => rfl
  | n + 1, h => by
    simp only [flat, List.length_append]
    rw [flat_len (fun i hi => h i (by omega)), h n (by omega)]
    omega
theorem flat_get {C : Nat → List Value} : ∀ {n : Nat}, (∀ i, i < n → (C i).length = 6) → ∀ i j, i < n → j < 6 → (flat C n)[i * 6 + j]? = (C i)[j]?
  | 0, _, _, _, hi, _ => by omega
  | n + 1, h, i, j, hi, hj => by
    have hlen := flat_len (C := C) (n := n) (fun i hi => h i (by omega))
    simp only [flat]
    by_cases e : i < n
    · rw [List.getElem?_append_left (by omega)]
      exact flat_get (fun i hi => h i (by omega)) i j e hj
    · obtain rfl : i = n := by omega
      rw [List.getElem?_append_right (by omega), hlen]
      congr 1
      omega
theorem flat_same {C C' : Nat → List Value} : ∀ {n : Nat}, (∀ i, i < n → C i = C' i) → flat C n = flat C' n
  | 0, _ => rfl
  | n + 1, h => by simp only [flat]; rw [flat_same (fun i hi => h i (by omega)), h n (by omega)]

/-- v is a slice of impl.Value of the call's own that holds l; what its elements lie in is at or above lo, and not the row itself. -/
def RowS (w : World) (lo base : Nat) (v : Value) (l : List V) : Prop :=
  ∃ (C : Nat → List Value) (F : Nat → Nat → Prop), w.ownsRow base 26 6 v l.length (flat C l.length) ∧ (∀ i (hi : i < l.length), RepS w (F i) l[i] (C i)) ∧
    ∀ i k, i < l.length → F i k → lo ≤ k ∧ k < w.heap.size ∧ v.ownBlock ≠ some k

theorem RowS.nil (w : World) (lo base : Nat) : RowS w lo base (.slice none 0 0) [] :=
  ⟨fun _ => [], fun _ _ => False, World.ownsRow_nil _ _ _ _, fun i hi => by simp at hi, fun _ _ hi => by simp at hi⟩

theorem RowS.kept {w w' : World} {lo base : Nat} {v : Value} {l : List V} (h : RowS w lo base v l) (row : Option Nat) (hg : w.grownBy w' row) (hlo : lo ≤ base) (hr : ∀ k, row = some k → k < lo) : RowS w' lo base v l := by
  obtain ⟨C, F, hown, hr1, hF⟩ := h
  refine ⟨C, F, hown.kept hg ?_, fun i hi => (hr1 i hi).carry fun k hk => ?_, fun i k hi hk => ?_⟩
  · cases hv : v.ownBlock with
    | none => exact .inl rfl
    | some b =>
      refine .inr fun e => ?_
      have := hown.lt b hv
      have := hr b e.symm
      omega
  · obtain ⟨h1, h2, _⟩ := hF i k hi hk
    exact hg.block k h2 (fun e => by have := hr k e.symm; omega)
  · obtain ⟨h1, h2, h3⟩ := hF i k hi hk
    exact ⟨h1, by have := hg.size; omega, h3⟩

/-- What append leaves. -/
theorem RowS.step {w w' : World} {lo base : Nat} {v v' : Value} {l : List V} {x : V} {cs : List Value} {S : Nat → Prop} {C : Nat → List Value} {F : Nat → Nat → Prop}
    (hr1 : ∀ i (hi : i < l.length), RepS w (F i) l[i] (C i)) (hF : ∀ i k, i < l.length → F i k → lo ≤ k ∧ k < w.heap.size ∧ v.ownBlock ≠ some k)
    (hx : RepS w S x cs) (hS : ∀ k, S k → lo ≤ k ∧ k < w.heap.size ∧ v.ownBlock ≠ some k)
    (hown : w'.ownsRow base 26 6 v' (l.length + 1) (flat C l.length ++ cs)) (hg : w.grownBy w' v.ownBlock) (hat : v'.ownBlock = v.ownBlock ∨ v'.ownBlock = some w.heap.size) :
    RowS w' lo base v' (l ++ [x]) := by
  have key : ∀ k, lo ≤ k ∧ k < w.heap.size ∧ v.ownBlock ≠ some k → lo ≤ k ∧ k < w'.heap.size ∧ v'.ownBlock ≠ some k := fun k ⟨h1, h2, h3⟩ => by
    refine ⟨h1, by have := hg.size; omega, ?_⟩
    rcases hat with e | e
    · rw [e]; exact h3
    · rw [e]; intro e'; cases e'; omega
  refine ⟨fun i => if i < l.length then C i else cs, fun i => if i < l.length then F i else S, ?_, ?_, ?_⟩
  · rw [List.length_append, List.length_singleton]
    simp only [flat]
    rw [if_neg (by omega), flat_same (C' := C) (fun i hi => by rw [if_pos hi])]
    exact hown
  · intro i hi
    rw [List.length_append, List.length_singleton] at hi
    by_cases e : i < l.length
    · simp only [e, if_true]
      rw [List.getElem_append_left e]
      exact (hr1 i e).carry fun k hk => hg.block k (hF i k e hk).2.1 (fun e' => (hF i k e hk).2.2 e'.symm)
    · obtain rfl : i = l.length := by omega
      simp only [Nat.lt_irrefl, if_false]
      rw [List.getElem_append_right (by omega)]
      simp only [Nat.sub_self, List.getElem_cons_zero]
      exact hx.carry fun k hk => hg.block k (hS k hk).2.1 (fun e' => (hS k hk).2.2 e'.symm)
  · intro i k hi hk
    rw [List.length_append, List.length_singleton] at hi
    by_cases e : i < l.length
    · simp only [e, if_true] at hk
      exact key k (hF i k e hk)
    · simp only [e, if_false] at hk
      exact key k (hS k hk)

theorem RowS.parts {w : World} {lo base : Nat} {v : Value} {l : List V} (h : RowS w lo base v l) (hlo : lo ≤ base) :
    ∃ (la : Option Addr) (lc : Nat) (C : Nat → List Value), v = .slice la l.length lc ∧
      (0 < l.length → ∃ b o, la = some ⟨b, o, none⟩ ∧ (lo ≤ b ∧ b < w.heap.size) ∧ ∀ i, i < l.length → CellsAt w b (o + i * 6) (C i)) ∧
      (∀ i (hi : i < l.length), RepS w (fun k => lo ≤ k ∧ k < w.heap.size) l[i] (C i)) ∧ l.length ≤ lc := by
  obtain ⟨C, F, hown, hr, hF⟩ := h
  have h6 : ∀ i, i < l.length → (C i).length = 6 := fun i hi => (hr i hi).six
  have hr' : ∀ i (hi : i < l.length), RepS w (fun k => lo ≤ k ∧ k < w.heap.size) l[i] (C i) := fun i hi => (hr i hi).mono fun k hk => ⟨(hF i k hi hk).1, (hF i k hi hk).2.1⟩
  rcases hown.2 with ⟨e, h0⟩ | ⟨g, cap, cur, e, hb, hg, hnc, _⟩
  · exact ⟨none, 0, C, by rw [e, h0], fun h => by omega, hr', by omega⟩
  · refine ⟨some ⟨g, 0, none⟩, cap, C, e, fun _ => ⟨g, 0, rfl, ⟨by omega, (Array.getElem?_eq_some_iff.1 hg).1⟩, fun i hi j hj => ?_⟩, hr', hnc⟩
    have hj6 : j < 6 := by have := h6 i hi; omega
    have hc := hown.cells (g := g) (by rw [e]; rfl) (i * 6 + j) (C i)[j] (by rw [flat_get h6 i j hi hj6, List.getElem?_eq_getElem hj])
    rw [addr_add] at hc
    rw [Nat.zero_add]
    exact hc

/-- An array over such a row. -/
theorem RowS.list {w : World} {lo base : Nat} {v : Value} {l : List V} (h : RowS w lo base v l) (hlo : lo ≤ base) (hl : l.length * 104 ≤ 140737488351232) :
    ∃ la lc, v = .slice la l.length lc ∧ RepS w (fun k => lo ≤ k ∧ k < w.heap.size) (.mk 5 0 ⟨#[]⟩ l [] []) [.int .i64 5, .int .i64 0, .string ⟨#[]⟩, .slice la l.length lc, .slice none 0 0, .slice none 0 0] := by
  obtain ⟨la, lc, C, e, cl, rl, hlc⟩ := h.parts hlo
  exact ⟨la, lc, e, .mk (ks := []) (vs := []) C C (by omega) (by omega) (Nat.zero_le _ : (⟨#[]⟩ : ByteArray).size ≤ _) hl (by simp) (by simp) (fun s hs => by simp at hs) cl rl (fun h => by simp at h) (fun h => by simp at h) (fun i hi => by simp at hi) hlc⟩

/-- A map over a row of keys and a row of values. -/
theorem RowS.map {w : World} {lo base base' : Nat} {kv v : Value} {ks : List ByteArray} {vs : List V} (hk : w.ownsRow base' 9 1 kv ks.length (ks.map .string)) (h : RowS w lo base v vs) (hlo : lo ≤ base) (hlo' : lo ≤ base')
    (hks : ks.length * 16 ≤ 140737488351232) (hvs : vs.length * 104 ≤ 140737488351232) (hs : ∀ s ∈ ks, s.size ≤ 140737488351232) :
    ∃ ka kc va vc, kv = .slice ka ks.length kc ∧ v = .slice va vs.length vc ∧
      RepS w (fun k => lo ≤ k ∧ k < w.heap.size) (.mk 6 0 ⟨#[]⟩ [] ks vs) [.int .i64 6, .int .i64 0, .string ⟨#[]⟩, .slice none 0 0, .slice ka ks.length kc, .slice va vs.length vc] := by
  obtain ⟨va, vc, D, e, cv, rv, _⟩ := h.parts hlo
  have hkk : ∃ ka kc, kv = .slice ka ks.length kc ∧ (0 < ks.length → ∃ b o, ka = some ⟨b, o, none⟩ ∧ (lo ≤ b ∧ b < w.heap.size) ∧ ∀ i (hi : i < ks.length), w.cell? ⟨b, o + i, none⟩ = some (.string ks[i])) := by
    rcases hk.2 with ⟨e, h0⟩ | ⟨g, cap, cur, e, hb, hg, _⟩
    · exact ⟨none, 0, by rw [e, h0], fun h => by omega⟩
    · refine ⟨some ⟨g, 0, none⟩, cap, e, fun _ => ⟨g, 0, rfl, ⟨by omega, (Array.getElem?_eq_some_iff.1 hg).1⟩, fun i hi => ?_⟩⟩
      have hc := hk.cells (g := g) (by rw [e]; rfl) i (.string ks[i]) (by simp [hi])
      rw [addr_add] at hc
      rw [Nat.zero_add]
      exact hc
  obtain ⟨ka, kc, ek, ck⟩ := hkk
  exact ⟨ka, kc, va, vc, ek, e, .mk (l := []) D D (by omega) (by omega) (Nat.zero_le _ : (⟨#[]⟩ : ByteArray).size ≤ _) (by simp) hks hvs hs (fun h => by simp at h) (fun i hi => by simp at hi) ck cv rv (Nat.le_refl 0 : ([] : List V).length ≤ 0)⟩

theorem info_value : (Tryz.prog.info? 26).map (fun i => (i.zero, i.size, i.bytes)) = some (some (.agg #[.int .i64 0, .int .i64 0, .string ⟨#[]⟩, .slice none 0 0, .slice none 0 0, .slice none 0 0]), 6, 104) := by kernel_rfl

/-- A block of cells, just made. -/
theorem cells_new (w : World) (cs : List Value) (t : TypeId) : ∀ j u, cs[j]? = some u → (w.alloc (.cells cs.toArray t)).cell? ((⟨w.heap.size, 0, none⟩ : Addr).add j) = some u := by
  intro j u hu
  rw [addr_add, cell_of_row (w.alloc (.cells cs.toArray t)) w.heap.size j cs.toArray t (0, 0) (at_alloc w _)]
  simpa using hu

end Go.Proofs.YtpoibibbkjogpaaGreatDoor

namespace Go.Proofs.YtpoibibbkjogpaaGreatDoor
open Go Go.RowKit Go.Maps Go.Deep

/-- The blocks below B, and those made since w. -/
def OldNew (B : Nat) (w w' : World) (k : Nat) : Prop := k < B ∨ (w.heap.size ≤ k ∧ k < w'.heap.size)

def AnsAt (w : World) (B : Nat) (a : Ans) (e : Ending) (w' : World) : Prop :=
  ∃ (k h : Int) (t : ByteArray) (la ka va : Option Addr) (nl cl nk ck nv cv : Nat), e = .returned (.tuple #[.agg #[.int .i64 k, .int .i64 h, .string t, .slice la nl cl, .slice ka nk ck, .slice va nv cv], .int .i64 a.how]) ∧
    (∀ v, a = .fine v → RepS w' (OldNew B w w') v [.int .i64 k, .int .i64 h, .string t, .slice la nl cl, .slice ka nk ck, .slice va nv cv]) ∧ Below w.heap.size w w'


end Go.Proofs.YtpoibibbkjogpaaGreatDoor

namespace Go.Proofs.YtpoibibbkjogpaaGreatDoor
open Go Go.RowKit

theorem conv_any (w : World) (b : Nat) : ∃ n : Int, ∃ w', (convert 58 3 (.float .f64 b)).run Tryz.prog w = .ok (.int .i64 n) w' ∧ -9223372036854775808 ≤ n ∧ n ≤ 9223372036854775807 ∧ Below w.heap.size w w' := by
  cases h : floatToIntVal .f64 b .i64 with
  | some n =>
    refine ⟨n, w, run_convert_float_int w _ _ _ _ _ _ (by rw [Tryz.underlying58]; rfl) Tryz.underlying3 h, ?_, ?_, Below.refl _ _⟩
    all_goals
      have := floatToIntVal_wf h
      simp [Lit.wf, IntKind.min, IntKind.max, IntKind.signed, IntKind.bits] at this
      omega
  | none =>
    have hw : ∀ x : Nat, -9223372036854775808 ≤ IntKind.i64.wrap (x : Int) ∧ IntKind.i64.wrap (x : Int) ≤ 9223372036854775807 := by
      intro x
      rw [IntKind.wrap_i64]
      omega
    unfold floatToIntVal at h
    cases he : (FloatKind.f64.decode b).toInt .zero with
    | none =>
      refine ⟨IntKind.i64.wrap (((Question.floatToInt .f64 b .i64).cut (w.tape w.drawn (.floatToInt .f64 b .i64)) : Nat) : Nat), w.drew, ?_, (hw _).1, (hw _).2, (Below.refl _ _).drew⟩
      simp [convert, run_underlying Tryz.underlying58, run_underlying Tryz.underlying3, Conv.floatToInt, he, Question.forced]
    | some n =>
      rw [he] at h
      simp only at h
      split at h
      · cases h
      · rename_i hc
        refine ⟨IntKind.i64.wrap (((Question.floatToInt .f64 b .i64).cut (w.tape w.drawn (.floatToInt .f64 b .i64)) : Nat) : Nat), w.drew, ?_, (hw _).1, (hw _).2, (Below.refl _ _).drew⟩
        simp [convert, run_underlying Tryz.underlying58, run_underlying Tryz.underlying3, Conv.floatToInt, he]
        rw [if_neg (show ¬ (IntKind.i64.min ≤ n ∧ n ≤ 9223372036854775807) from hc)]
        simp [Question.forced]

end Go.Proofs.YtpoibibbkjogpaaGreatDoor

namespace Go.Proofs.YtpoibibbkjogpaaGreatDoor
open Ieee

theorem least_double : double.leastPlace = -1074 := by decide
theorem binade_double : double.binade = 2 ^ 52 := rfl
theorem infRung_double : double.infRung = 2047 * 2 ^ 52 := by decide
theorem sign_double : double.signWeight = 2 ^ 63 := rfl

/-- 'n * 2 ^ p', rounded. -/
def fl (n : Int) (p : Int) : Nat := double.nearest (decide (n < 0)) n.natAbs p

theorem cut_zero (w : Toward) (neg : Bool) (n : Nat) : w.cut neg n 0 = n := by
  unfold Toward.cut
  have h1 : (1 : Nat) <<< min 0 (n.log2 + 2) = 1 := by simp
  simp only [h1]
  cases w <;> simp [Nat.mod_one]

theorem pow_split {L : Nat} (h : L ≤ 52) : 2 ^ L * 2 ^ (52 - L) = 2 ^ 52 := by rw [← Nat.pow_add]; congr 1; omega

theorem log_le {m : Nat} (h0 : 0 < m) (h : m < 2 ^ 53) : m.log2 ≤ 52 := by
  have := (Nat.log2_lt (by omega : m ≠ 0) (k := 53)).2 h
  omega

theorem kept_bounds {m : Nat} (h0 : 0 < m) (h : m < 2 ^ 53) : 2 ^ 52 ≤ m * 2 ^ (52 - m.log2) ∧ m * 2 ^ (52 - m.log2) < 2 ^ 53 := by
  have hL := log_le h0 h
  have h1 : 2 ^ m.log2 ≤ m := Nat.log2_self_le (by omega)
  have h2 : m < 2 ^ (m.log2 + 1) := Nat.lt_log2_self
  have e := pow_split hL
  constructor
  · rw [← e]; exact Nat.mul_le_mul_right _ h1
  · have : m * 2 ^ (52 - m.log2) < 2 ^ (m.log2 + 1) * 2 ^ (52 - m.log2) := Nat.mul_lt_mul_of_pos_right h2 (Nat.two_pow_pos _)
    rw [Nat.pow_succ, Nat.mul_assoc, Nat.mul_comm 2, ← Nat.mul_assoc, e] at this
    omega

theorem near_word (neg : Bool) {m : Nat} (h0 : 0 < m) (h : m < 2 ^ 53) {p : Int} (hp : -900 ≤ p) (hp' : p ≤ 900) :
    double.nearest neg m p = double.word neg ((p + m.log2 + 1022).toNat * 2 ^ 52 + m * 2 ^ (52 - m.log2)) := by
  have hL := log_le h0 h
  have hk := kept_bounds h0 h
  unfold Format.nearest
  rw [if_neg (by omega)]
  have e1 : max (p + (m.log2 : Int) - (double.fractionBits : Int)) (-1074) = p + m.log2 - 52 := by
    show max (p + (m.log2 : Int) - (52 : Int)) (-1074) = _
    omega
  simp only [least_double, binade_double, infRung_double, e1]
  have e2 : (p - (p + (m.log2 : Int) - 52)).toNat = 52 - m.log2 := by omega
  have e3 : (p + (m.log2 : Int) - 52 - p).toNat = 0 := by omega
  have e4 : (p + (m.log2 : Int) - 52 - -1074).toNat = (p + m.log2 + 1022).toNat := by omega
  rw [e2, e3, e4, cut_zero, Nat.shiftLeft_eq]
  congr 1
  apply Nat.min_eq_left
  have : (p + m.log2 + 1022).toNat ≤ 2000 := by omega
  generalize (p + m.log2 + 1022).toNat = a at this ⊢
  omega

theorem word_read (neg : Bool) {a f : Nat} (ha : a + 1 < 2047) (hf : f < 2 ^ 52) :
    double.read (double.word neg (a * 2 ^ 52 + (2 ^ 52 + f))) = .number neg (2 ^ 52 + f) (a - 1074) := by
  have e0 : a * 2 ^ 52 + (2 ^ 52 + f) = (a + 1) * 2 ^ 52 + f := by omega
  have hlt : (a + 1) * 2 ^ 52 + f < 2 ^ 63 := by omega
  rw [e0]
  have hs : double.word neg ((a + 1) * 2 ^ 52 + f) / double.signWeight % 2 = neg.toNat ∧ double.word neg ((a + 1) * 2 ^ 52 + f) % double.signWeight = (a + 1) * 2 ^ 52 + f := by
    rw [sign_double]
    unfold Format.word
    rw [sign_double]
    cases neg <;> simp <;> omega
  unfold Format.read
  simp only [hs.1, hs.2, binade_double, infRung_double]
  rw [if_neg (by omega), if_pos (by omega)]
  have d1 : ((a + 1) * 2 ^ 52 + f) % 2 ^ 52 = f := by omega
  have d2 : ((a + 1) * 2 ^ 52 + f) / 2 ^ 52 = a + 1 := by omega
  rw [d1, d2, least_double]
  have e1 : (neg.toNat == 1) = neg := by cases neg <;> rfl
  rw [e1]
  congr 1

theorem near_read (neg : Bool) {m : Nat} (h0 : 0 < m) (h : m < 2 ^ 53) {p : Int} (hp : -900 ≤ p) (hp' : p ≤ 900) :
    double.read (double.nearest neg m p) = .number neg (m * 2 ^ (52 - m.log2)) (p - (52 - m.log2)) := by
  have hL := log_le h0 h
  have hk := kept_bounds h0 h
  rw [near_word neg h0 h hp hp']
  obtain ⟨f, hf⟩ : ∃ f, m * 2 ^ (52 - m.log2) = 2 ^ 52 + f := ⟨_, (Nat.add_sub_cancel' hk.1).symm⟩
  rw [hf] at hk ⊢
  rw [word_read neg (by omega) (by omega)]
  congr 1
  omega

theorem zero_read (neg : Bool) (p : Int) : double.read (double.nearest neg 0 p) = .number neg 0 (-1074) := by
  unfold Format.nearest
  rw [if_pos rfl]
  cases neg <;> decide

/-- What is rounded is no NaN. -/
theorem word_ok (neg : Bool) {r : Nat} (h : r ≤ 2047 * 2 ^ 52) : double.order (double.word neg r) (double.word neg r) = some .eq := by
  have hs : double.word neg r % double.signWeight = r := by
    rw [sign_double]
    unfold Format.word
    rw [sign_double]
    cases neg <;> simp <;> omega
  unfold Format.order Format.read
  simp only [hs, binade_double, infRung_double]
  split
  · simp [Datum.order]
  · split
    · simp [Datum.order]
    · rw [if_pos (by omega)]
      simp [Datum.order]

theorem near_ok (neg : Bool) (m : Nat) (p : Int) : double.order (double.nearest neg m p) (double.nearest neg m p) = some .eq := by
  unfold Format.nearest
  split
  · exact word_ok neg (by omega)
  · exact word_ok neg (by rw [infRung_double]; exact Nat.min_le_right _ _)

theorem two_read : double.read 4611686018427387904 = .number false (2 ^ 52) (-51) := by decide

/-- An odd Half, halved: no NaN. -/
theorem half_some (h : Int) (h1 : -9007199254740992 < h) (h2 : h < 9007199254740992) (h0 : h ≠ 0) :
    ∃ r, FloatKind.f64.format.div (FloatKind.f64.nearest h) 4611686018427387904 = some r := by
  show ∃ r, double.div (double.nearest (decide (h < 0)) h.natAbs 0) 4611686018427387904 = some r
  unfold Format.div
  rw [near_read (decide (h < 0)) (by omega) (by omega) (by omega) (by omega), two_read]
  exact ⟨_, rfl⟩

end Go.Proofs.YtpoibibbkjogpaaGreatDoor
