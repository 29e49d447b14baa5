/- How the program's values read: impl.Value as a tree (V), a Go value of type any as a tree (J). No function is walked here. -/
/- Small facts on worlds. No program in sight. -/
/- How a Go value of type any reads as a tree (J). No function is walked here. -/
/- A region that draws its order, of which all operations but the last few only read: one walk, in the order of the text, by the cheap step. -/
/- Contracts of impl.listToGo, impl.mapToGo, impl.toGo. -/
/- The order of strings, byte by byte; and that entries put in rising order stand in that order. No program in sight. -/
import Derived.WalkKit
import Derived.Maps.OwnSet
import Derived.Maps.RangeWalk
import Derived.Maps.AppendAt
import Derived.Lib.Hide
import Derived.Test.YtiphcojcdegnkaaGreatDoorProg
import Derived.Test.YtiphcojcdegnkaaGreatDoorM01
import Derived.Laws.Rows
import Derived.Laws.ResultCell
import Derived.Deep.OwnRows
import Derived.StillTail
import Derived.BigQuiet
import Derived.Deep.DeepCutAuto
import Derived.Deep.CutBlock
namespace Go.Proofs.YtiphcojcdegnkaaGreatDoor
open Go Go.RowKit Go.Maps

def reach : Nat := 140737488351232

/-- The cells cs stand at b, o. -/
def CellsAt (w : World) (b o : Nat) (cs : List Value) : Prop := ∀ j (h : j < cs.length), w.cell? ⟨b, o + j, none⟩ = some cs[j]

theorem CellsAt.below {w w' : World} {B b o : Nat} {cs : List Value} (h : CellsAt w b o cs) (hb : Below B w w') (hlt : b < B) : CellsAt w' b o cs :=
  fun j hj => (hb.cell (p := ⟨b, o + j, none⟩) hlt).trans (h j hj)

inductive RepV (w : World) (B : Nat) : V → List Value → Prop
  | mk {k h : Int} {t : ByteArray} {l : List V} {ks : List ByteArray} {vs : List V} {la ka va : Option Addr} {lc kc vc : Nat} (C D : Nat → List Value)
    (hk : -9223372036854775808 ≤ k ∧ k ≤ 9223372036854775807) (hh : -9223372036854775808 ≤ h ∧ h ≤ 9223372036854775807)
    (ht : t.size ≤ 140737488351232) (hl : l.length * 104 ≤ 140737488351232) (hks : ks.length * 16 ≤ 140737488351232) (hvs : vs.length * 104 ≤ 140737488351232)
    (hs : ∀ s ∈ ks, s.size ≤ 140737488351232)
    (cl : 0 < l.length → ∃ b o, la = some ⟨b, o, none⟩ ∧ b < B ∧ ∀ i, i < l.length → CellsAt w b (o + i * 6) (C i))
    (rl : ∀ i (hi : i < l.length), RepV w B l[i] (C i))
    (ck : 0 < ks.length → ∃ b o, ka = some ⟨b, o, none⟩ ∧ b < B ∧ ∀ i (hi : i < ks.length), w.cell? ⟨b, o + i, none⟩ = some (.string ks[i]))
    (cv : 0 < vs.length → ∃ b o, va = some ⟨b, o, none⟩ ∧ b < B ∧ ∀ i, i < vs.length → CellsAt w b (o + i * 6) (D i))
    (rv : ∀ i (hi : i < vs.length), RepV w B vs[i] (D i)) (hlc : l.length ≤ lc) :
    RepV w B (.mk k h t l ks vs) [.int .i64 k, .int .i64 h, .string t, .slice la l.length lc, .slice ka ks.length kc, .slice va vs.length vc]

theorem RepV.carry {w w' : World} {B B' : Nat} (hb : Below B w w') (hB : B ≤ B') {v : V} {cs : List Value} (h : RepV w B v cs) : RepV w' B' v cs := by
  induction h with
  | mk C D hk hh ht hl hks hvs hs cl _ ck cv _ hlc ihl ihv =>
    refine .mk C D hk hh ht hl hks hvs hs ?_ ihl ?_ ?_ ihv hlc
    · intro h0
      obtain ⟨b, o, e, hlt, hc⟩ := cl h0
      exact ⟨b, o, e, by omega, fun i hi => (hc i hi).below hb hlt⟩
    · intro h0
      obtain ⟨b, o, e, hlt, hc⟩ := ck h0
      exact ⟨b, o, e, by omega, fun i hi => (hb.cell (p := ⟨b, o + i, none⟩) hlt).trans (hc i hi)⟩
    · intro h0
      obtain ⟨b, o, e, hlt, hc⟩ := cv h0
      exact ⟨b, o, e, by omega, fun i hi => (hc i hi).below hb hlt⟩

theorem RepV.mono {w : World} {B B' : Nat} (hB : B ≤ B') {v : V} {cs : List Value} (h : RepV w B v cs) : RepV w B' v cs := h.carry (Below.refl _ _) hB

end Go.Proofs.YtiphcojcdegnkaaGreatDoor

namespace Go.Proofs.YtiphcojcdegnkaaGreatDoor
open Go Go.RowKit Go.Deep

theorem at_alloc (w : World) (o : Obj) : (w.alloc o).heap[w.heap.size]? = some o := by
  show (w.heap.push o)[w.heap.size]? = _
  simp
theorem at_alloc2 (w : World) (o o' : Obj) : ((w.alloc o).alloc o').heap[w.heap.size + 1]? = some o' := by
  have := at_alloc (w.alloc o) o'
  simpa using this
theorem of_block6 {w : World} {b : Nat} {c0 c1 c2 c3 c4 c5 : Value} {t : TypeId} (h : w.heap[b]? = some (.cells #[c0, c1, c2, c3, c4, c5] t)) :
    w.cell? ⟨b, 0, none⟩ = some c0 ∧ w.cell? ⟨b, 1, none⟩ = some c1 ∧ w.cell? ⟨b, 2, none⟩ = some c2 ∧ w.cell? ⟨b, 3, none⟩ = some c3 ∧ w.cell? ⟨b, 4, none⟩ = some c4 ∧ w.cell? ⟨b, 5, none⟩ = some c5 := by
  simp [World.cell?, h]
theorem of_block7 {w : World} {b : Nat} {c0 c1 c2 c3 c4 c5 c6 : Value} {t : TypeId} (h : w.heap[b]? = some (.cells #[c0, c1, c2, c3, c4, c5, c6] t)) :
    w.cell? ⟨b, 0, none⟩ = some c0 ∧ w.cell? ⟨b, 1, none⟩ = some c1 ∧ w.cell? ⟨b, 2, none⟩ = some c2 ∧ w.cell? ⟨b, 3, none⟩ = some c3 ∧ w.cell? ⟨b, 4, none⟩ = some c4 ∧ w.cell? ⟨b, 5, none⟩ = some c5 ∧ w.cell? ⟨b, 6, none⟩ = some c6 := by
  simp [World.cell?, h]
theorem free_block7 {w : World} {b : Nat} {c0 c1 c2 c3 c4 c5 c6 : Value} {t : TypeId} (h : w.heap[b]? = some (.cells #[c0, c1, c2, c3, c4, c5, c6] t)) :
    w.frozen? ⟨b, 0, none⟩ = false ∧ w.frozen? ⟨b, 1, none⟩ = false ∧ w.frozen? ⟨b, 2, none⟩ = false ∧ w.frozen? ⟨b, 3, none⟩ = false ∧ w.frozen? ⟨b, 4, none⟩ = false ∧ w.frozen? ⟨b, 5, none⟩ = false ∧ w.frozen? ⟨b, 6, none⟩ = false := by
  simp [World.frozen?, h]
theorem set_row7 {w : World} {b : Nat} {c0 c1 c2 c3 c4 c5 c6 : Value} {t : TypeId} (h : w.heap[b]? = some (.cells #[c0, c1, c2, c3, c4, c5, c6] t)) (v0 v1 v2 v3 v4 v5 v6 : Value) :
    (((((((w.setCell ⟨b, 0, none⟩ v0).setCell ⟨b, 1, none⟩ v1).setCell ⟨b, 2, none⟩ v2).setCell ⟨b, 3, none⟩ v3).setCell ⟨b, 4, none⟩ v4).setCell ⟨b, 5, none⟩ v5).setCell ⟨b, 6, none⟩ v6).heap[b]? = some (.cells #[v0, v1, v2, v3, v4, v5, v6] t) := by
  have h0 := heap_setCell_same _ b 0 _ t v0 h
  have h1 := heap_setCell_same _ b 1 _ t v1 h0
  have h2 := heap_setCell_same _ b 2 _ t v2 h1
  have h3 := heap_setCell_same _ b 3 _ t v3 h2
  have h4 := heap_setCell_same _ b 4 _ t v4 h3
  have h5 := heap_setCell_same _ b 5 _ t v5 h4
  have h6 := heap_setCell_same _ b 6 _ t v6 h5
  simpa using h6
theorem below_alloc1 (w : World) (o : Obj) : Below w.heap.size w (w.alloc o) := (Below.refl _ _).alloc (Nat.le_refl _) o
theorem below_alloc2 (w : World) (o o' : Obj) : Below w.heap.size w ((w.alloc o).alloc o') := ((Below.refl _ _).alloc (Nat.le_refl _) _).alloc (by simp) _
theorem at_alloc3 (w : World) (o o' o'' : Obj) : Below w.heap.size w (((w.alloc o).alloc o').alloc o'') ∧ (((w.alloc o).alloc o').alloc o'').heap.size = w.heap.size + 3 ∧
    (((w.alloc o).alloc o').alloc o'').heap[w.heap.size + 1]? = some o' ∧ (((w.alloc o).alloc o').alloc o'').heap[w.heap.size + 1 + 1]? = some o'' := by
  refine ⟨(below_alloc2 w o o').alloc (by simp; omega) _, by simp, ?_, ?_⟩
  · rw [heap_alloc_old _ _ (by simp)]
    exact at_alloc2 w o o'
  · have := at_alloc2 (w.alloc o) o' o''
    simpa using this
theorem results_row_tmp {P : Program} {fn : Func} {p u : Tmp} {ty : TypeId} (h : fn.results = #[.cell p ty, .tmp u]) (tmps : Array Value) (w : World) (g : Nat) (t : TypeId) (cs : Array Value) (fr : Nat × Nat) (d : TypeDesc)
    (hp : tmps.getD p undef = .pointer (some ⟨g, 0, none⟩)) (hg : w.heap[g]? = some (.cells cs t fr))
    (hu : P.underlying ty = some d) (hd : (match d with | .struct _ | .array _ _ => true | _ => false) = true) (hi : (P.info? ty).map (·.size) = some cs.size) :
    (results fn tmps).run P w = .ok (.tuple #[.agg cs, tmps.getD u undef]) w := by
  rw [results_cell_tmp h, hp]
  simp [asAddr, run_loadVar_row w g t ty cs fr d hg hu hd hi, Result.andThen]
theorem set_row6 {w : World} {b : Nat} {c0 c1 c2 c3 c4 c5 : Value} {t : TypeId} (h : w.heap[b]? = some (.cells #[c0, c1, c2, c3, c4, c5] t)) (v0 v1 v2 v3 v4 v5 : Value) :
    ((((((w.setCell ⟨b, 0, none⟩ v0).setCell ⟨b, 1, none⟩ v1).setCell ⟨b, 2, none⟩ v2).setCell ⟨b, 3, none⟩ v3).setCell ⟨b, 4, none⟩ v4).setCell ⟨b, 5, none⟩ v5).heap[b]? = some (.cells #[v0, v1, v2, v3, v4, v5] t) := by
  have h0 := heap_setCell_same _ b 0 _ t v0 h
  have h1 := heap_setCell_same _ b 1 _ t v1 h0
  have h2 := heap_setCell_same _ b 2 _ t v2 h1
  have h3 := heap_setCell_same _ b 3 _ t v3 h2
  have h4 := heap_setCell_same _ b 4 _ t v4 h3
  have h5 := heap_setCell_same _ b 5 _ t v5 h4
  simpa using h5
theorem free_block6 {w : World} {b : Nat} {c0 c1 c2 c3 c4 c5 : Value} {t : TypeId} (h : w.heap[b]? = some (.cells #[c0, c1, c2, c3, c4, c5] t)) :
    w.frozen? ⟨b, 0, none⟩ = false ∧ w.frozen? ⟨b, 1, none⟩ = false ∧ w.frozen? ⟨b, 2, none⟩ = false ∧ w.frozen? ⟨b, 3, none⟩ = false ∧ w.frozen? ⟨b, 4, none⟩ = false ∧ w.frozen? ⟨b, 5, none⟩ = false := by
  simp [World.frozen?, h]
theorem below_set6 {a w : World} {B b : Nat} (h : Below B a w) (hb : B ≤ b) (v0 v1 v2 v3 v4 v5 : Value) :
    Below B a ((((((w.setCell ⟨b, 0, none⟩ v0).setCell ⟨b, 1, none⟩ v1).setCell ⟨b, 2, none⟩ v2).setCell ⟨b, 3, none⟩ v3).setCell ⟨b, 4, none⟩ v4).setCell ⟨b, 5, none⟩ v5) :=
  (((((h.setCell hb _).setCell hb _).setCell hb _).setCell hb _).setCell hb _).setCell hb _
theorem at_alloc30 (w : World) (o o' o'' : Obj) : (((w.alloc o).alloc o').alloc o'').heap[w.heap.size]? = some o := by
  rw [heap_alloc_old _ _ (by simp; omega), heap_alloc_old _ _ (by simp)]
  exact at_alloc w o
theorem at_alloc20 (w : World) (o o' : Obj) : ((w.alloc o).alloc o').heap[w.heap.size]? = some o := by
  rw [heap_alloc_old _ _ (by simp)]
  exact at_alloc w o
theorem size_alloc2 (w : World) (o o' : Obj) : ((w.alloc o).alloc o').heap.size = w.heap.size + 2 := by simp
/-- What a callee leaves, handed on. -/
theorem below_next {w w1 w2 : World} (h : Below w.heap.size w w1) (k : Below w1.heap.size w1 w2) : Below w.heap.size w w2 := h.trans (k.mono h.size)
theorem below_grown2 {w w' : World} (h : Below w.heap.size w w') (row : Option Nat) : w.grownBy w' row := ⟨h.os, h.tape, h.output, h.size, fun k hk _ => h.block k hk⟩
theorem size_alloc1 (w : World) (o : Obj) : (w.alloc o).heap.size = w.heap.size + 1 := by simp

end Go.Proofs.YtiphcojcdegnkaaGreatDoor

namespace Go.Proofs.YtiphcojcdegnkaaGreatDoor
open Go Go.RowKit Go.Maps Go.Deep

theorem RepV.shape {w : World} {B : Nat} {v : V} {cs : List Value} (h : RepV w B v cs) : ∃ (k h : Int) (t : ByteArray) (la ka va : Option Addr) (nl cl nk ck nv cv : Nat),
    cs = [.int .i64 k, .int .i64 h, .string t, .slice la nl cl, .slice ka nk ck, .slice va nv cv] := by
  cases h
  exact ⟨_, _, _, _, _, _, _, _, _, _, _, _, rfl⟩

theorem cells6 {w : World} {b o : Nat} {c0 c1 c2 c3 c4 c5 : Value} (h : CellsAt w b o [c0, c1, c2, c3, c4, c5]) :
    w.cell? ⟨b, o, none⟩ = some c0 ∧ w.cell? ⟨b, o + 1, none⟩ = some c1 ∧ w.cell? ⟨b, o + 2, none⟩ = some c2 ∧ w.cell? ⟨b, o + 3, none⟩ = some c3 ∧ w.cell? ⟨b, o + 4, none⟩ = some c4 ∧ w.cell? ⟨b, o + 5, none⟩ = some c5 :=
  ⟨h 0 (by simp), h 1 (by simp), h 2 (by simp), h 3 (by simp), h 4 (by simp), h 5 (by simp)⟩

/-- How a map's element reads: it is told as it stands. -/
def heldR (v : Value) : Option (DataW Value × List MemPlace) := some (.held v, [])

/-- A map's entries as its reading has them. -/
def entries (m : List (ByteArray × J)) (E : Nat → Value) : List (Lit × DataW Value) := m.mapIdx fun i p => (Lit.string p.1.data.toList, DataW.held (E i))

/-- Block r is a Go map that holds just these entries. -/
def MapAt (w : World) (r : Nat) (m : List (ByteArray × J)) (E : Nat → Value) : Prop := ∃ n, n ≤ 140737488351232 ∧ w.ownsMap Tryz.prog 9 heldR r n (.map (entries m E))

/-- The greatest capacity of an array (where gojq.update copies arrays, as great as their length). -/
def capMax : Nat := 8796093021952

/-- The value v of type any is the tree j, in w; the blocks that it lies in are in S, each for one place of the tree alone. -/
inductive RepJ (w : World) : (Nat → Prop) → J → Value → Prop
  | null (S : Nat → Prop) : RepJ w S .null .nilIface
  | bool (S : Nat → Prop) (b : Bool) : RepJ w S (.bool b) (.iface 4 (.bool b))
  | int (S : Nat → Prop) (n : Int) (h : -9223372036854775808 ≤ n ∧ n ≤ 9223372036854775807) : RepJ w S (.int n) (.iface 3 (.int .i64 n))
  | flt (S : Nat → Prop) (x : Nat) : RepJ w S (.flt x) (.iface 64 (.float .f64 x))
  | str (S : Nat → Prop) (s : ByteArray) (h : s.size ≤ 140737488351232) : RepJ w S (.str s) (.iface 9 (.string s))
  | arr {S : Nat → Prop} {l : List J} {a : Option Addr} {c : Nat} (f : Nat → Value) (b o N : Nat) (F : Nat → Nat → Prop) (hl : l.length * 16 ≤ 140737488351232) (hc : l.length ≤ c)
      (ca : 0 < l.length → a = some ⟨b, o, none⟩ ∧ S b ∧ w.rowIs b 20 N f ∧ o + l.length ≤ N)
      (own : ∀ i, i < l.length → ¬ F i b) (sub : ∀ i k, i < l.length → F i k → S k) (dis : ∀ i j k, i < j → j < l.length → F i k → F j k → False)
      (ra : ∀ i (hi : i < l.length), RepJ w (F i) l[i] (f (o + i))) (hcb : c ≤ capMax) : RepJ w S (.arr l) (.iface 65 (.slice a l.length c))
  | obj {S : Nat → Prop} {m : List (ByteArray × J)} {r : Nat} (E : Nat → Value) (F : Nat → Nat → Prop) (hr : S r) (hm : MapAt w r m E) (hs : ∀ p ∈ m, p.1.size ≤ 140737488351232)
      (own : ∀ i, i < m.length → ¬ F i r) (sub : ∀ i k, i < m.length → F i k → S k) (dis : ∀ i j k, i < j → j < m.length → F i k → F j k → False)
      (rm : ∀ i (hi : i < m.length), RepJ w (F i) m[i].2 (E i)) : RepJ w S (.obj m) (.iface 68 (.map (some r)))
  | hole (S : Nat → Prop) : RepJ w S .hole (.iface 158 (.agg #[]))

theorem MapAt.carry {w w' : World} {r : Nat} {m : List (ByteArray × J)} {E : Nat → Value} (h : MapAt w r m E) (hr : w'.heap[r]? = w.heap[r]?) : MapAt w' r m E := by
  obtain ⟨n, hn, es, clock, hbk, F, hs, hD⟩ := h
  exact ⟨n, hn, es, clock, hr.trans hbk, F, hs, hD⟩

theorem rowIs_carry {w w' : World} {b t n : Nat} {f : Nat → Value} (h : w.rowIs b t n f) (hr : w'.heap[b]? = w.heap[b]?) : w'.rowIs b t n f := by
  obtain ⟨c, hb, hn, hc⟩ := h
  exact ⟨c, hr.trans hb, hn, hc⟩

theorem RepJ.carry {w w' : World} {S : Nat → Prop} {j : J} {v : Value} (h : RepJ w S j v) (hS : ∀ k, S k → w'.heap[k]? = w.heap[k]?) : RepJ w' S j v := by
  induction h with
  | null S => exact .null S
  | bool S b => exact .bool S b
  | int S n h => exact .int S n h
  | flt S x => exact .flt S x
  | str S s h => exact .str S s h
  | arr f b o N F hl hc ca own sub dis _ hcb ih =>
    refine .arr f b o N F hl hc ?_ own sub dis (fun i hi => ih i hi (fun k hk => hS k (sub i k hi hk))) hcb
    intro h0
    obtain ⟨e, hb, hrow, hN⟩ := ca h0
    exact ⟨e, hb, rowIs_carry hrow (hS _ hb), hN⟩
  | obj E F hr hm hs own sub dis _ ih => exact .obj E F hr (hm.carry (hS _ hr)) hs own sub dis (fun i hi => ih i hi (fun k hk => hS k (sub i k hi hk)))
  | hole S => exact .hole S

theorem RepJ.mono {w : World} {S S' : Nat → Prop} {j : J} {v : Value} (h : RepJ w S j v) (hS : ∀ k, S k → S' k) : RepJ w S' j v := by
  cases h with
  | null => exact .null _
  | bool _ b => exact .bool _ b
  | int _ n h => exact .int _ n h
  | flt _ x => exact .flt _ x
  | str _ s h => exact .str _ s h
  | arr f b o N F hl hc ca own sub dis ra hcb => exact .arr f b o N F hl hc (fun h0 => let ⟨e, hb, r⟩ := ca h0; ⟨e, hS _ hb, r⟩) own (fun i k hi hk => hS _ (sub i k hi hk)) dis ra hcb
  | obj E F hr hm hs own sub dis rm => exact .obj E F (hS _ hr) hm hs own (fun i k hi hk => hS _ (sub i k hi hk)) dis rm
  | hole => exact .hole _

theorem RepJ.under {w w' : World} {B : Nat} {S : Nat → Prop} {j : J} {v : Value} (h : RepJ w S j v) (hb : Below B w w') (hS : ∀ k, S k → k < B) : RepJ w' S j v :=
  h.carry fun k hk => hb.block k (hS k hk)

theorem RepJ.form {w : World} {S : Nat → Prop} {j : J} {v : Value} (h : RepJ w S j v) : v = .nilIface ∨ ∃ t y, v = .iface t y := by
  cases h <;> first | exact .inl rfl | exact .inr ⟨_, _, rfl⟩

def Ret (R : Value → World → Prop) (e : Ending) (w : World) : Prop := ∃ v, e = .returned v ∧ R v w
def EntersF (f : Nat) : Prop := ∀ args w, (callFunc f args).run Tryz.prog w = .ok (.enter f args) w

end Go.Proofs.YtiphcojcdegnkaaGreatDoor

namespace Go.Proofs.YtiphcojcdegnkaaGreatDoor
open Go

theorem still_of_quiet {P : Program} {o : Oper} {a : Act} {w : World} {K : Act → Prop} (h : o.quiet P a (fun x => x = w) K) : o.still P a w K := by
  obtain ⟨v, h1, h2⟩ := h
  have h1 := h1 w rfl
  unfold Oper.quietAt at h1
  unfold Oper.still
  generalize (execOp a.eval o).run P w = r at *
  cases r with
  | halt x w' => simp [Oper.quietUpon] at h1
  | ok n w' =>
    cases n <;> simp only [Oper.quietUpon, Oper.stillUpon] at h1 ⊢
    all_goals first
      | (obtain ⟨e1, e2⟩ := h1; subst e1; subst e2; first | exact ⟨trivial, h2⟩ | exact ⟨rfl, h2⟩ | exact h2)
      | (obtain ⟨e1, e2⟩ := h1; subst e1; first | exact ⟨rfl, v, e2, h2⟩ | exact ⟨trivial, v, e2, h2⟩ | exact ⟨v, e2, h2⟩)
      | exact h1.elim

theorem wpStill_of_quiet {P : Program} {ops : Array Oper} {Q : Act → Prop} {w : World} : ∀ (l : List Oper) (a : Act), wpQuiet P ops (fun x => x = w) Q l a → wpStill P ops w Q l a
  | [], _, h => h
  | o :: rest, a, h => by
    unfold wpQuiet at h
    unfold wpStill
    split
    · rename_i hw
      rw [if_pos hw] at h
      exact Oper.still_mono (fun a h => wpStill_of_quiet rest a h) (still_of_quiet h)
    · rename_i hw
      rw [if_neg hw] at h
      exact wpStill_of_quiet rest _ h

theorem wp_region_tail {P : Program} {id : Nat} {Q : Exit → Act → World → Prop} {a : Act} {w : World} {l : List Oper} (n : Nat) (hm : P.follows .mixedOrders = true) (hB : Region.lexTailB .any l.toArray n = true)
    (h : wpQuiet P l.toArray (fun x => x = w.drew) (fun a' => wpList P l.toArray Q (l.drop n) a' w.drew) (l.take n) a) : (Code.region id l.toArray true).wp P Q a w :=
  wp_region_still_tail n hm hB (wpStill_of_quiet _ _ h)

end Go.Proofs.YtiphcojcdegnkaaGreatDoor

namespace Go.Proofs.YtiphcojcdegnkaaGreatDoor
open Go Go.RowKit Go.Maps Go.Deep

def Fresh (lo hi k : Nat) : Prop := lo ≤ k ∧ k < hi

def ToGoPost (w : World) (j : J) (e : Ending) (w' : World) : Prop :=
  ∃ x, e = .returned (.tuple #[x, .bool true]) ∧ RepJ w' (Fresh w.heap.size w'.heap.size) j x ∧ Below w.heap.size w w'

def ToGoOK (w0 : World) (B : Nat) (v : V) (cs : List Value) : Prop :=
  ∀ w, Below B w0 w → B ≤ w.heap.size → Calls Tryz.prog 18 #[.agg cs.toArray] w (ToGoPost w (toJ v))

/-- The first n elements of the new row are there. -/
def LInv (H : Nat) (l : List V) (n : Nat) (wr : World) : Prop :=
  ∃ (f : Nat → Value) (F : Nat → Nat → Prop), wr.rowIs H 20 l.length f ∧ (∀ i k, i < n → F i k → H < k ∧ k < wr.heap.size) ∧
    (∀ i j k, i < j → j < n → F i k → F j k → False) ∧ ∀ i (hi : i < l.length), i < n → RepJ wr (F i) (toJ l[i]) (f i)

theorem LInv.step {H : Nat} {l : List V} {n : Nat} {wr w1 w2 : World} {x : Value} (h : LInv H l n wr) (hH : H < wr.heap.size) (hn : n < l.length) (hb : Below wr.heap.size wr w1) (hb2 : Below w1.heap.size w1 w2)
    (hx : RepJ w2 (Fresh w1.heap.size w2.heap.size) (toJ l[n]) x) : LInv H l (n + 1) (w2.setCell ⟨H, n, none⟩ x) := by
  obtain ⟨f, F, hrow, hF, hd, hr⟩ := h
  have hb3 := hb.trans (hb2.mono hb.size)
  have s1 := hb.size
  have s2 := hb2.size
  have hrow2 : w2.rowIs H 20 l.length f := rowIs_carry hrow (hb3.block H hH)
  have hsz : (w2.setCell ⟨H, n, none⟩ x).heap.size = w2.heap.size := by simp [World.setCell]
  refine ⟨fun i => if i = n then x else f i, fun i => if i = n then Fresh w1.heap.size w2.heap.size else F i, hrow2.set n x, ?_, ?_, ?_⟩
  · intro i k hi hk
    rw [hsz]
    by_cases e : i = n
    · simp only [e, if_true] at hk
      exact ⟨by have := hk.1; omega, hk.2⟩
    · simp only [e, if_false] at hk
      have := hF i k (by omega) hk
      omega
  · intro i j k hij hj hik hjk
    by_cases e : j = n
    · simp only [e, if_true] at hjk
      have e2 : i ≠ n := by omega
      simp only [e2, if_false] at hik
      have := hF i k (by omega) hik
      have := hjk.1
      omega
    · have e2 : i ≠ n := by omega
      simp only [e, if_false] at hjk
      simp only [e2, if_false] at hik
      exact hd i j k hij (by omega) hik hjk
  · intro i hi hin
    by_cases e : i = n
    · subst e
      simp only [if_true]
      exact hx.carry fun k hk => Below.heap_setCell _ _ _ _ (by have := hk.1; simp; omega)
    · simp only [e, if_false]
      refine (hr i hi (by omega)).carry fun k hk => ?_
      have := hF i k (by omega) hk
      exact (Below.heap_setCell _ _ _ _ (by simp; omega)).trans (hb3.block k this.2)

theorem toJL_len (l : List V) : (toJL l).length = l.length := by rw [toJL_eq, List.length_map]
theorem toJL_get (l : List V) (i : Nat) (hi : i < l.length) : (toJL l)[i]'(by rw [toJL_len]; exact hi) = toJ l[i] := by simp [toJL_eq]

theorem LInv.done {H : Nat} {l : List V} {wr : World} (hl : l.length * 104 ≤ 140737488351232) (hH : H < wr.heap.size) (h : LInv H l l.length wr) :
    RepJ wr (Fresh H wr.heap.size) (.arr (toJL l)) (.iface 65 (.slice (some ⟨H, 0, none⟩) l.length l.length)) := by
  obtain ⟨f, F, hrow, hF, hd, hr⟩ := h
  have e := toJL_len l
  have R := RepJ.arr (w := wr) (S := Fresh H wr.heap.size) (l := toJL l) (a := some ⟨H, 0, none⟩) (c := l.length) f H 0 l.length F (by omega) (by omega)
    (fun _ => ⟨rfl, ⟨Nat.le_refl _, hH⟩, hrow, by omega⟩) (fun i hi hk => by have := hF i H (by omega) hk; omega)
    (fun i k hi hk => by have := hF i k (by omega) hk; exact ⟨by omega, this.2⟩) (fun i j k hij hj => hd i j k hij (by omega))
    (fun i hi => by rw [toJL_get l i (by omega), Nat.zero_add]; exact hr i (by omega) (by omega)) (by unfold capMax; omega)
  rw [e] at R
  exact R

def LLoop (w : World) (H : Nat) (l : List V) (i : Value) (wr : World) : Prop :=
  ∃ n : Nat, n ≤ l.length ∧ i = .int .i64 (n : Nat) ∧ Below H w wr ∧ H < wr.heap.size ∧ LInv H l n wr

theorem info_any : (Tryz.prog.info? 20).map (fun i => (i.zero, i.size, i.bytes)) = some (some .nilIface, 1, 16) := by kernel_rfl

def ListPost (w : World) (l : List V) (e : Ending) (w' : World) : Prop :=
  ∃ a c, e = .returned (.tuple #[.slice a l.length c, .bool true]) ∧ RepJ w' (Fresh w.heap.size w'.heap.size) (.arr (toJL l)) (.iface 65 (.slice a l.length c)) ∧ Below w.heap.size w w'

set_option maxHeartbeats 4000000 in
set_option maxRecDepth 100000 in
theorem list_of (w0 : World) (B : Nat) (l : List V) (la : Option Addr) (lc : Nat) (C : Nat → List Value) (hl : l.length * 104 ≤ 140737488351232)
    (cl : 0 < l.length → ∃ b o, la = some ⟨b, o, none⟩ ∧ b < B ∧ ∀ i, i < l.length → CellsAt w0 b (o + i * 6) (C i)) (rl : ∀ i (hi : i < l.length), RepV w0 B l[i] (C i))
    (ih : ∀ i (hi : i < l.length), ToGoOK w0 B l[i] (C i)) (w : World) (hbel : Below B w0 w) (hB : B ≤ w.heap.size) :
    Calls Tryz.prog 28 #[.slice la l.length lc] w (ListPost w l) := by
  have hmk := run_make_row' (P := Tryz.prog) 65 20 .nilIface 16 Tryz.underlying65 info_any rfl .i64 .i64 l.length (by omega) (by omega)
  have Hcl := Lib.hid cl; clear cl
  have Hih := Lib.hid ih; clear ih
  have Hbel := Lib.hid hbel; clear hbel
  have hst : LInv w.heap.size l 0 (w.alloc (.cells (madeCells #[.nilIface] l.length) 20)) :=
    ⟨_, fun _ _ => False, World.rowIs_made w .nilIface l.length 20, fun _ _ h => by omega, fun _ _ _ _ h => by omega, fun _ _ h => by omega⟩
  have Hst := Lib.hid hst; clear hst
  go_enter Tryz.func28, Tryz.ntmps28
  go_wp2_with fail
  go_loopw [14] (fun i wr => LLoop w w.heap.size l i wr) (fun i _ => l.length - (intOf i).toNat)
  case atStart => exact ⟨0, Nat.zero_le _, rfl, below_alloc1 _ _, by simp, Hst.out⟩
  case round =>
    obtain ⟨n, hn, rfl, hb, hH, hinv⟩ := hrel
    have Hinv := Lib.hid hinv; clear hinv
    by_cases hn' : n < l.length
    · obtain ⟨lb, lo, rfl, hlb, hcel⟩ := Hcl.out (by omega)
      have hb0 : Below B w0 wr := Hbel.out.trans (hb.mono hB)
      have cc := (hcel n hn').below hb0 hlb
      have hbx : Below wr.heap.size wr (wr.alloc (.cells (C n).toArray 26)) := below_alloc1 _ _
      have ih := Hih.out n hn' _ (hb0.trans (hbx.mono (by have := hb.size; omega))) (by have := hb.size; have := hbx.size; omega)
      obtain ⟨k', h', t', la', ka', va', nl', cl', nk', ck', nv', cv', hCn⟩ := (rl n hn').shape
      rw [hCn] at cc ih hbx
      obtain ⟨y0, y1, y2, y3, y4, y5⟩ := cells6 cc
      have HI := Lib.hid ih
      clear ih hCn cc hcel hb0
      go_wp2_with fail
      refine HI.out.mono ?_
      rintro e w2 ⟨x, rfl, hx, hb2⟩
      have s1 := hbx.size
      have s2 := hb2.size
      have hb3 := hb.trans ((hbx.mono hb.size).trans (hb2.mono (by have := hb.size; omega)))
      have hnext := Lib.hid (Hinv.out.step hH hn' hbx hb2 hx)
      obtain ⟨hcw, hfw⟩ : (∃ u, w2.cell? ⟨w.heap.size, n, none⟩ = some u) ∧ w2.frozen? ⟨w.heap.size, n, none⟩ = false := by
        obtain ⟨f, F, hrow, _⟩ := Hinv.out
        have h2 := rowIs_carry hrow ((hb2.block w.heap.size (by omega)).trans (hbx.block w.heap.size hH))
        exact ⟨⟨_, h2.cell hn'⟩, h2.frozen _⟩
      obtain ⟨u, hcw⟩ := hcw
      have hbs := Lib.hid (hb3.setCell (p := ⟨w.heap.size, n, none⟩) (Nat.le_refl _) x)
      have hsz : (w2.setCell ⟨w.heap.size, n, none⟩ x).heap.size = w2.heap.size := by simp [World.setCell]
      have Hsz := Lib.hid hsz; clear hsz
      rcases hx.form with rfl | ⟨ty, y, rfl⟩
      all_goals
        clear hx
        go_wp2_with fail
        go_roundw
        case rel => exact ⟨n + 1, by omega, by go_num, hbs.out, by rw [Hsz.out]; omega, hnext.out⟩
        case measure => simp [intOf]; omega
    · go_wp2_with fail
      have e : n = l.length := by omega
      refine bodyPost_ret (results_tmp2 rfl _ _ _) rfl ⟨_, _, rfl, LInv.done hl hH (e ▸ Hinv.out), hb⟩

end Go.Proofs.YtiphcojcdegnkaaGreatDoor

namespace Go.Proofs.YtiphcojcdegnkaaGreatDoor
open Go Go.RowKit Go.Maps

theorem u8_lt (a b : UInt8) : a < b ↔ a.toNat < b.toNat := UInt8.lt_iff_toNat_lt
theorem u8_eq (a b : UInt8) : a = b ↔ a.toNat = b.toNat := ⟨fun h => by rw [h], fun h => UInt8.toNat_inj.1 h⟩

theorem bl_cons (a b : UInt8) (x y : List UInt8) : Op.bytesLess (a :: x) (b :: y) = true ↔ a.toNat < b.toNat ∨ (a = b ∧ Op.bytesLess x y = true) := by
  simp [Op.bytesLess, u8_lt]

theorem bl_irrefl : ∀ a : List UInt8, Op.bytesLess a a = false
  | [] => rfl
  | a :: x => by
    rw [← Bool.not_eq_true, bl_cons]
    simp [bl_irrefl x]
theorem bl_asymm : ∀ a b : List UInt8, Op.bytesLess a b = true → Op.bytesLess b a = false
  | [], [], h => by simp [Op.bytesLess] at h
  | [], _ :: _, _ => rfl
  | _ :: _, [], h => by simp [Op.bytesLess] at h
  | a :: x, b :: y, h => by
    rw [bl_cons] at h
    rw [← Bool.not_eq_true, bl_cons]
    rintro (h' | ⟨rfl, h'⟩)
    · rcases h with h | ⟨rfl, _⟩ <;> omega
    · rcases h with h | ⟨_, h⟩
      · omega
      · rw [bl_asymm x y h] at h'; cases h'
theorem bl_trans : ∀ a b c : List UInt8, Op.bytesLess a b = true → Op.bytesLess b c = true → Op.bytesLess a c = true
  | _, _, [], _, h => by simp [Op.bytesLess] at h
  | _, [], _ :: _, h, _ => by simp [Op.bytesLess] at h
  | [], _ :: _, _ :: _, _, _ => rfl
  | a :: x, b :: y, c :: z, h, h' => by
    rw [bl_cons] at *
    rcases h with h | ⟨rfl, h⟩
    · rcases h' with h' | ⟨rfl, h'⟩ <;> (left; omega)
    · rcases h' with h' | ⟨rfl, h'⟩
      · left; exact h'
      · right; exact ⟨rfl, bl_trans x y z h h'⟩
theorem bl_total : ∀ a b : List UInt8, Op.bytesLess a b = false → Op.bytesLess b a = false → a = b
  | [], [], _, _ => rfl
  | [], _ :: _, h, _ => by simp [Op.bytesLess] at h
  | _ :: _, [], _, h => by simp [Op.bytesLess] at h
  | a :: x, b :: y, h, h' => by
    rw [← Bool.not_eq_true, bl_cons] at h h'
    have e : a = b := by
      rw [u8_eq]
      have h1 : ¬ a.toNat < b.toNat := fun q => h (.inl q)
      have h2 : ¬ b.toNat < a.toNat := fun q => h' (.inl q)
      omega
    subst e
    have e1 : Op.bytesLess x y = false := by rw [← Bool.not_eq_true]; exact fun q => h (.inr ⟨rfl, q⟩)
    have e2 : Op.bytesLess y x = false := by rw [← Bool.not_eq_true]; exact fun q => h' (.inr ⟨rfl, q⟩)
    rw [bl_total x y e1 e2]

theorem before_eq : ∀ a b : List UInt8, bytesBefore a b = Op.bytesLess a b
  | [], [] => rfl
  | [], _ :: _ => rfl
  | _ :: _, [] => rfl
  | a :: x, b :: y => by simp [bytesBefore, Op.bytesLess, before_eq x y]

theorem insert_last {H : Type} (k : List UInt8) (d : DataW H) : ∀ es : List (Lit × DataW H), (∀ p ∈ es, ∃ s, p.1 = .string s ∧ Op.bytesLess s k = true) → DataW.insert (.string k, d) es = es ++ [(.string k, d)]
  | [], _ => rfl
  | p :: r, h => by
    obtain ⟨s, hs, hlt⟩ := h p (by simp)
    unfold DataW.insert
    rw [hs]
    have : (Lit.string k).before (.string s) = false := by
      show bytesBefore k s = false
      rw [before_eq]; exact bl_asymm _ _ hlt
    simp [this, insert_last k d r (fun q hq => h q (by simp [hq]))]

theorem put_last {H : Type} (k : List UInt8) (d : DataW H) (es : List (Lit × DataW H)) (h : ∀ p ∈ es, ∃ s, p.1 = .string s ∧ Op.bytesLess s k = true) : (DataW.map es).put (.string k) d = .map (es ++ [(.string k, d)]) := by
  unfold DataW.put
  have hf : es.filter (fun p => !p.1.sameKey (.string k)) = es := by
    rw [List.filter_eq_self]
    intro p hp
    obtain ⟨s, hs, hlt⟩ := h p hp
    rw [hs]
    show (!(s == k)) = true
    have : s ≠ k := fun e => by rw [e, bl_irrefl] at hlt; cases hlt
    simpa using this
  show DataW.map (DataW.insert (Lit.string k, d) (es.filter (fun p => !p.1.sameKey (.string k)))) = _
  rw [hf, insert_last k d es h]

/-- From neighbours to all. -/
theorem rise_all (ks : List ByteArray) (rise : ∀ i (hi : i + 1 < ks.length), Op.bytesLess ks[i].toList ks[i + 1].toList = true) : ∀ (j : Nat) (hj : j < ks.length) (i : Nat) (hi : i < j), Op.bytesLess (ks[i]'(by omega)).toList ks[j].toList = true := by
  intro j
  induction j with
  | zero => intro _ i hi; omega
  | succ j ih =>
    intro hj i hi
    by_cases e : i = j
    · subst e; exact rise i hj
    · exact bl_trans _ _ _ (ih (by omega) i (by omega)) (rise j hj)

theorem run_makeMap_hint {P : Program} {t k e : TypeId} (ht : P.underlying t = some (.map k e)) (q : IntKind) (n : Int) (w : World) : (Instr.makeMap t (some (.int q n))).run P w = .ok (.map (some w.heap.size)) (w.alloc (.map #[] 0)) := by
  simp [Instr.makeMap, run_underlying ht, asInt, asIntOf, Result.andThen]

end Go.Proofs.YtiphcojcdegnkaaGreatDoor
