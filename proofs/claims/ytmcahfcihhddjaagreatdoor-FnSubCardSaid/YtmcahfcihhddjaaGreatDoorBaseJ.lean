/- How a Go value of type any reads as a tree (J). No function is walked here. -/
import Derived.Test.YtmcahfcihhddjaaGreatDoorBase
import Derived.Deep.OwnRows
import Derived.Test.YtmcahfcihhddjaaGreatDoorWld
namespace Go.Proofs.YtmcahfcihhddjaaGreatDoor
open Go Go.RowKit Go.Maps Go.Deep

theorem RepV.shape {w : World} {B : Nat} {v : V} {cs : List Value} (h : RepV w B v cs) : ∃ (k h : Int) (t : ByteArray) (la ka va : Option Addr) (nl cl nk ck nv cv : Nat),
    cs = [.int .i64 k, .int .i64 h, .string t, .slice la nl cl, .slice ka nk ck, .slice va nv cv] := by
  cases h
  exact ⟨_, _, _, _, _, _, _, _, _, _, _, _, rfl⟩

theorem cells6 {w : World} {b o : Nat} {c0 c1 c2 c3 c4 c5 : Value} (h : CellsAt w b o [c0, c1, c2, c3, c4, c5]) :
    w.cell? ⟨b, o, none⟩ = some c0 ∧ w.cell? ⟨b, o + 1, none⟩ = some c1 ∧ w.cell? ⟨b, o + 2, none⟩ = some c2 ∧ w.cell? ⟨b, o + 3, none⟩ = some c3 ∧ w.cell? ⟨b, o + 4, none⟩ = some c4 ∧ w.cell? ⟨b, o + 5, none⟩ = some c5 :=
  ⟨h 0 (by simp), h 1 (by simp), h 2 (by simp), h 3 (by simp), h 4 (by simp), h 5 (by simp)⟩

/-- How a map's element reads: it is told as it stands. -/
def heldR (v : Value) : Option (DataW Value × List MemPlace) := some (.held v, [])

/-- A map's entries as its reading has them. -/
def entries (m : List (ByteArray × J)) (E : Nat → Value) : List (Lit × DataW Value) := m.mapIdx fun i p => (Lit.string p.1.data.toList, DataW.held (E i))

/-- Block r is a Go map that holds just these entries. -/
def MapAt (w : World) (r : Nat) (m : List (ByteArray × J)) (E : Nat → Value) : Prop := ∃ n, n ≤ 140737488351232 ∧ w.ownsMap Tryz.prog 9 heldR r n (.map (entries m E))

/-- The value v of type any is the tree j, in w; the blocks that it lies in are in S, each for one place of the tree alone. -/
inductive RepJ (w : World) : (Nat → Prop) → J → Value → Prop
  | null (S : Nat → Prop) : RepJ w S .null .nilIface
  | bool (S : Nat → Prop) (b : Bool) : RepJ w S (.bool b) (.iface 4 (.bool b))
  | int (S : Nat → Prop) (n : Int) (h : -9223372036854775808 ≤ n ∧ n ≤ 9223372036854775807) : RepJ w S (.int n) (.iface 3 (.int .i64 n))
  | flt (S : Nat → Prop) (x : Nat) : RepJ w S (.flt x) (.iface 63 (.float .f64 x))
  | str (S : Nat → Prop) (s : ByteArray) (h : s.size ≤ 140737488351232) : RepJ w S (.str s) (.iface 9 (.string s))
  | arr {S : Nat → Prop} {l : List J} {a : Option Addr} {c : Nat} (f : Nat → Value) (b o N : Nat) (F : Nat → Nat → Prop) (hl : l.length * 16 ≤ 140737488351232) (hc : l.length ≤ c)
      (ca : 0 < l.length → a = some ⟨b, o, none⟩ ∧ S b ∧ w.rowIs b 20 N f ∧ o + l.length ≤ N)
      (own : ∀ i, i < l.length → ¬ F i b) (sub : ∀ i k, i < l.length → F i k → S k) (dis : ∀ i j k, i < j → j < l.length → F i k → F j k → False)
      (ra : ∀ i (hi : i < l.length), RepJ w (F i) l[i] (f (o + i))) : RepJ w S (.arr l) (.iface 64 (.slice a l.length c))
  | obj {S : Nat → Prop} {m : List (ByteArray × J)} {r : Nat} (E : Nat → Value) (F : Nat → Nat → Prop) (hr : S r) (hm : MapAt w r m E) (hs : ∀ p ∈ m, p.1.size ≤ 140737488351232)
      (own : ∀ i, i < m.length → ¬ F i r) (sub : ∀ i k, i < m.length → F i k → S k) (dis : ∀ i j k, i < j → j < m.length → F i k → F j k → False)
      (rm : ∀ i (hi : i < m.length), RepJ w (F i) m[i].2 (E i)) : RepJ w S (.obj m) (.iface 67 (.map (some r)))

theorem MapAt.carry {w w' : World} {r : Nat} {m : List (ByteArray × J)} {E : Nat → Value} (h : MapAt w r m E) (hr : w'.heap[r]? = w.heap[r]?) : MapAt w' r m E := by
  obtain ⟨n, hn, es, clock, hbk, F, hs, hD⟩ := h
  exact ⟨n, hn, es, clock, hr.trans hbk, F, hs, hD⟩

theorem rowIs_carry {w w' : World} {b t n : Nat} {f : Nat → Value} (h : w.rowIs b t n f) (hr : w'.heap[b]? = w.heap[b]?) : w'.rowIs b t n f := by
  obtain ⟨c, hb, hn, hc⟩ := h
  exact ⟨c, hr.trans hb, hn, hc⟩

theorem RepJ.carry {w w' : World} {S : Nat → Prop} {j : J} {v : Value} (h : RepJ w S j v) (hS : ∀ k, S k → w'.heap[k]? = w.heap[k]?) : RepJ w' S j v := by
  induction h with
  | null S => exact .null S
  | bool S b => exact .bool S b
  | int S n h => exact .int S n h
  | flt S x => exact .flt S x
  | str S s h => exact .str S s h
  | arr f b o N F hl hc ca own sub dis _ ih =>
    refine .arr f b o N F hl hc ?_ own sub dis (fun i hi => ih i hi (fun k hk => hS k (sub i k hi hk)))
    intro h0
    obtain ⟨e, hb, hrow, hN⟩ := ca h0
    exact ⟨e, hb, rowIs_carry hrow (hS _ hb), hN⟩
  | obj E F hr hm hs own sub dis _ ih => exact .obj E F hr (hm.carry (hS _ hr)) hs own sub dis (fun i hi => ih i hi (fun k hk => hS k (sub i k hi hk)))

theorem RepJ.mono {w : World} {S S' : Nat → Prop} {j : J} {v : Value} (h : RepJ w S j v) (hS : ∀ k, S k → S' k) : RepJ w S' j v := by
  cases h with
  | null => exact .null _
  | bool _ b => exact .bool _ b
  | int _ n h => exact .int _ n h
  | flt _ x => exact .flt _ x
  | str _ s h => exact .str _ s h
  | arr f b o N F hl hc ca own sub dis ra => exact .arr f b o N F hl hc (fun h0 => let ⟨e, hb, r⟩ := ca h0; ⟨e, hS _ hb, r⟩) own (fun i k hi hk => hS _ (sub i k hi hk)) dis ra
  | obj E F hr hm hs own sub dis rm => exact .obj E F (hS _ hr) hm hs own (fun i k hi hk => hS _ (sub i k hi hk)) dis rm

theorem RepJ.under {w w' : World} {B : Nat} {S : Nat → Prop} {j : J} {v : Value} (h : RepJ w S j v) (hb : Below B w w') (hS : ∀ k, S k → k < B) : RepJ w' S j v :=
  h.carry fun k hk => hb.block k (hS k hk)

theorem RepJ.form {w : World} {S : Nat → Prop} {j : J} {v : Value} (h : RepJ w S j v) : v = .nilIface ∨ ∃ t y, v = .iface t y := by
  cases h <;> first | exact .inl rfl | exact .inr ⟨_, _, rfl⟩

end Go.Proofs.YtmcahfcihhddjaaGreatDoor
