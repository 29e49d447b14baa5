/- How a Go value of type any reads as a tree (J). No function is walked here. -/
/- A region that draws its order, of which all operations but the last few only read: one walk, in the order of the text, by the cheap step. -/
/- Contracts of impl.listToGo, impl.mapToGo, impl.toGo. -/
/- The order of strings, byte by byte; and that entries put in rising order stand in that order. No program in sight. -/
/- Contract of impl.mapToGo, and of impl.toGo. -/
/- Go maps that hold a tree's entries: what is read out of them. No function is walked here. -/
import Derived.Test.YtjlkoekfcdpnaaaGreatDoorM01
import Derived.Deep.OwnRows
import Derived.WalkKit
import Derived.StillTail
import Derived.BigQuiet
import Derived.Deep.DeepCutAuto
import Derived.Deep.CutBlock
import Derived.Maps.OwnSet
import Derived.WalkLawsBesides
namespace Go.Proofs.YtjlkoekfcdpnaaaGreatDoor
open Go Go.RowKit Go.Maps Go.Deep
theorem RepV.shape {w : World} {B : Nat} {v : V} {cs : List Value} (h : RepV w B v cs) : ∃ (k h : Int) (t : ByteArray) (la ka va : Option Addr) (nl cl nk ck nv cv : Nat),
    cs = [.int .i64 k, .int .i64 h, .string t, .slice la nl cl, .slice ka nk ck, .slice va nv cv] := by
  cases h
  exact ⟨_, _, _, _, _, _, _, _, _, _, _, _, rfl⟩
theorem cells6 {w : World} {b o : Nat} {c0 c1 c2 c3 c4 c5 : Value} (h : CellsAt w b o [c0, c1, c2, c3, c4, c5]) :
    w.cell? ⟨b, o, none⟩ = some c0 ∧ w.cell? ⟨b, o + 1, none⟩ = some c1 ∧ w.cell? ⟨b, o + 2, none⟩ = some c2 ∧ w.cell? ⟨b, o + 3, none⟩ = some c3 ∧ w.cell? ⟨b, o + 4, none⟩ = some c4 ∧ w.cell? ⟨b, o + 5, none⟩ = some c5 :=
  ⟨h 0 (by simp), h 1 (by simp), h 2 (by simp), h 3 (by simp), h 4 (by simp), h 5 (by simp)⟩
/-- How a map's element reads: it is told as it stands. -/
def heldR (v : Value) : Option (DataW Value × List MemPlace) := some (.held v, [])
/-- A map's entries as its reading has them. -/
def entries (m : List (ByteArray × J)) (E : Nat → Value) : List (Lit × DataW Value) := m.mapIdx fun i p => (Lit.string p.1.data.toList, DataW.held (E i))
/-- Block r is a Go map that holds just these entries. -/
def MapAt (w : World) (r : Nat) (m : List (ByteArray × J)) (E : Nat → Value) : Prop := ∃ n, n ≤ 140737488351232 ∧ w.ownsMap Tryz.prog 9 heldR r n (.map (entries m E))
/-- The greatest capacity of an array (where gojq.update copies arrays, as great as their length). -/
def capMax : Nat := 8796093021952
/-- The value v of type any is the tree j, in w; the blocks that it lies in are in S, each for one place of the tree alone. -/
inductive RepJ (w : World) : (Nat → Prop) → J → Value → Prop
  | null (S : Nat → Prop) : RepJ w S .null .nilIface
  | bool (S : Nat → Prop) (b : Bool) : RepJ w S (.bool b) (.iface 4 (.bool b))
  | int (S : Nat → Prop) (n : Int) (h : -9223372036854775808 ≤ n ∧ n ≤ 9223372036854775807) : RepJ w S (.int n) (.iface 3 (.int .i64 n))
  | flt (S : Nat → Prop) (x : Nat) : RepJ w S (.flt x) (.iface 49 (.float .f64 x))
  | str (S : Nat → Prop) (s : ByteArray) (h : s.size ≤ 140737488351232) : RepJ w S (.str s) (.iface 9 (.string s))
  | arr {S : Nat → Prop} {l : List J} {a : Option Addr} {c : Nat} (f : Nat → Value) (b o N : Nat) (F : Nat → Nat → Prop) (hl : l.length * 16 ≤ 140737488351232) (hc : l.length ≤ c)
      (ca : 0 < l.length → a = some ⟨b, o, none⟩ ∧ S b ∧ w.rowIs b 20 N f ∧ o + l.length ≤ N)
      (own : ∀ i, i < l.length → ¬ F i b) (sub : ∀ i k, i < l.length → F i k → S k) (dis : ∀ i j k, i < j → j < l.length → F i k → F j k → False)
      (ra : ∀ i (hi : i < l.length), RepJ w (F i) l[i] (f (o + i))) (hcb : c ≤ capMax) (hnn : a ≠ none) : RepJ w S (.arr l) (.iface 50 (.slice a l.length c))
  | obj {S : Nat → Prop} {m : List (ByteArray × J)} {r : Nat} (E : Nat → Value) (F : Nat → Nat → Prop) (hr : S r) (hm : MapAt w r m E) (hs : ∀ p ∈ m, p.1.size ≤ 140737488351232)
      (own : ∀ i, i < m.length → ¬ F i r) (sub : ∀ i k, i < m.length → F i k → S k) (dis : ∀ i j k, i < j → j < m.length → F i k → F j k → False)
      (rm : ∀ i (hi : i < m.length), RepJ w (F i) m[i].2 (E i)) : RepJ w S (.obj m) (.iface 53 (.map (some r)))
  | hole (S : Nat → Prop) : RepJ w S .hole (.iface 85 (.agg #[]))
theorem MapAt.carry {w w' : World} {r : Nat} {m : List (ByteArray × J)} {E : Nat → Value} (h : MapAt w r m E) (hr : w'.heap[r]? = w.heap[r]?) : MapAt w' r m E := by
  obtain ⟨n, hn, es, clock, hbk, F, hs, hD⟩ := h
  exact ⟨n, hn, es, clock, hr.trans hbk, F, hs, hD⟩
theorem rowIs_carry {w w' : World} {b t n : Nat} {f : Nat → Value} (h : w.rowIs b t n f) (hr : w'.heap[b]? = w.heap[b]?) : w'.rowIs b t n f := by
  obtain ⟨c, hb, hn, hc⟩ := h
  exact ⟨c, hr.trans hb, hn, hc⟩
theorem RepJ.carry {w w' : World} {S : Nat → Prop} {j : J} {v : Value} (h : RepJ w S j v) (hS : ∀ k, S k → w'.heap[k]? = w.heap[k]?) : RepJ w' S j v := by
  induction h with
  | null S => exact .null S
  | bool S b => exact .bool S b
  | int S n h => exact .int S n h
  | flt S x => exact .flt S x
  | str S s h => exact .str S s h
  | arr f b o N F hl hc ca own sub dis _ hcb hnn ih =>
    refine .arr f b o N F hl hc ?_ own sub dis (fun i hi => ih i hi (fun k hk => hS k (sub i k hi hk))) hcb hnn
    intro h0
    obtain ⟨e, hb, hrow, hN⟩ := ca h0
    exact ⟨e, hb, rowIs_carry hrow (hS _ hb), hN⟩
  | obj E F hr hm hs own sub dis _ ih => exact .obj E F hr (hm.carry (hS _ hr)) hs own sub dis (fun i hi => ih i hi (fun k hk => hS k (sub i k hi hk)))
  | hole S => exact .hole S
theorem RepJ.mono {w : World} {S S' : Nat → Prop} {j : J} {v : Value} (h : RepJ w S j v) (hS : ∀ k, S k → S' k) : RepJ w S' j v := by
  cases h with
  | null => exact .null _
  | bool _ b => exact .bool _ b
  | int _ n h => exact .int _ n h
  | flt _ x => exact .flt _ x
  | str _ s h => exact .str _ s h
  | arr f b o N F hl hc ca own sub dis ra hcb hnn => exact .arr f b o N F hl hc (fun h0 => let ⟨e, hb, r⟩ := ca h0; ⟨e, hS _ hb, r⟩) own (fun i k hi hk => hS _ (sub i k hi hk)) dis ra hcb hnn
  | obj E F hr hm hs own sub dis rm => exact .obj E F (hS _ hr) hm hs own (fun i k hi hk => hS _ (sub i k hi hk)) dis rm
  | hole => exact .hole _
theorem RepJ.under {w w' : World} {B : Nat} {S : Nat → Prop} {j : J} {v : Value} (h : RepJ w S j v) (hb : Below B w w') (hS : ∀ k, S k → k < B) : RepJ w' S j v :=
  h.carry fun k hk => hb.block k (hS k hk)
theorem RepJ.form {w : World} {S : Nat → Prop} {j : J} {v : Value} (h : RepJ w S j v) : v = .nilIface ∨ ∃ t y, v = .iface t y := by
  cases h <;> first | exact .inl rfl | exact .inr ⟨_, _, rfl⟩
def Ret (R : Value → World → Prop) (e : Ending) (w : World) : Prop := ∃ v, e = .returned v ∧ R v w
end Go.Proofs.YtjlkoekfcdpnaaaGreatDoor

namespace Go.Proofs.YtjlkoekfcdpnaaaGreatDoor
open Go
theorem still_of_quiet {P : Program} {o : Oper} {a : Act} {w : World} {K : Act → Prop} (h : o.quiet P a (fun x => x = w) K) : o.still P a w K := by
  obtain ⟨v, h1, h2⟩ := h
  have h1 := h1 w rfl
  unfold Oper.quietAt at h1
  unfold Oper.still
  generalize (execOp a.eval o).run P w = r at *
  cases r with
  | halt x w' => simp [Oper.quietUpon] at h1
  | ok n w' =>
    cases n <;> simp only [Oper.quietUpon, Oper.stillUpon] at h1 ⊢
    all_goals first
      | (obtain ⟨e1, e2⟩ := h1; subst e1; subst e2; first | exact ⟨trivial, h2⟩ | exact ⟨rfl, h2⟩ | exact h2)
      | (obtain ⟨e1, e2⟩ := h1; subst e1; first | exact ⟨rfl, v, e2, h2⟩ | exact ⟨trivial, v, e2, h2⟩ | exact ⟨v, e2, h2⟩)
      | exact h1.elim
theorem wpStill_of_quiet {P : Program} {ops : Array Oper} {Q : Act → Prop} {w : World} : ∀ (l : List Oper) (a : Act), wpQuiet P ops (fun x => x = w) Q l a → wpStill P ops w Q l a
  | [], _, h => h
  | o :: rest, a, h => by
    unfold wpQuiet at h
    unfold wpStill
    split
    · rename_i hw
      rw [if_pos hw] at h
      exact Oper.still_mono (fun a h => wpStill_of_quiet rest a h) (still_of_quiet h)
    · rename_i hw
      rw [if_neg hw] at h
      exact wpStill_of_quiet rest _ h
theorem wp_region_tail {P : Program} {id : Nat} {Q : Exit → Act → World → Prop} {a : Act} {w : World} {l : List Oper} (n : Nat) (hm : P.follows .mixedOrders = true) (hB : Region.lexTailB .any l.toArray n = true)
    (h : wpQuiet P l.toArray (fun x => x = w.drew) (fun a' => wpList P l.toArray Q (l.drop n) a' w.drew) (l.take n) a) : (Code.region id l.toArray true).wp P Q a w :=
  wp_region_still_tail n hm hB (wpStill_of_quiet _ _ h)
end Go.Proofs.YtjlkoekfcdpnaaaGreatDoor

namespace Go.Proofs.YtjlkoekfcdpnaaaGreatDoor
open Go Go.RowKit Go.Maps Go.Deep
def Fresh (lo hi k : Nat) : Prop := lo ≤ k ∧ k < hi
def ToGoPost (w : World) (j : J) (e : Ending) (w' : World) : Prop :=
  ∃ x, e = .returned (.tuple #[x, .bool true]) ∧ RepJ w' (Fresh w.heap.size w'.heap.size) j x ∧ Below w.heap.size w w'
def ToGoOK (w0 : World) (B : Nat) (v : V) (cs : List Value) : Prop :=
  ∀ w, Below B w0 w → B ≤ w.heap.size → Calls Tryz.prog 16 #[.agg cs.toArray] w (ToGoPost w (toJ v))
/-- The first n elements of the new row are there. -/
def LInv (H : Nat) (l : List V) (n : Nat) (wr : World) : Prop :=
  ∃ (f : Nat → Value) (F : Nat → Nat → Prop), wr.rowIs H 20 l.length f ∧ (∀ i k, i < n → F i k → H < k ∧ k < wr.heap.size) ∧
    (∀ i j k, i < j → j < n → F i k → F j k → False) ∧ ∀ i (hi : i < l.length), i < n → RepJ wr (F i) (toJ l[i]) (f i)
theorem LInv.step {H : Nat} {l : List V} {n : Nat} {wr w1 w2 : World} {x : Value} (h : LInv H l n wr) (hH : H < wr.heap.size) (hn : n < l.length) (hb : Below wr.heap.size wr w1) (hb2 : Below w1.heap.size w1 w2)
    (hx : RepJ w2 (Fresh w1.heap.size w2.heap.size) (toJ l[n]) x) : LInv H l (n + 1) (w2.setCell ⟨H, n, none⟩ x) := by
  obtain ⟨f, F, hrow, hF, hd, hr⟩ := h
  have hb3 := hb.trans (hb2.mono hb.size)
  have s1 := hb.size
  have s2 := hb2.size
  have hrow2 : w2.rowIs H 20 l.length f := rowIs_carry hrow (hb3.block H hH)
  have hsz : (w2.setCell ⟨H, n, none⟩ x).heap.size = w2.heap.size := by simp [World.setCell]
  refine ⟨fun i => if i = n then x else f i, fun i => if i = n then Fresh w1.heap.size w2.heap.size else F i, hrow2.set n x, ?_, ?_, ?_⟩
  · intro i k hi hk
    rw [hsz]
    by_cases e : i = n
    · simp only [e, if_true] at hk
      exact ⟨by have := hk.1; omega, hk.2⟩
    · simp only [e, if_false] at hk
      have := hF i k (by omega) hk
      omega
  · intro i j k hij hj hik hjk
    by_cases e : j = n
    · simp only [e, if_true] at hjk
      have e2 : i ≠ n := by omega
      simp only [e2, if_false] at hik
      have := hF i k (by omega) hik
      have := hjk.1
      omega
    · have e2 : i ≠ n := by omega
      simp only [e, if_false] at hjk
      simp only [e2, if_false] at hik
      exact hd i j k hij (by omega) hik hjk
  · intro i hi hin
    by_cases e : i = n
    · subst e
      simp only [if_true]
      exact hx.carry fun k hk => Below.heap_setCell _ _ _ _ (by have := hk.1; simp; omega)
    · simp only [e, if_false]
      refine (hr i hi (by omega)).carry fun k hk => ?_
      have := hF i k (by omega) hk
      exact (Below.heap_setCell _ _ _ _ (by simp; omega)).trans (hb3.block k this.2)
theorem toJL_len (l : List V) : (toJL l).length = l.length := by rw [toJL_eq, List.length_map]
theorem toJL_get (l : List V) (i : Nat) (hi : i < l.length) : (toJL l)[i]'(by rw [toJL_len]; exact hi) = toJ l[i] := by simp [toJL_eq]
theorem LInv.done {H : Nat} {l : List V} {wr : World} (hl : l.length * 104 ≤ 140737488351232) (hH : H < wr.heap.size) (h : LInv H l l.length wr) :
    RepJ wr (Fresh H wr.heap.size) (.arr (toJL l)) (.iface 50 (.slice (some ⟨H, 0, none⟩) l.length l.length)) := by
  obtain ⟨f, F, hrow, hF, hd, hr⟩ := h
  have e := toJL_len l
  have R := RepJ.arr (w := wr) (S := Fresh H wr.heap.size) (l := toJL l) (a := some ⟨H, 0, none⟩) (c := l.length) f H 0 l.length F (by omega) (by omega)
    (fun _ => ⟨rfl, ⟨Nat.le_refl _, hH⟩, hrow, by omega⟩) (fun i hi hk => by have := hF i H (by omega) hk; omega)
    (fun i k hi hk => by have := hF i k (by omega) hk; exact ⟨by omega, this.2⟩) (fun i j k hij hj => hd i j k hij (by omega))
    (fun i hi => by rw [toJL_get l i (by omega), Nat.zero_add]; exact hr i (by omega) (by omega)) (by unfold capMax; omega) (by simp)
  rw [e] at R
  exact R
def LLoop (w : World) (H : Nat) (l : List V) (i : Value) (wr : World) : Prop :=
  ∃ n : Nat, n ≤ l.length ∧ i = .int .i64 (n : Nat) ∧ Below H w wr ∧ H < wr.heap.size ∧ LInv H l n wr
theorem info_any : (Tryz.prog.info? 20).map (fun i => (i.zero, i.size, i.bytes)) = some (some .nilIface, 1, 16) := by kernel_rfl
def ListPost (w : World) (l : List V) (e : Ending) (w' : World) : Prop :=
  ∃ a c, e = .returned (.tuple #[.slice a l.length c, .bool true]) ∧ RepJ w' (Fresh w.heap.size w'.heap.size) (.arr (toJL l)) (.iface 50 (.slice a l.length c)) ∧ Below w.heap.size w w'
set_option maxHeartbeats 4000000 in
set_option maxRecDepth 100000 in
theorem list_of (w0 : World) (B : Nat) (l : List V) (la : Option Addr) (lc : Nat) (C : Nat → List Value) (hl : l.length * 104 ≤ 140737488351232)
    (cl : 0 < l.length → ∃ b o, la = some ⟨b, o, none⟩ ∧ b < B ∧ ∀ i, i < l.length → CellsAt w0 b (o + i * 6) (C i)) (rl : ∀ i (hi : i < l.length), RepV w0 B l[i] (C i))
    (ih : ∀ i (hi : i < l.length), ToGoOK w0 B l[i] (C i)) (w : World) (hbel : Below B w0 w) (hB : B ≤ w.heap.size) :
    Calls Tryz.prog 23 #[.slice la l.length lc] w (ListPost w l) := by
  have hmk := run_make_row' (P := Tryz.prog) 50 20 .nilIface 16 Tryz.underlying50 info_any rfl .i64 .i64 l.length (by omega) (by omega)
  have Hcl := Lib.hid cl; clear cl
  have Hih := Lib.hid ih; clear ih
  have Hbel := Lib.hid hbel; clear hbel
  have hst : LInv w.heap.size l 0 (w.alloc (.cells (madeCells #[.nilIface] l.length) 20)) :=
    ⟨_, fun _ _ => False, World.rowIs_made w .nilIface l.length 20, fun _ _ h => by omega, fun _ _ _ _ h => by omega, fun _ _ h => by omega⟩
  have Hst := Lib.hid hst; clear hst
  go_enter Tryz.func23, Tryz.ntmps23
  go_wp2_with fail
  go_loopw [14] (fun i wr => LLoop w w.heap.size l i wr) (fun i _ => l.length - (intOf i).toNat)
  case atStart => exact ⟨0, Nat.zero_le _, rfl, below_alloc1 _ _, by simp, Hst.out⟩
  case round =>
    obtain ⟨n, hn, rfl, hb, hH, hinv⟩ := hrel
    have Hinv := Lib.hid hinv; clear hinv
    by_cases hn' : n < l.length
    · obtain ⟨lb, lo, rfl, hlb, hcel⟩ := Hcl.out (by omega)
      have hb0 : Below B w0 wr := Hbel.out.trans (hb.mono hB)
      have cc := (hcel n hn').below hb0 hlb
      have hbx : Below wr.heap.size wr (wr.alloc (.cells (C n).toArray 26)) := below_alloc1 _ _
      have ih := Hih.out n hn' _ (hb0.trans (hbx.mono (by have := hb.size; omega))) (by have := hb.size; have := hbx.size; omega)
      obtain ⟨k', h', t', la', ka', va', nl', cl', nk', ck', nv', cv', hCn⟩ := (rl n hn').shape
      rw [hCn] at cc ih hbx
      obtain ⟨y0, y1, y2, y3, y4, y5⟩ := cells6 cc
      have HI := Lib.hid ih
      clear ih hCn cc hcel hb0
      go_wp2_with fail
      refine HI.out.mono ?_
      rintro e w2 ⟨x, rfl, hx, hb2⟩
      have s1 := hbx.size
      have s2 := hb2.size
      have hb3 := hb.trans ((hbx.mono hb.size).trans (hb2.mono (by have := hb.size; omega)))
      have hnext := Lib.hid (Hinv.out.step hH hn' hbx hb2 hx)
      obtain ⟨hcw, hfw⟩ : (∃ u, w2.cell? ⟨w.heap.size, n, none⟩ = some u) ∧ w2.frozen? ⟨w.heap.size, n, none⟩ = false := by
        obtain ⟨f, F, hrow, _⟩ := Hinv.out
        have h2 := rowIs_carry hrow ((hb2.block w.heap.size (by omega)).trans (hbx.block w.heap.size hH))
        exact ⟨⟨_, h2.cell hn'⟩, h2.frozen _⟩
      obtain ⟨u, hcw⟩ := hcw
      have hbs := Lib.hid (hb3.setCell (p := ⟨w.heap.size, n, none⟩) (Nat.le_refl _) x)
      have hsz : (w2.setCell ⟨w.heap.size, n, none⟩ x).heap.size = w2.heap.size := by simp [World.setCell]
      have Hsz := Lib.hid hsz; clear hsz
      rcases hx.form with rfl | ⟨ty, y, rfl⟩
      all_goals
        clear hx
        go_wp2_with fail
        go_roundw
        case rel => exact ⟨n + 1, by omega, by go_num, hbs.out, by rw [Hsz.out]; omega, hnext.out⟩
        case measure => simp [intOf]; omega
    · go_wp2_with fail
      have e : n = l.length := by omega
      refine bodyPost_ret (results_tmp2 rfl _ _ _) rfl ⟨_, _, rfl, LInv.done hl hH (e ▸ Hinv.out), hb⟩
end Go.Proofs.YtjlkoekfcdpnaaaGreatDoor

namespace Go.Proofs.YtjlkoekfcdpnaaaGreatDoor
open Go Go.RowKit Go.Maps
theorem u8_lt (a b : UInt8) : a < b ↔ a.toNat < b.toNat := UInt8.lt_iff_toNat_lt
theorem bl_cons (a b : UInt8) (x y : List UInt8) : Op.bytesLess (a :: x) (b :: y) = true ↔ a.toNat < b.toNat ∨ (a = b ∧ Op.bytesLess x y = true) := by
  simp [Op.bytesLess, u8_lt]
theorem bl_irrefl : ∀ a : List UInt8, Op.bytesLess a a = false
  | [] => rfl
  | a :: x => by
    rw [← Bool.not_eq_true, bl_cons]
    simp [bl_irrefl x]
theorem bl_asymm : ∀ a b : List UInt8, Op.bytesLess a b = true → Op.bytesLess b a = false
  | [], [], h => by simp [Op.bytesLess] at h
  | [], _ :: _, _ => rfl
  | _ :: _, [], h => by simp [Op.bytesLess] at h
  | a :: x, b :: y, h => by
    rw [bl_cons] at h
    rw [← Bool.not_eq_true, bl_cons]
    rintro (h' | ⟨rfl, h'⟩)
    · rcases h with h | ⟨rfl, _⟩ <;> omega
    · rcases h with h | ⟨_, h⟩
      · omega
      · rw [bl_asymm x y h] at h'; cases h'
theorem bl_trans : ∀ a b c : List UInt8, Op.bytesLess a b = true → Op.bytesLess b c = true → Op.bytesLess a c = true
  | _, _, [], _, h => by simp [Op.bytesLess] at h
  | _, [], _ :: _, h, _ => by simp [Op.bytesLess] at h
  | [], _ :: _, _ :: _, _, _ => rfl
  | a :: x, b :: y, c :: z, h, h' => by
    rw [bl_cons] at *
    rcases h with h | ⟨rfl, h⟩
    · rcases h' with h' | ⟨rfl, h'⟩ <;> (left; omega)
    · rcases h' with h' | ⟨rfl, h'⟩
      · left; exact h'
      · right; exact ⟨rfl, bl_trans x y z h h'⟩
theorem before_eq : ∀ a b : List UInt8, bytesBefore a b = Op.bytesLess a b
  | [], [] => rfl
  | [], _ :: _ => rfl
  | _ :: _, [] => rfl
  | a :: x, b :: y => by simp [bytesBefore, Op.bytesLess, before_eq x y]
theorem insert_last {H : Type} (k : List UInt8) (d : DataW H) : ∀ es : List (Lit × DataW H), (∀ p ∈ es, ∃ s, p.1 = .string s ∧ Op.bytesLess s k = true) → DataW.insert (.string k, d) es = es ++ [(.string k, d)]
  | [], _ => rfl
  | p :: r, h => by
    obtain ⟨s, hs, hlt⟩ := h p (by simp)
    unfold DataW.insert
    rw [hs]
    have : (Lit.string k).before (.string s) = false := by
      show bytesBefore k s = false
      rw [before_eq]; exact bl_asymm _ _ hlt
    simp [this, insert_last k d r (fun q hq => h q (by simp [hq]))]
theorem put_last {H : Type} (k : List UInt8) (d : DataW H) (es : List (Lit × DataW H)) (h : ∀ p ∈ es, ∃ s, p.1 = .string s ∧ Op.bytesLess s k = true) : (DataW.map es).put (.string k) d = .map (es ++ [(.string k, d)]) := by
  unfold DataW.put
  have hf : es.filter (fun p => !p.1.sameKey (.string k)) = es := by
    rw [List.filter_eq_self]
    intro p hp
    obtain ⟨s, hs, hlt⟩ := h p hp
    rw [hs]
    show (!(s == k)) = true
    have : s ≠ k := fun e => by rw [e, bl_irrefl] at hlt; cases hlt
    simpa using this
  show DataW.map (DataW.insert (Lit.string k, d) (es.filter (fun p => !p.1.sameKey (.string k)))) = _
  rw [hf, insert_last k d es h]
/-- From neighbours to all. -/
theorem rise_all (ks : List ByteArray) (rise : ∀ i (hi : i + 1 < ks.length), Op.bytesLess ks[i].toList ks[i + 1].toList = true) : ∀ (j : Nat) (hj : j < ks.length) (i : Nat) (hi : i < j), Op.bytesLess (ks[i]'(by omega)).toList ks[j].toList = true := by
  intro j
  induction j with
  | zero => intro _ i hi; omega
  | succ j ih =>
    intro hj i hi
    by_cases e : i = j
    · subst e; exact rise i hj
    · exact bl_trans _ _ _ (ih (by omega) i (by omega)) (rise j hj)
theorem run_makeMap_hint {P : Program} {t k e : TypeId} (ht : P.underlying t = some (.map k e)) (q : IntKind) (n : Int) (w : World) : (Instr.makeMap t (some (.int q n))).run P w = .ok (.map (some w.heap.size)) (w.alloc (.map #[] 0)) := by
  simp [Instr.makeMap, run_underlying ht, asInt, asIntOf, Result.andThen]
end Go.Proofs.YtjlkoekfcdpnaaaGreatDoor

namespace Go.Proofs.YtjlkoekfcdpnaaaGreatDoor
open Go Go.RowKit Go.Maps Go.Deep Go.WideMaps
theorem law_str : Keyed Tryz.prog 9 := string_keyed Tryz.underlying9
theorem entries_take (m : List (ByteArray × J)) (n : Nat) (hn : n < m.length) (E : Nat → Value) (x : Value) :
    entries (m.take (n + 1)) (fun i => if i = n then x else E i) = entries (m.take n) E ++ [(Lit.string m[n].1.data.toList, DataW.held x)] := by
  unfold entries
  rw [List.take_succ_eq_append_getElem hn, List.mapIdx_append]
  have hl : (m.take n).length = n := by rw [List.length_take]; omega
  congr 1
  · apply List.ext_getElem?
    intro i
    simp only [List.getElem?_mapIdx]
    by_cases hi : i < n
    · have : i ≠ n := by omega
      simp [this]
    · rw [List.getElem?_eq_none (by omega)]; rfl
  · simp [hl]
/-- The first n entries of the new map are there. -/
def MInv (H : Nat) (m : List (ByteArray × J)) (n : Nat) (wr : World) : Prop :=
  ∃ (E : Nat → Value) (F : Nat → Nat → Prop), wr.ownsMap Tryz.prog 9 heldR H n (.map (entries (m.take n) E)) ∧ (∀ i k, i < n → F i k → H < k ∧ k < wr.heap.size) ∧
    (∀ i j k, i < j → j < n → F i k → F j k → False) ∧ ∀ i (hi : i < m.length), i < n → RepJ wr (F i) m[i].2 (E i)
theorem MInv.step {H : Nat} {m : List (ByteArray × J)} {n : Nat} {wr w2 w3 : World} {x : Value} {E : Nat → Value} {F : Nat → Nat → Prop} (hH : H < wr.heap.size) (hn : n < m.length)
    (hrise : ∀ i (hi : i < n), Op.bytesLess (m[i]'(by omega)).1.data.toList m[n].1.data.toList = true)
    (hF : ∀ i k, i < n → F i k → H < k ∧ k < wr.heap.size) (hd : ∀ i j k, i < j → j < n → F i k → F j k → False) (hr : ∀ i (hi : i < m.length), i < n → RepJ wr (F i) m[i].2 (E i))
    (hb2 : Below wr.heap.size wr w2) (hx : RepJ w2 (Fresh wr.heap.size w2.heap.size) m[n].2 x)
    (hown : w3.ownsMap Tryz.prog 9 heldR H (n + 1) ((DataW.map (entries (m.take n) E)).put (.string m[n].1.data.toList) (.held x))) (hg : w2.grownBy w3 (some H)) : MInv H m (n + 1) w3 := by
  have s2 := hb2.size
  have s3 := hg.size
  refine ⟨fun i => if i = n then x else E i, fun i => if i = n then Fresh wr.heap.size w2.heap.size else F i, ?_, ?_, ?_, ?_⟩
  · rw [entries_take m n hn E x, ← put_last _ _ _ ?_]
    · exact hown
    · intro p hp
      unfold entries at hp
      rw [List.mem_mapIdx] at hp
      obtain ⟨i, hi, rfl⟩ := hp
      have hi' : i < n := by rw [List.length_take] at hi; omega
      refine ⟨_, rfl, ?_⟩
      simp only [List.getElem_take]
      exact hrise i hi'
  · intro i k hi hk
    by_cases e : i = n
    · simp only [e, if_true] at hk
      exact ⟨by have := hk.1; omega, by have := hk.2; omega⟩
    · simp only [e, if_false] at hk
      have := hF i k (by omega) hk
      omega
  · intro i j k hij hj hik hjk
    by_cases e : j = n
    · simp only [e, if_true] at hjk
      have e2 : i ≠ n := by omega
      simp only [e2, if_false] at hik
      have := hF i k (by omega) hik
      have := hjk.1
      omega
    · have e2 : i ≠ n := by omega
      simp only [e, if_false] at hjk
      simp only [e2, if_false] at hik
      exact hd i j k hij (by omega) hik hjk
  · intro i hi hin
    by_cases e : i = n
    · subst e
      simp only [if_true]
      exact hx.carry fun k hk => hg.block k hk.2 (by have := hk.1; simp; omega)
    · simp only [e, if_false]
      refine (hr i hi (by omega)).carry fun k hk => ?_
      have := hF i k (by omega) hk
      exact (hg.block k (by omega) (by simp; omega)).trans (hb2.block k this.2)
def MLoop (W : World) (H : Nat) (m : List (ByteArray × J)) (i : Value) (wr : World) : Prop :=
  ∃ n : Nat, n ≤ m.length ∧ i = .int .i64 (n : Nat) ∧ Below W.heap.size W wr ∧ H < wr.heap.size ∧ MInv H m n wr
def MapPost (w : World) (m : List (ByteArray × J)) (e : Ending) (w' : World) : Prop :=
  ∃ r, e = .returned (.tuple #[.map (some r), .bool true]) ∧ RepJ w' (Fresh w.heap.size w'.heap.size) (.obj m) (.iface 53 (.map (some r))) ∧ Below w.heap.size w w'
theorem MInv.done {H H0 : Nat} {m : List (ByteArray × J)} {wr : World} (hm : m.length ≤ 140737488351232) (hs : ∀ p ∈ m, p.1.size ≤ 140737488351232) (hH0 : H0 ≤ H) (hH : H < wr.heap.size) (h : MInv H m m.length wr) :
    RepJ wr (Fresh H0 wr.heap.size) (.obj m) (.iface 53 (.map (some H))) := by
  obtain ⟨E, F, hown, hF, hd, hr⟩ := h
  rw [List.take_length] at hown
  exact .obj E F ⟨hH0, hH⟩ ⟨_, hm, hown⟩ hs (fun i hi hk => by have := hF i H (by omega) hk; omega)
    (fun i k hi hk => by have := hF i k (by omega) hk; exact ⟨by omega, this.2⟩) (fun i j k hij hj => hd i j k hij (by omega)) (fun i hi => hr i hi hi)
theorem toJM_len (ks : List ByteArray) (vs : List V) (h : ks.length = vs.length) : (toJM ks vs).length = ks.length := by rw [toJM_eq]; simp; omega
theorem toJM_get (ks : List ByteArray) (vs : List V) (h : ks.length = vs.length) (i : Nat) (hi : i < ks.length) : (toJM ks vs)[i]'(by rw [toJM_len _ _ h]; exact hi) = (ks[i], toJ (vs[i]'(by omega))) := by simp [toJM_eq]
set_option maxHeartbeats 4000000 in
set_option maxRecDepth 100000 in
theorem map_of (w0 : World) (B : Nat) (k hf : Int) (t : ByteArray) (l : List V) (ks : List ByteArray) (vs : List V) (la ka va : Option Addr) (lc kc vc : Nat) (D : Nat → List Value)
    (hks : ks.length * 16 ≤ 140737488351232) (hs : ∀ s ∈ ks, s.size ≤ 140737488351232)
    (rise : ∀ i (hi : i + 1 < ks.length), Op.bytesLess ks[i].toList ks[i + 1].toList = true) (hlen : ks.length = vs.length)
    (ck : 0 < ks.length → ∃ b o, ka = some ⟨b, o, none⟩ ∧ b < B ∧ ∀ i (hi : i < ks.length), w0.cell? ⟨b, o + i, none⟩ = some (.string ks[i]))
    (cv : 0 < vs.length → ∃ b o, va = some ⟨b, o, none⟩ ∧ b < B ∧ ∀ i, i < vs.length → CellsAt w0 b (o + i * 6) (D i)) (rv : ∀ i (hi : i < vs.length), RepV w0 B vs[i] (D i))
    (ih : ∀ i (hi : i < vs.length), ToGoOK w0 B vs[i] (D i)) (w : World) (hbel : Below B w0 w) (hB : B ≤ w.heap.size) :
    Calls Tryz.prog 24 #[.agg #[.int .i64 k, .int .i64 hf, .string t, .slice la l.length lc, .slice ka ks.length kc, .slice va vs.length vc]] w (MapPost w (toJM ks vs)) := by
  have hmk := run_makeMap_hint (P := Tryz.prog) Tryz.underlying53 .i64 ks.length
  have Hck := Lib.hid ck; clear ck
  have Hcv := Lib.hid cv; clear cv
  have Hih := Lib.hid ih; clear ih
  obtain ⟨W, hW⟩ : ∃ W, W = w.alloc (.cells #[.int .i64 k, .int .i64 hf, .string t, .slice la l.length lc, .slice ka ks.length kc, .slice va vs.length vc] 26) := ⟨_, rfl⟩
  have hWs : W.heap.size = w.heap.size + 1 := by rw [hW]; simp
  have hbW : Below w.heap.size w W := by rw [hW]; exact below_alloc1 _ _
  have hat : W.heap[w.heap.size]? = some (.cells #[.int .i64 k, .int .i64 hf, .string t, .slice la l.length lc, .slice ka ks.length kc, .slice va vs.length vc] 26) := by rw [hW]; exact at_alloc _ _
  have boxes : ∀ wx, Below W.heap.size W wx → wx.cell? ⟨w.heap.size, 0, none⟩ = some (.int .i64 k) ∧ wx.cell? ⟨w.heap.size, 1, none⟩ = some (.int .i64 hf) ∧ wx.cell? ⟨w.heap.size, 2, none⟩ = some (.string t) ∧ wx.cell? ⟨w.heap.size, 3, none⟩ = some (.slice la l.length lc) ∧ wx.cell? ⟨w.heap.size, 4, none⟩ = some (.slice ka ks.length kc) ∧ wx.cell? ⟨w.heap.size, 5, none⟩ = some (.slice va vs.length vc) :=
    fun wx hx => of_block6 ((hx.block w.heap.size (by omega)).trans hat)
  have Hbox := Lib.hid boxes; clear boxes
  have key : ∀ wx, Below W.heap.size W wx → Below B w0 wx ∧ Below w.heap.size w wx := fun wx hx => ⟨(hbel.trans (hbW.mono hB)).trans (hx.mono (by omega)), hbW.trans (hx.mono (by omega))⟩
  have Hkey := Lib.hid key; clear key
  have HWs := Lib.hid hWs; clear hWs
  have Hlen := Lib.hid hlen
  have t0 : ((ks.length : Int) != (vs.length : Int)) = false := by rw [hlen]; simp
  clear hat hbW hbel hlen
  go_enter Tryz.func24, Tryz.ntmps24
  go_wp2_with fail
  rw [← hW, ← HWs.out]
  have HW := Lib.hid hW; clear hW
  clear t0
  obtain ⟨m, hm⟩ : ∃ m, toJM ks vs = m := ⟨_, rfl⟩
  have hml : m.length = ks.length := by rw [← hm]; exact toJM_len _ _ Hlen.out
  have Hml := Lib.hid hml; clear hml
  have hmg : ∀ i (hi : i < ks.length), m[i]'(by rw [Hml.out]; exact hi) = (ks[i], toJ (vs[i]'(by rw [← Hlen.out]; exact hi))) := by subst hm; exact toJM_get ks vs Hlen.out
  have Hmg := Lib.hid hmg; clear hmg
  have Hm := Lib.hid hm; clear hm
  have hst : MInv W.heap.size m 0 (W.alloc (.map #[] 0)) := ⟨fun _ => .nilIface, fun _ _ => False, World.ownsMap_made W _ _ _, fun _ _ h => by omega, fun _ _ _ _ h => by omega, fun _ _ h => by omega⟩
  have Hst := Lib.hid hst; clear hst
  go_loopw [23] (fun i wr => MLoop W W.heap.size m i wr) (fun i _ => ks.length - (intOf i).toNat)
  case atStart => exact ⟨0, Nat.zero_le _, rfl, below_alloc1 _ _, by simp, Hst.out⟩
  case round =>
    obtain ⟨n, hn, rfl, hb, hH, hinv⟩ := hrel
    have Hinv := Lib.hid hinv; clear hinv
    rw [Hml.out] at hn
    obtain ⟨x0, x1, x2, x3, x4, x5⟩ := Hbox.out _ hb
    by_cases hn' : n < ks.length
    · obtain ⟨kb, ko, rfl, hkb, hkc⟩ := Hck.out (by omega)
      have hnv : n < vs.length := by rw [← Hlen.out]; exact hn'
      obtain ⟨lb, lo, rfl, hlb, hcel⟩ := Hcv.out (by omega)
      obtain ⟨hb0, hb1⟩ := Hkey.out _ hb
      have cc := (hcel n hnv).below hb0 hlb
      have ih := Hih.out n hnv wr hb0 (by have := hb1.size; omega)
      obtain ⟨k', h', t', la', ka', va', nl', cl', nk', ck', nv', cv', hCn⟩ := (rv n hnv).shape
      rw [hCn] at cc ih
      obtain ⟨y0, y1, y2, y3, y4, y5⟩ := cells6 cc
      have HI := Lib.hid ih
      have k1 : wr.cell? ⟨kb, ko + n, none⟩ = some (.string ks[n]) := (hb0.cell (p := ⟨kb, ko + n, none⟩) hkb).trans (hkc n hn')
      have hksz : ks[n].size ≤ 140737488351232 := hs _ (List.getElem_mem hn')
      obtain ⟨kn, hkn⟩ : ∃ kn, ks[n] = kn := ⟨_, rfl⟩
      rw [hkn] at k1 hksz
      have Hkn := Lib.hid hkn; clear hkn
      have hkey : keyOf Tryz.prog 9 (.string kn) = some (.string kn.data.toList) := keyOf_string_mk Tryz.underlying9 (by unfold maxLen; omega)
      have Hkey2 := Lib.hid hkey; clear hkey
      by_cases hn0 : n ≤ 0
      · clear ih hCn cc hcel hkc
        go_wp2_with fail
        refine HI.out.mono ?_
        rintro e w2 ⟨x, rfl, hx, hb2⟩
        have h63 : n < maxLen := by unfold maxLen; omega
        obtain ⟨E, F, hown, hF, hd, hr⟩ := Hinv.out
        have hown2 := hown.kept (below_grown2 hb2 none) (by simp)
        have HF := Lib.hid hF; clear hF
        have Hd := Lib.hid hd; clear hd
        have Hr := Lib.hid hr; clear hr
        clear hown x0 x1 x2 x3 x4 x5 k1 y0 y1 y2 y3 y4 y5
        go_wp2_with (at_mapUpdate; refine wpList_mapUpdate_own _ rfl _ _ _ 53 rfl 9 20 law_str Tryz.underlying53 heldR W.heap.size n _ rfl hown2 h63 _ _ _ rfl rfl Hkey2.out (.held x) [] rfl ?_; intro w3 hown3 hg3)
        go_roundw
        case rel =>
          have s2 := hb2.size
          have s3 := hg3.size
          have em : m[n]'(by rw [Hml.out]; exact hn') = (kn, toJ (vs[n]'hnv)) := by rw [Hmg.out n hn', Hkn.out]
          refine ⟨n + 1, by rw [Hml.out]; omega, by go_num, hb.grown ((below_grown2 hb2 (some W.heap.size)).trans hg3) hb.size (fun k hk => by cases hk; exact Nat.le_refl _), by omega, ?_⟩
          refine MInv.step (w2 := w2) (x := x) hH (by rw [Hml.out]; exact hn') ?_ HF.out Hd.out Hr.out hb2 (by rw [em]; exact hx) (by rw [em]; exact hown3) hg3
          intro i hi
          rw [em, Hmg.out i (by omega), ← Hkn.out, ← ByteArray.toList_eq, ← ByteArray.toList_eq]
          exact rise_all ks rise n hn' i hi
        case measure => simp [intOf]; omega
      · have k2 : wr.cell? ⟨kb, ko + (n - 1), none⟩ = some (.string ks[n - 1]) := (hb0.cell (p := ⟨kb, ko + (n - 1), none⟩) hkb).trans (hkc (n - 1) (by omega))
        have hlt : Op.bytesLess ks[n - 1].toList kn.toList = true := by
          have := rise (n - 1) (by omega)
          rw [← Hkn.out]
          simpa [show n - 1 + 1 = n from by omega] using this
        generalize ks[n - 1] = pk at k2 hlt
        have t1 : (0 : Int) < (n : Int) := by omega
        clear ih hCn cc hcel hkc
        go_wp2_with fail
        refine HI.out.mono ?_
        rintro e w2 ⟨x, rfl, hx, hb2⟩
        have h63 : n < maxLen := by unfold maxLen; omega
        obtain ⟨E, F, hown, hF, hd, hr⟩ := Hinv.out
        have hown2 := hown.kept (below_grown2 hb2 none) (by simp)
        have HF := Lib.hid hF; clear hF
        have Hd := Lib.hid hd; clear hd
        have Hr := Lib.hid hr; clear hr
        clear hown k2 hlt x0 x1 x2 x3 x4 x5 k1 y0 y1 y2 y3 y4 y5
        go_wp2_with (at_mapUpdate; refine wpList_mapUpdate_own _ rfl _ _ _ 53 rfl 9 20 law_str Tryz.underlying53 heldR W.heap.size n _ rfl hown2 h63 _ _ _ rfl rfl Hkey2.out (.held x) [] rfl ?_; intro w3 hown3 hg3)
        go_roundw
        case rel =>
          have s2 := hb2.size
          have s3 := hg3.size
          have em : m[n]'(by rw [Hml.out]; exact hn') = (kn, toJ (vs[n]'hnv)) := by rw [Hmg.out n hn', Hkn.out]
          refine ⟨n + 1, by rw [Hml.out]; omega, by go_num, hb.grown ((below_grown2 hb2 (some W.heap.size)).trans hg3) hb.size (fun k hk => by cases hk; exact Nat.le_refl _), by omega, ?_⟩
          refine MInv.step (w2 := w2) (x := x) hH (by rw [Hml.out]; exact hn') ?_ HF.out Hd.out Hr.out hb2 (by rw [em]; exact hx) (by rw [em]; exact hown3) hg3
          intro i hi
          rw [em, Hmg.out i (by omega), ← Hkn.out, ← ByteArray.toList_eq, ← ByteArray.toList_eq]
          exact rise_all ks rise n hn' i hi
        case measure => simp [intOf]; omega
    · go_wp2_with fail
      have e : n = ks.length := by omega
      refine bodyPost_ret (results_tmp2 rfl _ _ _) rfl ⟨_, rfl, ?_, (Hkey.out _ hb).2⟩
      rw [Hm.out]
      refine MInv.done (by rw [Hml.out]; omega) ?_ (by rw [HWs.out]; omega) hH (by rw [Hml.out, ← e]; exact Hinv.out)
      intro p hp
      obtain ⟨i, hi, rfl⟩ := List.getElem_of_mem hp
      rw [Hmg.out i (by rw [← Hml.out]; exact hi)]
      exact hs _ (List.getElem_mem _)
end Go.Proofs.YtjlkoekfcdpnaaaGreatDoor

namespace Go.Proofs.YtjlkoekfcdpnaaaGreatDoor
open Go Go.RowKit Go.Maps Go.Deep Go.WideMaps
theorem entries_len (m : List (ByteArray × J)) (E : Nat → Value) : (entries m E).length = m.length := by simp [entries]
theorem entries_get (m : List (ByteArray × J)) (E : Nat → Value) (i : Nat) (hi : i < (entries m E).length) :
    (entries m E)[i] = (Lit.string (m[i]'(by rw [← entries_len m E]; exact hi)).1.data.toList, DataW.held (E i)) := by simp [entries]
/-- No key twice. -/
def Apart (m : List (ByteArray × J)) : Prop := ∀ i j (hi : i < m.length) (hj : j < m.length), m[i].1 = m[j].1 → i = j
theorem same_str (a b : List UInt8) : Lit.sameKey (.string a) (.string b) = (a == b) := rfl
theorem data_inj {a b : ByteArray} (h : a.data.toList = b.data.toList) : a = b := by
  obtain ⟨⟨x⟩⟩ := a
  obtain ⟨⟨y⟩⟩ := b
  simp at h
  rw [h]
theorem atKey_at {m : List (ByteArray × J)} {E : Nat → Value} (ha : Apart m) {i : Nat} (hi : i < m.length) (z : DataW Value) :
    (DataW.map (entries m E)).atKey (.string m[i].1.data.toList) z = .held (E i) := by
  have hf : (entries m E).find? (fun p => p.1.sameKey (.string m[i].1.data.toList)) = some (Lit.string m[i].1.data.toList, DataW.held (E i)) := by
    rw [List.find?_eq_some_iff_getElem]
    refine ⟨by simp [same_str], i, by rw [entries_len]; exact hi, entries_get m E i _, fun j hj => ?_⟩
    rw [entries_get]
    simp only [same_str, Bool.not_eq_true', beq_eq_false_iff_ne]
    intro e
    have := ha j i (by omega) hi (data_inj e)
    omega
  simp only [DataW.atKey, hf]
theorem atKey_miss {m : List (ByteArray × J)} {E : Nat → Value} {k : ByteArray} (hk : ∀ p ∈ m, p.1 ≠ k) (z : DataW Value) :
    (DataW.map (entries m E)).atKey (.string k.data.toList) z = z := by
  have hf : (entries m E).find? (fun p => p.1.sameKey (.string k.data.toList)) = none := by
    rw [List.find?_eq_none]
    intro p hp
    obtain ⟨i, hi, rfl⟩ := List.mem_iff_getElem.1 hp
    rw [entries_get]
    simp only [same_str, beq_iff_eq]
    intro e
    exact hk _ (List.getElem_mem (by rw [← entries_len m E]; exact hi)) (data_inj e)
  simp only [DataW.atKey, hf]
theorem has_at {m : List (ByteArray × J)} {E : Nat → Value} {i : Nat} (hi : i < m.length) : Maps.has (DataW.map (entries m E)) (.string m[i].1.data.toList) = true := by
  unfold Maps.has
  rw [List.any_eq_true]
  exact ⟨_, List.getElem_mem (by rw [entries_len]; exact hi), by rw [entries_get m E i]; simp [same_str]⟩
theorem has_miss {m : List (ByteArray × J)} {E : Nat → Value} {k : ByteArray} (hk : ∀ p ∈ m, p.1 ≠ k) : Maps.has (DataW.map (entries m E)) (.string k.data.toList) = false := by
  unfold Maps.has
  rw [List.any_eq_false]
  intro p hp
  obtain ⟨i, hi, rfl⟩ := List.mem_iff_getElem.1 hp
  rw [entries_get]
  simp only [same_str, beq_iff_eq]
  intro e
  exact hk _ (List.getElem_mem (by rw [← entries_len m E]; exact hi)) (data_inj e)
theorem zero_any (w : World) : (zeroValue 20).run Tryz.prog w = .ok .nilIface w := by kernel_rfl
theorem heldR_inv {v : Value} {d : DataW Value} {ps : List MemPlace} (h : heldR v = some (d, ps)) : d = .held v := by
  unfold heldR at h
  simp at h
  exact h.1.symm
theorem MapAt.get {w : World} {r : Nat} {m : List (ByteArray × J)} {E : Nat → Value} (h : MapAt w r m E) (ha : Apart m) {i : Nat} (hi : i < m.length) (hs : m[i].1.size ≤ 140737488351232) :
    (Instr.lookup 53 (.map (some r)) (.string m[i].1) false).run Tryz.prog w = .ok (E i) w := by
  obtain ⟨n, _, hown⟩ := h
  obtain ⟨v, ps, hrun, hv⟩ := hown.lookup law_str Tryz.underlying53 (zero_any w) (zd := .held .nilIface) (zp := []) rfl (keyOf_string_mk (s := m[i].1) Tryz.underlying9 (by unfold maxLen; omega))
  rw [atKey_at ha hi] at hv
  have := heldR_inv hv
  cases this
  exact hrun
theorem MapAt.getOk {w : World} {r : Nat} {m : List (ByteArray × J)} {E : Nat → Value} (h : MapAt w r m E) (ha : Apart m) {i : Nat} (hi : i < m.length) (hs : m[i].1.size ≤ 140737488351232) :
    (Instr.lookup 53 (.map (some r)) (.string m[i].1) true).run Tryz.prog w = .ok (.tuple #[E i, .bool true]) w := by
  obtain ⟨n, _, hown⟩ := h
  obtain ⟨v, ps, hrun, hv⟩ := hown.look_ok law_str Tryz.underlying53 (zero_any w) (zd := .held .nilIface) (zp := []) rfl (keyOf_string_mk (s := m[i].1) Tryz.underlying9 (by unfold maxLen; omega))
  rw [atKey_at ha hi] at hv
  rw [has_at hi] at hrun
  have := heldR_inv hv
  cases this
  exact hrun
theorem MapAt.miss {w : World} {r : Nat} {m : List (ByteArray × J)} {E : Nat → Value} (h : MapAt w r m E) {k : ByteArray} (hk : ∀ p ∈ m, p.1 ≠ k) (hs : k.size ≤ 140737488351232) :
    (Instr.lookup 53 (.map (some r)) (.string k) false).run Tryz.prog w = .ok .nilIface w := by
  obtain ⟨n, _, hown⟩ := h
  obtain ⟨v, ps, hrun, hv⟩ := hown.lookup law_str Tryz.underlying53 (zero_any w) (zd := .held .nilIface) (zp := []) rfl (keyOf_string_mk (s := k) Tryz.underlying9 (by unfold maxLen; omega))
  rw [atKey_miss hk] at hv
  have := heldR_inv hv
  cases this
  exact hrun
theorem MapAt.missOk {w : World} {r : Nat} {m : List (ByteArray × J)} {E : Nat → Value} (h : MapAt w r m E) {k : ByteArray} (hk : ∀ p ∈ m, p.1 ≠ k) (hs : k.size ≤ 140737488351232) :
    (Instr.lookup 53 (.map (some r)) (.string k) true).run Tryz.prog w = .ok (.tuple #[.nilIface, .bool false]) w := by
  obtain ⟨n, _, hown⟩ := h
  obtain ⟨v, ps, hrun, hv⟩ := hown.look_ok law_str Tryz.underlying53 (zero_any w) (zd := .held .nilIface) (zp := []) rfl (keyOf_string_mk (s := k) Tryz.underlying9 (by unfold maxLen; omega))
  rw [atKey_miss hk] at hv
  rw [has_miss hk] at hrun
  have := heldR_inv hv
  cases this
  exact hrun
theorem MapAt.len {w : World} {r : Nat} {m : List (ByteArray × J)} {E : Nat → Value} (h : MapAt w r m E) (ty : TypeId) :
    (Builtin.len_ #[53] ty #[.map (some r)]).run Tryz.prog w = .ok (.int .i64 m.length) w := by
  obtain ⟨n, _, hown⟩ := h
  have := hown.len Tryz.underlying53 ty
  rw [Maps.size_eq, entries_len] at this
  exact this
theorem less_ne {a b : ByteArray} (h : Op.bytesLess a.toList b.toList = true) : a ≠ b := by
  rintro rfl
  rw [bl_irrefl] at h
  cases h
theorem apart_toJM {ks : List ByteArray} {vs : List V} (hlen : ks.length = vs.length) (rise : ∀ i (hi : i + 1 < ks.length), Op.bytesLess ks[i].toList ks[i + 1].toList = true) : Apart (toJM ks vs) := by
  intro i j hi hj h
  rw [toJM_len _ _ hlen] at hi hj
  rw [toJM_get _ _ hlen i hi, toJM_get _ _ hlen j hj] at h
  simp only at h
  rcases Nat.lt_trichotomy i j with c | c | c
  · exact absurd h (less_ne (rise_all ks rise j hj i c))
  · exact c
  · exact absurd h.symm (less_ne (rise_all ks rise i hi j c))
end Go.Proofs.YtjlkoekfcdpnaaaGreatDoor
