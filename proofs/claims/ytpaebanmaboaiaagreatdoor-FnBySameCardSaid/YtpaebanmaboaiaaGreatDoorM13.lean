/- The items' row is sorted by its keys: what package sort asks of 'less' and 'swap'. -/
/- What a value is as a tree of Go's, kind by kind. -/
/- Contracts of impl.result at what is no error; spec.Same and laws.told at good values. -/
/- laws.told at an error, at what the reference leaves open, and at values. -/
/- What impl.result returns for an answer of the reference; what laws.told says of it. -/
/- What a door of gojq leaves, for impl.result. -/
/- An array of some of an array's elements, in another order, as a value of type any. No function is walked here. -/
/- Contract of gojq.sortItems at two arrays of the same elements. -/
/- Contracts of gojq.sortBy and gojq.minMaxBy at two arrays of the same elements. -/
import Derived.Test.YtpaebanmaboaiaaGreatDoorM12
import Derived.Lib.ReflectliteSwap
import Derived.Test.YtpaebanmaboaiaaGreatDoorM01
import Derived.Test.YtpaebanmaboaiaaGreatDoorM04
import Derived.Test.YtpaebanmaboaiaaGreatDoorM09
import Derived.Test.YtpaebanmaboaiaaGreatDoorM03
import Derived.WalkLawsBesides
import Derived.Test.YtpaebanmaboaiaaGreatDoorM06
import Derived.Test.YtpaebanmaboaiaaGreatDoorM05
import Derived.Deep.Cut
import Derived.BigRegion
import Derived.Laws.MakeOwn
namespace Go.Proofs.YtpaebanmaboaiaaGreatDoor
open Go Go.RowKit Go.Deep Go.Lib
theorem But.setCell {w1 w : World} {ib : Nat} (h : But w1 ib w) (i : Nat) (v : Value) : But w1 ib (w.setCell ⟨ib, i, none⟩ v) :=
  ⟨h.os, h.tape, h.output, by simpa using h.size, fun k hk hne => (blk_setCell_other _ _ _ _ hne).trans (h.block k hk hne)⟩
theorem swapper3_run (args : Array Value) (W : World) : (callFunc 113 args).run Tryz.prog W = ((Extern.ReflectliteSwapper.swap true args).run Tryz.prog W).andThen fun v w' => .ok (.value v) w' :=
  run_callFunc_extern Tryz.func113 (by kernel_rfl) (by kernel_rfl) (by kernel_rfl) (e := Extern.ReflectliteSwapper.swap true) (by kernel_rfl) args W
set_option maxHeartbeats 1000000 in
theorem sorter_items {w0 w1 : World} {B n ib xb c sf : Nat} {sb : Array Value} {p : Nat → Nat} {fx fy : Nat → Value} {C : Nat → Nat → Int} (hb : Below B w0 w1) (hBi : B ≤ ib) (hib : ib < w1.heap.size) (hn : n < 4611686018427387904)
    (hxb : xb < w1.heap.size) (hne : xb ≠ ib) (hx : w1.cell? ⟨xb, 0, none⟩ = some (.slice (some ⟨ib, 0, none⟩) n c)) (hit : ItemsAt w1 n B p fx fy) (hpn : ∀ k, k < n → p k ≠ ib)
    (hC : ∀ i j, i < n → j < n → CmpAt w0 B (fy i) (fy j) (C i j)) (hsf : 2 ≤ n → sf = 113 ∧ sb = #[.slice (some ⟨ib, 0, none⟩) n c, typeHandle Tryz.prog 94]) :
    Sorter n w1.heap.size 68 sf #[.pointer (some ⟨xb, 0, none⟩)] sb (fun i j => decide (C i j < 0)) (SortI w1 ib n p) := by
  refine ⟨enters_of Tryz.func68 (by kernel_rfl) rfl, hn, fun r w h => h.2.1.size, fun r w o h => h.alloc o, fun r w h => h.next (Below.drew (Below.refl _ _)), fun r w i j h hi hj => ?_, fun r w i j h hi hj h2 => ?_⟩
  · have hbw : Below B w0 w := h.2.1.below hb hBi (by omega)
    have cx : w.cell? ⟨xb, 0, none⟩ = some (.slice (some ⟨ib, 0, none⟩) n c) := by
      rw [World.cell?, h.2.1.block xb hxb hne]
      exact hx
    have ck : ∀ k, k < n → w.cell? ⟨p (r k), 1, none⟩ = some (fy (r k)) := fun k hk => by
      obtain ⟨h1, h2, h3⟩ := hit (r k) (h.1.1 k hk)
      have h4 := h.2.1.block _ h2 (hpn _ (h.1.1 k hk))
      exact (item_cells (h4.trans h3)).2
    have hl := less_walk xb ib n c i j (p (r i)) (p (r j)) (fun k => fy (r k)) (C (r i) (r j)) w hi hj cx (h.2.2.cell hi) (h.2.2.cell hj) (ck i hi) (ck j hj)
      (hC _ _ (h.1.1 i hi) (h.1.1 j hj) w.drew hbw.drew (by have := h.2.1.size; show B ≤ w.heap.size; omega))
    exact hl.mono fun e w' ⟨he, hb'⟩ => ⟨he, h.next hb', hb'⟩
  · obtain ⟨rfl, rfl⟩ := hsf h2
    have ci := h.2.2.cell hi
    have cj := h.2.2.cell hj
    have fi := h.2.2.frozen i
    have fj := h.2.2.frozen j
    have := run_swap_one (P := Tryz.prog) true 94 rowE rowE_info rowE_size rowE_agg ib 0 n c i j hi hj (.pointer (some ⟨p (r i), 0, none⟩)) (.pointer (some ⟨p (r j), 0, none⟩)) rfl rfl w
      (by rw [Nat.zero_add]; exact ci) (by rw [Nat.zero_add]; exact cj) (by rw [Nat.zero_add]; exact fi) (by rw [Nat.zero_add]; exact fj)
    rw [Nat.zero_add, Nat.zero_add] at this
    refine ⟨(w.setCell ⟨ib, i, none⟩ (.pointer (some ⟨p (r j), 0, none⟩))).setCell ⟨ib, j, none⟩ (.pointer (some ⟨p (r i), 0, none⟩)), ?_, ⟨h.1.swp hi hj, (h.2.1.setCell i _).setCell j _, ?_⟩, by simp, fun k hk => ?_⟩
    · rw [swapper3_run, show (#[Value.int .i64 (i : Int), Value.int .i64 (j : Int)] ++ #[Value.slice (some ⟨ib, 0, none⟩) n c, typeHandle Tryz.prog 94]) = #[.int .i64 i, .int .i64 j, .slice (some ⟨ib, 0, none⟩) n c, typeHandle Tryz.prog 94] from rfl, this]
      rfl
    · refine ((h.2.2.set i _).set j _).congr fun k _ => ?_
      unfold swp
      by_cases e1 : k = j
      · subst e1
        simp only [if_true]
        split
        · rename_i e; rw [e]
        · rfl
      · simp only [e1, if_false]
        split <;> rfl
    · rw [blk_setCell_other _ _ _ _ (show k ≠ ib by omega), blk_setCell_other _ _ _ _ (show k ≠ ib by omega)]
end Go.Proofs.YtpaebanmaboaiaaGreatDoor

namespace Go.Proofs.YtpaebanmaboaiaaGreatDoor
open Go Go.RowKit
theorem toJ_5 (h : Int) (t : ByteArray) (l : List V) (ks : List ByteArray) (vs : List V) : toJ (.mk 5 h t l ks vs) = .arr (toJL l) := by unfold toJ; simp
end Go.Proofs.YtpaebanmaboaiaaGreatDoor

namespace Go.Proofs.YtpaebanmaboaiaaGreatDoor
open Go Go.RowKit Go.Maps Go.Deep
/-- x is no error. -/
def NoErr (x : Value) : Prop := ∀ w : World, (Instr.typeAssert x 20 56 true).run Tryz.prog w = .ok (.tuple #[.nilIface, .bool false]) w
theorem isnt_hole (v : Value) (w : World) : (Instr.typeAssert (.iface 72 v) 20 56 true).run Tryz.prog w = .ok (.tuple #[.nilIface, .bool false]) w :=
  run_assert_iface Tryz.underlying56 (by simp) (fun _ => by kernel_rfl) (by kernel_rfl) v w
theorem RepJ.noErr {w : World} {S : Nat → Prop} {j : J} {x : Value} (h : RepJ w S j x) : NoErr x := by
  intro w
  cases h with
  | null => exact isnt_nil w
  | bool => exact isnt_bool _ w
  | int => exact isnt_int _ w
  | flt => exact isnt_float _ w
  | str => exact isnt_string _ w
  | arr => exact isnt_slice _ w
  | obj => exact isnt_map _ w
  | hole => exact isnt_hole _ w
/-- What impl gives where it gives v. -/
def ResV (w : World) (v : V) (e : Ending) (w' : World) : Prop :=
  ∃ c0 c1 c2 c3 c4 c5, e = .returned (.agg #[c0, c1, c2, c3, c4, c5, .int .i64 0]) ∧ RepS w' (FreshS w.heap.size w'.heap.size) v [c0, c1, c2, c3, c4, c5] ∧ Below w.heap.size w w'
theorem set7_other (w : World) (b k : Nat) (v0 v1 v2 v3 v4 v5 v6 : Value) (h : k ≠ b) :
    (((((((w.setCell ⟨b, 0, none⟩ v0).setCell ⟨b, 1, none⟩ v1).setCell ⟨b, 2, none⟩ v2).setCell ⟨b, 3, none⟩ v3).setCell ⟨b, 4, none⟩ v4).setCell ⟨b, 5, none⟩ v5).setCell ⟨b, 6, none⟩ v6).heap[k]? = w.heap[k]? := by
  rw [Below.heap_setCell _ _ _ _ h, set6_other _ _ _ _ _ _ _ _ _ h]
theorem set7_size (w : World) (b : Nat) (v0 v1 v2 v3 v4 v5 v6 : Value) :
    (((((((w.setCell ⟨b, 0, none⟩ v0).setCell ⟨b, 1, none⟩ v1).setCell ⟨b, 2, none⟩ v2).setCell ⟨b, 3, none⟩ v3).setCell ⟨b, 4, none⟩ v4).setCell ⟨b, 5, none⟩ v5).setCell ⟨b, 6, none⟩ v6).heap.size = w.heap.size := by simp [World.setCell]
set_option maxHeartbeats 4000000 in
set_option maxRecDepth 100000 in
theorem result_val {x : Value} {v : V} (ht : NoErr x) (hf : x = .nilIface ∨ ∃ t y, x = .iface t y) (w0 : World) (B : Nat) (H : FromOK w0 B v x) (w : World) (hbel : Below B w0 w) (hB : B ≤ w.heap.size) : Calls Tryz.prog 18 #[x] w (ResV w v) := by
  have h := ht
  unfold NoErr at h
  have HH := Lib.hid (H _ (hbel.trans ((below_alloc1 w (.cells #[.int .i64 0, .int .i64 0, .string ⟨#[]⟩, .slice none 0 0, .slice none 0 0, .slice none 0 0, .int .i64 0] 29)).mono hB)) (by simp; omega))
  clear H hbel ht
  rcases hf with rfl | ⟨ty, y, rfl⟩
  all_goals
    go_enter Tryz.func18, Tryz.ntmps18
    go_wp2_with fail
    refine HH.out.mono ?_
    rintro e w2 ⟨cs, rfl, hx, hw2⟩
    have hat := (hw2.block w.heap.size (by simp)).trans (at_alloc w _)
    obtain ⟨e0, e1, e2, e3, e4, e5, e6⟩ := of_block7 hat
    obtain ⟨z0, z1, z2, z3, z4, z5, z6⟩ := free_block7 hat
    have hlt : w.heap.size < w2.heap.size := by have := hw2.size; simp at this; omega
    have hne : ¬ (w.heap.size = w2.heap.size) := by omega
    obtain ⟨k, hh, t, la', ka', va', nl, cl, nk, ck, nv, cv, hcs⟩ := hx.shape
    have Hx := Lib.hid hx
    have Hat := Lib.hid hat
    have Hw2 := Lib.hid hw2
    clear hat hw2 hx
    subst hcs
    go_wp2_with fail
    refine bodyPost_ret (v := .agg #[.int .i64 k, .int .i64 hh, .string t, .slice la' nl cl, .slice ka' nk ck, .slice va' nv cv, .int .i64 0]) ?_ rfl ⟨_, _, _, _, _, _, rfl, ?_, ?_⟩
    · refine results_cell_row (p := 2) (ty := 29) rfl _ _ w.heap.size 29 _ (0, 0) _ rfl ?_ Tryz.underlying29 rfl (by kernel_rfl)
      rw [heap_alloc_old _ _ (by rw [set7_size]; exact hlt)]
      exact set_row7 Hat.out _ _ _ _ _ _ _
    · refine Hx.out.turn fun q hq => ⟨?_, ?_⟩
      · have := hq.1
        simp at this
        rw [heap_alloc_old _ _ (by rw [set7_size]; exact hq.2), set7_other _ _ _ _ _ _ _ _ _ _ (by omega)]
      · have h1 := hq.1
        have h2 := hq.2
        simp only [World.size_alloc] at h1
        refine ⟨by omega, ?_⟩
        rw [size_alloc1, set7_size]
        omega
    · have hb : Below w.heap.size w w2 := below_next (below_alloc1 w _) Hw2.out
      refine Below.alloc ?_ (by rw [set7_size]; omega) _
      exact ((((((hb.setCell (Nat.le_refl _) _).setCell (Nat.le_refl _) _).setCell (Nat.le_refl _) _).setCell (Nat.le_refl _) _).setCell (Nat.le_refl _) _).setCell (Nat.le_refl _) _).setCell (Nat.le_refl _) _
end Go.Proofs.YtpaebanmaboaiaaGreatDoor

namespace Go.Proofs.YtpaebanmaboaiaaGreatDoor
open Go Go.RowKit
def Yes (w : World) (e : Ending) (w' : World) : Prop := e = .returned (.bool true) ∧ Below w.heap.size w w'
set_option maxRecDepth 100000 in
theorem told_raises (k h k' h' : Int) (t t' : ByteArray) (la ka va la' ka' va' : Option Addr) (nl cl nk ck nv cv nl' cl' nk' ck' nv' cv' : Nat) (w : World) :
    Calls Tryz.prog 20 #[.agg #[.int .i64 k, .int .i64 h, .string t, .slice la nl cl, .slice ka nk ck, .slice va nv cv, .int .i64 1], .agg #[.int .i64 k', .int .i64 h', .string t', .slice la' nl' cl', .slice ka' nk' ck', .slice va' nv' cv'], .int .i64 1] w (Yes w) := by
  go_enter Tryz.func20, Tryz.ntmps20
  go_wp2_with fail
  go_ret
  exact ⟨rfl, below_alloc2 _ _ _⟩
set_option maxRecDepth 100000 in
theorem told_silent (k h k' h' n : Int) (t t' : ByteArray) (la ka va la' ka' va' : Option Addr) (nl cl nk ck nv cv nl' cl' nk' ck' nv' cv' : Nat) (w : World) :
    Calls Tryz.prog 20 #[.agg #[.int .i64 k, .int .i64 h, .string t, .slice la nl cl, .slice ka nk ck, .slice va nv cv, .int .i64 n], .agg #[.int .i64 k', .int .i64 h', .string t', .slice la' nl' cl', .slice ka' nk' ck', .slice va' nv' cv'], .int .i64 2] w (Yes w) := by
  go_enter Tryz.func20, Tryz.ntmps20
  go_wp2_with fail
  go_ret
  exact ⟨rfl, below_alloc2 _ _ _⟩
set_option maxRecDepth 100000 in
theorem told_val (w : World) (a b : V) (c0 c1 c2 c3 c4 c5 : Value) (cb : List Value) (ha : RepV w w.heap.size a [c0, c1, c2, c3, c4, c5]) (hb : RepV w w.heap.size b cb) :
    Calls Tryz.prog 20 #[.agg #[c0, c1, c2, c3, c4, c5, .int .i64 0], .agg cb.toArray, .int .i64 0] w (BoolP w (sameB a b)) := by
  have H := Lib.hid (same_any w w.heap.size a b _ _ ha hb)
  obtain ⟨k, h, t, la, ka, va, nl, cl, nk, ck, nv, cv, e⟩ := ha.shape
  obtain ⟨k', h', t', la', ka', va', nl', cl', nk', ck', nv', cv', rfl⟩ := hb.shape
  simp only [List.cons.injEq, and_true] at e
  obtain ⟨rfl, rfl, rfl, rfl, rfl, rfl⟩ := e
  clear ha hb
  have hbW := below_alloc2 w (.cells #[.int .i64 k, .int .i64 h, .string t, .slice la nl cl, .slice ka nk ck, .slice va nv cv, .int .i64 0] 29)
    (.cells #[.int .i64 k', .int .i64 h', .string t', .slice la' nl' cl', .slice ka' nk' ck', .slice va' nv' cv'] 26)
  go_enter Tryz.func20, Tryz.ntmps20
  go_wp2_with fail
  refine (H.out _ hbW (by simp; omega)).mono ?_
  rintro e w2 ⟨rfl, hw⟩
  go_wp2_with fail
  go_ret
  exact ⟨rfl, below_next hbW hw⟩
end Go.Proofs.YtpaebanmaboaiaaGreatDoor

namespace Go.Proofs.YtpaebanmaboaiaaGreatDoor
open Go Go.RowKit Go.Maps Go.Deep
/-- What impl.result returns where the answer is an. -/
def ResQ (w : World) (an : Ans) (e : Ending) (w' : World) : Prop :=
  ∃ (k h : Int) (t : ByteArray) (la ka va : Option Addr) (nl cl nk ck nv cv : Nat) (n : Int), e = .returned (.agg #[.int .i64 k, .int .i64 h, .string t, .slice la nl cl, .slice ka nk ck, .slice va nv cv, .int .i64 n]) ∧
    ((∀ v, an = .fine v → n = 0 ∧ RepS w' (FreshS w.heap.size w'.heap.size) v [.int .i64 k, .int .i64 h, .string t, .slice la nl cl, .slice ka nk ck, .slice va nv cv]) ∧ (an = .raises → n = 1)) ∧ Below w.heap.size w w'
theorem resQ_val {w : World} {x : Value} {v : V} {an : Ans} (h : Calls Tryz.prog 18 #[x] w (ResV w v)) (ha : an = .fine v ∨ an = .silent) : Calls Tryz.prog 18 #[x] w (ResQ w an) := by
  refine h.mono ?_
  rintro e w' ⟨c0, c1, c2, c3, c4, c5, rfl, hr, hb⟩
  obtain ⟨k, h, t, la, ka, va, nl, cl, nk, ck, nv, cv, e⟩ := hr.shape
  simp only [List.cons.injEq, and_true] at e
  obtain ⟨rfl, rfl, rfl, rfl, rfl, rfl⟩ := e
  refine ⟨_, _, _, _, _, _, _, _, _, _, _, _, _, rfl, ⟨fun v' hv => ?_, fun hv => ?_⟩, hb⟩
  · rcases ha with ha | ha
    · rw [ha] at hv
      cases hv
      exact ⟨rfl, hr⟩
    · rw [ha] at hv; cases hv
  · rcases ha with ha | ha <;> (rw [ha] at hv; cases hv)
theorem resQ_err {u : Value} (hu : ErrV u) (w : World) : Calls Tryz.prog 18 #[u] w (ResQ w .raises) :=
  (result_err u hu w).mono fun e w' ⟨he, hb⟩ => ⟨_, _, _, _, _, _, _, _, _, _, _, _, _, he, ⟨fun v hv => (by cases hv), fun _ => rfl⟩, hb⟩
/-- What a callback leaves, for impl.result. -/
abbrev SubR (w : World) (an : Ans) (v : Value) (w' : World) : Prop := (v = .nilIface ∨ ∃ t y, v = .iface t y) ∧ Calls Tryz.prog 18 #[v] w' (ResQ w' an) ∧ Below w.heap.size w w'
theorem resQ_store {w w3 w4 : World} {an : Ans} {z : Nat} {k h : Int} {t : ByteArray} {la ka va : Option Addr} {nl cl nk ck nv cv : Nat} {n : Int} (hz : w.heap.size ≤ z) (hz2 : z < w3.heap.size) (hb3 : Below w.heap.size w w3) (hb4 : Below w3.heap.size w3 w4)
    (hR : (∀ v, an = .fine v → n = 0 ∧ RepS w4 (FreshS w3.heap.size w4.heap.size) v [.int .i64 k, .int .i64 h, .string t, .slice la nl cl, .slice ka nk ck, .slice va nv cv]) ∧ (an = .raises → n = 1)) :
    ResQ w an (.returned (.agg #[.int .i64 k, .int .i64 h, .string t, .slice la nl cl, .slice ka nk ck, .slice va nv cv, .int .i64 n]))
      (((((((w4.setCell ⟨z, 0, none⟩ (.int .i64 k)).setCell ⟨z, 1, none⟩ (.int .i64 h)).setCell ⟨z, 2, none⟩ (.string t)).setCell ⟨z, 3, none⟩ (.slice la nl cl)).setCell ⟨z, 4, none⟩ (.slice ka nk ck)).setCell ⟨z, 5, none⟩ (.slice va nv cv)).setCell ⟨z, 6, none⟩ (.int .i64 n)) := by
  have h3 := hb3.size
  have h4 := hb4.size
  refine ⟨_, _, _, _, _, _, _, _, _, _, _, _, _, rfl, ⟨fun v hv => ?_, hR.2⟩, ?_⟩
  · obtain ⟨e, hr⟩ := hR.1 v hv
    refine ⟨e, hr.turn fun q hq => ⟨set7_other _ _ _ _ _ _ _ _ _ _ ?_, ?_⟩⟩
    · unfold FreshS at hq; omega
    · unfold FreshS at hq ⊢
      rw [set7_size]
      omega
  · exact (((((((hb3.trans (hb4.mono h3)).setCell (by simp; omega) _).setCell (by simp; omega) _).setCell (by simp; omega) _).setCell (by simp; omega) _).setCell (by simp; omega) _).setCell (by simp; omega) _).setCell (by simp; omega) _
/-- What a result of seven cells says, where the answer is an. -/
def Got (w : World) (an : Ans) (k h : Int) (t : ByteArray) (la ka va : Option Addr) (nl cl nk ck nv cv : Nat) (n : Int) : Prop :=
  (∀ v, an = .fine v → n = 0 ∧ RepV w w.heap.size v [.int .i64 k, .int .i64 h, .string t, .slice la nl cl, .slice ka nk ck, .slice va nv cv]) ∧ (an = .raises → n = 1)
/-- A result of seven cells; new memory alone since W. -/
def GotFrom (W : World) (an : Ans) (e : Ending) (w' : World) : Prop :=
  ∃ (k h : Int) (t : ByteArray) (la ka va : Option Addr) (nl cl nk ck nv cv : Nat) (n : Int), e = .returned (.agg #[.int .i64 k, .int .i64 h, .string t, .slice la nl cl, .slice ka nk ck, .slice va nv cv, .int .i64 n]) ∧
    Got w' an k h t la ka va nl cl nk ck nv cv n ∧ Below W.heap.size W w'
theorem ResQ.from {W w : World} {an : Ans} {e : Ending} {w' : World} (h : ResQ w an e w') (hw : Below W.heap.size W w) : GotFrom W an e w' := by
  obtain ⟨k, h, t, la, ka, va, nl, cl, nk, ck, nv, cv, n, he, hR, hb⟩ := h
  exact ⟨k, h, t, la, ka, va, nl, cl, nk, ck, nv, cv, n, he, ⟨fun v hv => ⟨(hR.1 v hv).1, (hR.1 v hv).2.toV fun q hq => hq.2⟩, hR.2⟩, hw.trans (hb.mono hw.size)⟩
theorem told_ans {w : World} {an : Ans} (hg : ∀ v, an = .fine v → Good v) {k h n k1 h1 : Int} {t t1 : ByteArray} {la ka va la1 ka1 va1 : Option Addr} {nl cl nk ck nv cv nl1 cl1 nk1 ck1 nv1 cv1 : Nat}
    (hR : Got w an k h t la ka va nl cl nk ck nv cv n) (hP : ∀ v, an = .fine v → RepV w w.heap.size v [.int .i64 k1, .int .i64 h1, .string t1, .slice la1 nl1 cl1, .slice ka1 nk1 ck1, .slice va1 nv1 cv1]) :
    Calls Tryz.prog 20 #[.agg #[.int .i64 k, .int .i64 h, .string t, .slice la nl cl, .slice ka nk ck, .slice va nv cv, .int .i64 n], .agg #[.int .i64 k1, .int .i64 h1, .string t1, .slice la1 nl1 cl1, .slice ka1 nk1 ck1, .slice va1 nv1 cv1], .int .i64 an.how] w (Yes w) := by
  cases an with
  | raises =>
    obtain rfl := hR.2 rfl
    exact told_raises _ _ _ _ _ _ _ _ _ _ _ _ _ _ _ _ _ _ _ _ _ _ _ _ w
  | silent => exact told_silent _ _ _ _ _ _ _ _ _ _ _ _ _ _ _ _ _ _ _ _ _ _ _ _ _ w
  | fine v =>
    obtain ⟨rfl, r1⟩ := hR.1 v rfl
    have := told_val w v v _ _ _ _ _ _ _ r1 (hP v rfl)
    rw [(sameB_iff (hg v rfl) (hg v rfl)).2 rfl] at this
    exact this
end Go.Proofs.YtpaebanmaboaiaaGreatDoor

namespace Go.Proofs.YtpaebanmaboaiaaGreatDoor
open Go Go.RowKit Go.Deep
def JR (w : World) (an : Ans) (v : Value) (w' : World) : Prop := Below w.heap.size w w' ∧ (∀ y, an = .fine y → RepJ w' (· < w'.heap.size) (toJ y) v) ∧ (an = .raises → ErrV v)
theorem small_row {l : List V} (hl : l.length * 104 ≤ 140737488351232) (h : ∀ x ∈ l, Small x) : Small (.mk 5 0 ⟨#[]⟩ l [] []) :=
  .mk hl (by simp) (by simp) (fun i hi => h _ (List.getElem_mem hi)) (fun i hi => by simp at hi)
theorem Small.parts {v : V} (h : Small v) : v.list.length * 104 ≤ 140737488351232 ∧ (∀ x ∈ v.list, Small x) ∧ ∀ x ∈ v.vals, Small x := by
  cases h with
  | mk hl hks hvs sl sv =>
    refine ⟨hl, fun x hx => ?_, fun x hx => ?_⟩
    · obtain ⟨i, hi, rfl⟩ := List.mem_iff_getElem.1 hx
      exact sl i hi
    · obtain ⟨i, hi, rfl⟩ := List.mem_iff_getElem.1 hx
      exact sv i hi
theorem subR_of {w w' : World} {an : Ans} {v : Value} (hg : ∀ y, an = .fine y → Good y ∧ Small y) (hns : an ≠ .silent) (h : JR w an v w') : SubR w an v w' := by
  obtain ⟨hb, hf, hr⟩ := h
  cases an with
  | fine y =>
    have hj := hf y rfl
    obtain ⟨gy, sy⟩ := hg y rfl
    exact ⟨hj.form, resQ_val (result_val hj.noErr hj.form w' w'.heap.size (fromGo_any gy sy w' w'.heap.size _ _ hj (fun k hk => hk)) w' (Below.refl _ _) (Nat.le_refl _)) (.inl rfl), hb⟩
  | raises =>
    have hv := hr rfl
    exact ⟨by obtain ⟨t, a, rfl⟩ := hv.form; exact .inr ⟨_, _, rfl⟩, resQ_err hv _, hb⟩
  | silent => exact absurd rfl hns
end Go.Proofs.YtpaebanmaboaiaaGreatDoor

namespace Go.Proofs.YtpaebanmaboaiaaGreatDoor
open Go Go.RowKit Go.Deep
theorem repJ_pick {w : World} {S : Nat → Prop} {l : List V} {f : Nat → Value} {F : Nat → Nat → Prop} {q : List Nat} {g : Nat → Value} {a : Option Addr} {c nb o N : Nat}
    (hR : ∀ i (hi : i < l.length), RepJ w (F i) (toJ l[i]) (f i)) (hsub : ∀ i k, i < l.length → F i k → S k) (hdis : ∀ i j k, i < j → j < l.length → F i k → F j k → False)
    (hq : Places l.length q) (hl : l.length * 16 ≤ 140737488351232) (hrow : 0 < q.length → a = some ⟨nb, o, none⟩ ∧ w.rowIs nb 20 N g ∧ o + q.length ≤ N ∧ ∀ i (hi : i < q.length), g (o + i) = f q[i])
    (hS : ¬ S nb) (hc : q.length ≤ c) (hcb : c ≤ capMax) (hnn : a ≠ none) : RepJ w (fun k => S k ∨ k = nb) (toJ (pickV l q)) (.iface 49 (.slice a q.length c)) := by
  have hlen : (q.map (toJ ∘ atV l)).length = q.length := by simp
  have hql := hq.len
  have hin : ∀ i (hi : i < q.length), q[i] < l.length := fun i hi => hq.2 _ (List.getElem_mem hi)
  have hF : ∀ i (hi : i < q.length), F (q[i]?.getD 0) = F q[i] := fun i hi => by rw [List.getElem?_eq_getElem hi]; rfl
  unfold pickV
  rw [toJ_5, toJL_eq, List.map_map]
  have := @RepJ.arr w (fun k => S k ∨ k = nb) (q.map (toJ ∘ atV l)) a c g nb o N (fun i => F (q[i]?.getD 0)) (by rw [hlen]; omega) (by rw [hlen]; exact hc)
    (fun h0 => by rw [hlen] at h0; obtain ⟨e, h1, h2, _⟩ := hrow h0; exact ⟨e, .inr rfl, h1, by rw [hlen]; exact h2⟩)
    (fun i hi => by rw [hlen] at hi; rw [hF i hi]; exact fun h => hS (hsub _ _ (hin i hi) h))
    (fun i k hi hk => by rw [hlen] at hi; rw [hF i hi] at hk; exact .inl (hsub _ _ (hin i hi) hk))
    (fun i j k hij hj h1 h2 => by
      rw [hlen] at hj
      rw [hF i (by omega)] at h1
      rw [hF j hj] at h2
      have hne : q[i] ≠ q[j] := List.pairwise_iff_getElem.1 hq.1 i j (by omega) hj hij
      rcases Nat.lt_or_gt_of_ne hne with h | h
      · exact hdis _ _ k h (hin j hj) h1 h2
      · exact hdis _ _ k h (hin i (by omega)) h2 h1)
    (fun i hi => by
      rw [hlen] at hi
      obtain ⟨_, _, _, hg⟩ := hrow (by omega)
      rw [hg i hi, hF i hi, List.getElem_map, Function.comp_apply, atV_get (hin i hi)]
      exact hR _ (hin i hi)) hcb hnn
  rwa [hlen] at this
/-- What stands in an array: its elements' values and where they lie. -/
structure ArrIn (w : World) (B : Nat) (l : List V) (a : Option Addr) (c : Nat) (f : Nat → Value) (F : Nat → Nat → Prop) : Prop where
  len : l.length * 16 ≤ 140737488351232
  cap : l.length ≤ c
  rep : ∀ i (hi : i < l.length), RepJ w (F i) (toJ l[i]) (f i)
  low : ∀ i k, i < l.length → F i k → k < B
  dis : ∀ i j k, i < j → j < l.length → F i k → F j k → False
  cells : CellsOf w B a l.length f
theorem arrIn_of {w : World} {S : Nat → Prop} {B : Nat} {h : Int} {t : ByteArray} {l : List V} {ks : List ByteArray} {vs : List V} {x : Value} (hx : RepJ w S (toJ (.mk 5 h t l ks vs)) x) (hS : ∀ k, S k → k < B) :
    ∃ a c f F, x = .iface 49 (.slice a l.length c) ∧ ArrIn w B l a c f F := by
  rw [toJ_5] at hx
  generalize hm : toJL l = m at hx
  have hml : m.length = l.length := by rw [← hm]; exact toJL_len l
  cases hx with
  | @arr _ _ a c f b o N F hlm hc ca own sub dis ra hcb hnn =>
    refine ⟨a, c, fun i => f (o + i), F, by rw [hml], ⟨by omega, by omega, fun i hi => ?_, fun i k hi hk => hS k (sub i k (by omega) hk), fun i j k hij hj => dis i j k hij (by omega), fun h0 => ?_⟩⟩
    · have := ra i (by omega)
      subst hm
      rw [toJL_get l i hi] at this
      exact this
    · obtain ⟨e1, e2, e3, e4⟩ := ca (by omega)
      exact ⟨b, o, e1, hS b e2, fun i hi => e3.cell (i := o + i) (by omega)⟩
end Go.Proofs.YtpaebanmaboaiaaGreatDoor

namespace Go.Proofs.YtpaebanmaboaiaaGreatDoor
open Go Go.RowKit Go.Maps Go.Deep
attribute [local go_sem] assert_sl assert_sl_nil
/-- What sortItems leaves: the items in their order. -/
def ItemsP (w : World) (l : List V) (fx fy : Nat → Value) (e : Ending) (w' : World) : Prop :=
  ∃ (ib : Nat) (p : Nat → Nat), e = .returned (.tuple #[.slice (some ⟨ib, 0, none⟩) l.length l.length, .nilIface]) ∧ w.heap.size ≤ ib ∧ ib < w'.heap.size ∧ ItemsAt w' l.length w.heap.size p fx fy ∧
    w'.rowIs ib 94 l.length (fun k => .pointer (some ⟨p (ordR l k), 0, none⟩)) ∧ PermN l.length (ordR l) ∧ Below w.heap.size w w'
/-- The loop that makes the items: n are made. -/
def MakeI (w : World) (len ib : Nat) (fx fy : Nat → Value) (v : Value) (wr : World) : Prop :=
  ∃ (n : Nat) (p : Nat → Nat), v = .int .i64 n ∧ n ≤ len ∧ ItemsAt wr n w.heap.size p fx fy ∧ (∀ k, k < n → p k ≠ ib) ∧ wr.rowIs ib 94 len (fun k => if k < n then .pointer (some ⟨p k, 0, none⟩) else .pointer none) ∧
    Below w.heap.size w wr ∧ wr.cell? ⟨w.heap.size + 1, 0, none⟩ = some (.slice (some ⟨ib, 0, none⟩) len len) ∧ w.heap.size + 1 < wr.heap.size
theorem MakeI.step {w wr : World} {len n : Nat} {p : Nat → Nat} {fx fy : Nat → Value} {x y : Value} (hx : fx n = x) (hy : fy n = y) (hn : n < len) (hit : ItemsAt wr n w.heap.size p fx fy) (hpn : ∀ k, k < n → p k ≠ w.heap.size) (hrow : wr.rowIs w.heap.size 94 len (fun k => if k < n then .pointer (some ⟨p k, 0, none⟩) else .pointer none))
    (hb : Below w.heap.size w wr) (hxb : wr.cell? ⟨w.heap.size + 1, 0, none⟩ = some (.slice (some ⟨w.heap.size, 0, none⟩) len len)) (hsz : w.heap.size + 1 < wr.heap.size) :
    MakeI w len w.heap.size fx fy (.int .i64 ((n : Int) + 1)) ((wr.setCell ⟨w.heap.size, n, none⟩ (.pointer (some ⟨wr.heap.size, 0, none⟩))).alloc (.cells #[x, y] 96)).drew := by
  subst hx
  subst hy
  have hs2 : (wr.setCell ⟨w.heap.size, n, none⟩ (.pointer (some ⟨wr.heap.size, 0, none⟩))).heap.size = wr.heap.size := by simp
  have hs3 := size_alloc1 (wr.setCell ⟨w.heap.size, n, none⟩ (.pointer (some ⟨wr.heap.size, 0, none⟩))) (.cells #[fx n, fy n] 96)
  have hat := at_alloc (wr.setCell ⟨w.heap.size, n, none⟩ (.pointer (some ⟨wr.heap.size, 0, none⟩))) (.cells #[fx n, fy n] 96)
  rw [hs2] at hat
  have hold := fun k (hk : k < wr.heap.size) => heap_alloc_old (wr.setCell ⟨w.heap.size, n, none⟩ (.pointer (some ⟨wr.heap.size, 0, none⟩))) (.cells #[fx n, fy n] 96) (k := k) (by rw [hs2]; exact hk)
  refine ⟨n + 1, fun k => if k = n then wr.heap.size else p k, by go_num, hn, fun k hk => ?_, fun k hk => ?_, (((hrow.set n _).alloc _).drew).congr fun k _ => ?_, ((hb.setCell (Nat.le_refl _) _).alloc (by rw [hs2]; omega) _).drew, ?_, ?_⟩
  · by_cases e : k = n
    · subst e
      simp only [if_true]
      exact ⟨by omega, by show _ < ((World.alloc _ _).heap).size; omega, hat⟩
    · simp only [e, if_false]
      obtain ⟨h1, h2, h3⟩ := hit k (by omega)
      exact ⟨h1, by show _ < ((World.alloc _ _).heap).size; omega, (hold _ h2).trans ((blk_setCell_other _ _ _ _ (hpn k (by omega))).trans h3)⟩
  · by_cases e : k = n
    · subst e
      simp only [if_true]
      omega
    · simp only [e, if_false]
      exact hpn k (by omega)
  · by_cases e : k = n
    · subst e
      simp
    · simp only [e, if_false]
      by_cases e2 : k < n
      · rw [if_pos e2, if_pos (by omega)]
      · rw [if_neg e2, if_neg (by omega)]
  · have := (hold (w.heap.size + 1) hsz).trans (blk_setCell_other _ _ _ _ (show w.heap.size + 1 ≠ w.heap.size by omega))
    show (World.alloc _ _).cell? _ = _
    rw [World.cell?, this]
    exact hxb
  · show _ < (World.alloc _ _).heap.size
    omega
theorem cell_new1 (W : World) (v : Value) (t : TypeId) : (W.alloc (.cells #[v] t)).cell? ⟨W.heap.size, 0, none⟩ = some v := by
  rw [World.cell?_alloc_at _ _ _ _ (by simp)]; rfl
set_option maxHeartbeats 4000000 in
set_option maxRecDepth 100000 in
theorem sortItems_any {w0 : World} {B : Nat} {l : List V} (gl : ∀ x ∈ l, Good x) (sl : ∀ x ∈ l, Small x) {a a' : Option Addr} {c c' : Nat} {f f' : Nat → Value} {F F' : Nat → Nat → Prop} (ax : ArrIn w0 B l a c f F) (ay : ArrIn w0 B l a' c' f' F') (s : ByteArray)
    (w : World) (hbel : Below B w0 w) (hB : B ≤ w.heap.size) :
    Calls Tryz.prog 55 #[.string s, .iface 49 (.slice a l.length c), .iface 49 (.slice a' l.length c')] w (ItemsP w l f f') := by
  obtain ⟨i0, hi, hz0, hz1, hz2⟩ : ∃ i0, Tryz.prog.info? 94 = some i0 ∧ i0.zero = some (.pointer none) ∧ i0.size = 1 ∧ i0.bytes = 8 := ⟨rowE, rowE_info, by kernel_rfl, rowE_size, by kernel_rfl⟩
  have hmk := run_make (P := Tryz.prog) w 91 94 i0 (.pointer none) Tryz.underlying91 hi hz0 .i64 .i64 l.length l.length (by omega) (by omega) (by rw [hz2]; have := ax.len; omega) (by have := ax.len; omega)
  have hlen := ax.len
  have Hax := Lib.hid ax
  have Hay := Lib.hid ay
  have Hbel := Lib.hid hbel
  clear ax ay hbel
  go_enter Tryz.func55, Tryz.ntmps55
  go_wp2_with fail
  have hx1 : ((w.alloc (.cells (madeCells #[.pointer none] l.length) 94)).alloc (.cells #[.slice (some ⟨w.heap.size, 0, none⟩) l.length l.length] 91)).cell? ⟨w.heap.size + 1, 0, none⟩ = some (.slice (some ⟨w.heap.size, 0, none⟩) l.length l.length) := by
    have := cell_new1 (w.alloc (.cells (madeCells #[.pointer none] l.length) 94)) (.slice (some ⟨w.heap.size, 0, none⟩) l.length l.length) 91
    rwa [size_alloc1] at this
  have hr1 : ((w.alloc (.cells (madeCells #[.pointer none] l.length) 94)).alloc (.cells #[.slice (some ⟨w.heap.size, 0, none⟩) l.length l.length] 91)).rowIs w.heap.size 94 l.length (fun _ => .pointer none) :=
    (World.rowIs_made w (.pointer none) l.length 94).alloc _
  have hs1 := size_alloc2 w (.cells (madeCells #[.pointer none] l.length) 94) (.cells #[.slice (some ⟨w.heap.size, 0, none⟩) l.length l.length] 91)
  have hb1 := below_alloc2 w (.cells (madeCells #[.pointer none] l.length) 94) (.cells #[.slice (some ⟨w.heap.size, 0, none⟩) l.length l.length] 91)
  generalize (w.alloc _).alloc _ = W1 at *
  clear hmk hi hz0 hz1 hz2
  go_loopw [66] (fun v wr => MakeI w l.length w.heap.size f f' v wr) (fun v _ => l.length - (intOf v).toNat)
  case atStart => exact ⟨0, fun _ => 0, by go_num, Nat.zero_le _, fun k hk => by omega, fun k hk => by omega, hr1.congr fun k _ => by simp, hb1, hx1, by omega⟩
  case round =>
    obtain ⟨n, p, rfl, hn, hit, hpn, hrow, hb, hxb, hsz⟩ := hrel
    have hs := hb.size
    by_cases hlt : n < l.length
    · have u1 : (n : Int) < (l.length : Int) := by omega
      have u3 : (0 : Int) ≤ (n : Int) := by omega
      obtain ⟨b1, o1, rfl, hb1', c1⟩ := Hax.out.cells (by omega)
      obtain ⟨b2, o2, rfl, hb2', c2⟩ := Hay.out.cells (by omega)
      have hb0 : Below B w0 wr := Hbel.out.trans (hb.mono hB)
      have y1 : wr.cell? ⟨b1, o1 + n, none⟩ = some (f n) := (hb0.cell (p := ⟨b1, o1 + n, none⟩) hb1').trans (c1 n hlt)
      have y2 : wr.cell? ⟨b2, o2 + n, none⟩ = some (f' n) := (hb0.cell (p := ⟨b2, o2 + n, none⟩) hb2').trans (c2 n hlt)
      have q1 := (Hax.out.rep n hlt).form
      have q2 := (Hay.out.rep n hlt).form
      have y3 := hrow.cell hlt
      have y4 := hrow.frozen n
      have y5 := hrow.lt
      have Hrow := Lib.hid hrow
      have Hit := Lib.hid hit
      have Hb := Lib.hid hb
      have Hpn := Lib.hid hpn
      clear c1 c2 hrow hit hb hpn hb0
      generalize hv1 : f n = v1 at *
      generalize hv2 : f' n = v2 at *
      have Hv1 := Lib.hid hv1
      have Hv2 := Lib.hid hv2
      clear hv1 hv2
      rcases q1 with rfl | ⟨t1, x1, rfl⟩ <;> rcases q2 with rfl | ⟨t2, x2, rfl⟩
      all_goals
        go_upto_region 15 with fail
        go_region
        all_goals
          go_wp2_with fail
          exact ⟨MakeI.step Hv1.out Hv2.out hlt Hit.out Hpn.out Hrow.out Hb.out hxb hsz, by simp [intOf]; omega⟩
    · have u1 : ¬ (n : Int) < (l.length : Int) := by omega
      obtain rfl : n = l.length := by omega
      have hbw : Below B w0 wr := Hbel.out.trans (hb.mono hB)
      have hib := hrow.lt
      have hSo := Lib.hid fun sf sb hsf => sorter_items (w0 := w0) (w1 := wr) (B := B) (n := l.length) (ib := w.heap.size) (xb := w.heap.size + 1) (c := l.length) (sf := sf) (sb := sb) (p := p) (fx := f) (fy := f') (C := fun i j => cmpV (atV l i) (atV l j)) hbw (by omega) hib (by omega) hsz (by omega) hxb
        (fun k hk => ⟨by have := (hit k hk).1; omega, (hit k hk).2⟩) hpn (fun i j hi hj => by
          rw [atV_get hi, atV_get hj]
          have Hy := Hay.out
          exact compare_any (gl _ (List.getElem_mem hi)) (sl _ (List.getElem_mem hi)) (gl _ (List.getElem_mem hj)) (sl _ (List.getElem_mem hj)) w0 B (F' i) (F' j) _ _ (Hy.rep i hi) (fun k hk => Hy.low i k hi hk) (Hy.rep j hj) (fun k hk => Hy.low j k hj hk)) hsf
      have hI : SortI wr w.heap.size l.length p (fun k => k) wr := ⟨permN_id _, But.refl _ _, hrow.congr fun k hk => by simp [hk]⟩
      have hC := Lib.hid (sliceStable_any (some ⟨w.heap.size, 0, none⟩) l.length l.length wr.heap.size 68 #[.pointer (some ⟨w.heap.size + 1, 0, none⟩)] (fun i j => decide (cmpV (atV l i) (atV l j) < 0)) (SortI wr w.heap.size l.length p) (by omega) hSo.out (fun k => k) wr hI)
      clear hI hSo hbw
      have Hit := Lib.hid hit
      have Hb := Lib.hid hb
      have Hpn := Lib.hid hpn
      clear hit hb hpn hrow
      go_wp2_with fail
      refine hC.out.mono ?_
      clear hC
      rintro e w2 ⟨rfl, hp, hbut, hrow⟩
      have hxb2 : w2.cell? ⟨w.heap.size + 1, 0, none⟩ = some (.slice (some ⟨w.heap.size, 0, none⟩) l.length l.length) := by
        rw [World.cell?, hbut.block _ hsz (by show w.heap.size + 1 ≠ w.heap.size; omega)]
        exact hxb
      have hs2 := hbut.size
      have Hfin : Hid (ItemsP w l f f' (.returned (.tuple #[.slice (some ⟨w.heap.size, 0, none⟩) l.length l.length, .nilIface])) w2) :=
        Lib.hid ⟨w.heap.size, p, rfl, Nat.le_refl _, by omega, fun k hk => ⟨(Hit.out k hk).1, by have := (Hit.out k hk).2.1; omega, (hbut.block _ (Hit.out k hk).2.1 (Hpn.out k hk)).trans (Hit.out k hk).2.2⟩, hrow, hp, hbut.below Hb.out (Nat.le_refl _) hs⟩
      clear hp hbut hrow
      go_wp2_with fail
      go_ret2
      exact Hfin.out
end Go.Proofs.YtpaebanmaboaiaaGreatDoor

namespace Go.Proofs.YtpaebanmaboaiaaGreatDoor
open Go Go.RowKit Go.Maps Go.Deep
/-- What lies below stays: an array's elements as they were. -/
theorem ArrIn.later {w0 w' : World} {B : Nat} {l : List V} {a : Option Addr} {c : Nat} {f : Nat → Value} {F : Nat → Nat → Prop} (h : ArrIn w0 B l a c f F) (hb : Below B w0 w') (i : Nat) (hi : i < l.length) : RepJ w' (F i) (toJ l[i]) (f i) :=
  (h.rep i hi).under hb fun k hk => h.low i k hi hk
/-- An array of picked elements in a new row. -/
theorem pick_jr {w0 w w' : World} {B : Nat} {l : List V} {a : Option Addr} {c : Nat} {f : Nat → Value} {F : Nat → Nat → Prop} (ax : ArrIn w0 B l a c f F) (hbel : Below B w0 w) (hB : B ≤ w.heap.size) {q : List Nat} (hq : Places l.length q) (hb : Below w.heap.size w w') {rb N cc : Nat} {g : Nat → Value}
    (hrb : w.heap.size ≤ rb) (hrow : w'.rowIs rb 20 N g) (hN : q.length ≤ N) (hg : ∀ i (hi : i < q.length), g i = f q[i]) (hc : q.length ≤ cc) (hcb : cc ≤ capMax) :
    JR w (.fine (pickV l q)) (.iface 49 (.slice (some ⟨rb, 0, none⟩) q.length cc)) w' := by
  refine ⟨hb, fun y hy => ?_, fun h => by cases h⟩
  cases hy
  refine (repJ_pick (S := fun k => k < B) (nb := rb) (o := 0) (N := N) (g := g) (fun i hi => ax.later (hbel.trans (hb.mono hB)) i hi) (fun i k hi hk => ax.low i k hi hk) (fun i j k hij hj => ax.dis i j k hij hj) hq ax.len
    (fun _ => ⟨rfl, hrow, by omega, fun i hi => by rw [Nat.zero_add]; exact hg i hi⟩) (by omega) hc hcb (by simp)).mono fun k hk => ?_
  have := hb.size
  have := hrow.lt
  rcases hk with h | h <;> omega
/-- sortBy's loop: k are taken over. -/
def TakeI (w3 : World) (rb n : Nat) (h : Nat → Value) (v : Value) (wr : World) : Prop :=
  ∃ k : Nat, v = .int .i64 k ∧ k ≤ n ∧ wr.rowIs rb 20 n (fun j => if j < k then h j else .nilIface) ∧ But w3 rb wr
theorem TakeI.step {w3 wr : World} {rb n k : Nat} {h : Nat → Value} {x : Value} (hx : h k = x) (hk : k < n) (hrow : wr.rowIs rb 20 n (fun j => if j < k then h j else .nilIface)) (hb : But w3 rb wr) :
    TakeI w3 rb n h (.int .i64 ((k : Int) + 1)) (wr.setCell ⟨rb, k, none⟩ x) := by
  subst hx
  refine ⟨k + 1, by go_num, hk, (hrow.set k _).congr fun j _ => ?_, hb.setCell k _⟩
  by_cases e : j = k
  · subst e; simp
  · simp only [e, if_false]
    by_cases e2 : j < k
    · rw [if_pos e2, if_pos (by omega)]
    · rw [if_neg e2, if_neg (by omega)]
set_option maxHeartbeats 4000000 in
set_option maxRecDepth 100000 in
theorem sortBy_any {w0 : World} {B : Nat} {l : List V} (gl : ∀ x ∈ l, Good x) (sl : ∀ x ∈ l, Small x) {a a' : Option Addr} {c c' : Nat} {f f' : Nat → Value} {F F' : Nat → Nat → Prop} (ax : ArrIn w0 B l a c f F) (ay : ArrIn w0 B l a' c' f' F') (s : ByteArray)
    (w : World) (hbel : Below B w0 w) (hB : B ≤ w.heap.size) :
    Calls Tryz.prog 47 #[.string s, .iface 49 (.slice a l.length c), .iface 49 (.slice a' l.length c')] w (Ret (JR w (.fine (pickV l (sortQ l))))) := by
  have hC := Lib.hid (sortItems_any gl sl ax ay s w hbel hB)
  have hlen := ax.len
  obtain ⟨i0, hi, hz0, hz1, hz2⟩ : ∃ i0, Tryz.prog.info? 20 = some i0 ∧ i0.zero = some .nilIface ∧ i0.size = 1 ∧ i0.bytes = 16 := ⟨(Tryz.prog.info? 20).get (by kernel_rfl), by kernel_rfl, by kernel_rfl, by kernel_rfl, by kernel_rfl⟩
  have hmk := fun w => run_make (P := Tryz.prog) w 49 20 i0 .nilIface Tryz.underlying49 hi hz0 .i64 .i64 l.length l.length (by omega) (by omega) (by rw [hz2]; omega) (by omega)
  have Hax := Lib.hid ax
  have Hbel := Lib.hid hbel
  clear ax ay hbel hi hz0 hz2
  go_enter Tryz.func47, Tryz.ntmps47
  go_wp2_with fail
  refine hC.out.mono ?_
  clear hC
  rintro e w2 ⟨ib, p, rfl, hib, hibs, hit, hrow, hp, hb2⟩
  have hmk2 := hmk w2
  clear hmk
  have Hit := Lib.hid hit
  have Hb2 := Lib.hid hb2
  have Hp := Lib.hid hp
  have Hrow := Lib.hid hrow
  clear hit hb2 hp hrow
  go_wp2_with fail
  have hr1 := World.rowIs_made w2 .nilIface l.length 20
  have hb3 := below_alloc1 w2 (.cells (madeCells #[.nilIface] l.length) 20)
  have hs3 := size_alloc1 w2 (.cells (madeCells #[.nilIface] l.length) 20)
  obtain ⟨w3, hw3⟩ : ∃ w3, w3 = w2.alloc (.cells (madeCells #[.nilIface] l.length) 20) := ⟨_, rfl⟩
  rw [← hw3] at hr1 hb3 hs3 ⊢
  clear hw3
  clear hmk2 hz1
  go_loopw [27] (fun v wr => TakeI w3 w2.heap.size l.length (fun j => f (ordR l j)) v wr) (fun v _ => l.length - (intOf v).toNat)
  case atStart => exact ⟨0, by go_num, Nat.zero_le _, hr1.congr fun k _ => by simp, But.refl _ _⟩
  case round =>
    obtain ⟨k, rfl, hk, hr, hbut⟩ := hrel
    have hold : ∀ q, q < w2.heap.size → wr.heap[q]? = w2.heap[q]? := fun q hq => (hbut.block q (by omega) (by omega)).trans (hb3.block q hq)
    by_cases hlt : k < l.length
    · have u1 : (k : Int) < (l.length : Int) := by omega
      have u3 : (0 : Int) ≤ (k : Int) := by omega
      have hpk := Hp.out.1 k hlt
      have y1 := (Hrow.out.of_block (hold ib hibs)).cell hlt
      obtain ⟨_, h2, h3⟩ := Hit.out (ordR l k) hpk
      have y2 := (item_cells ((hold _ h2).trans h3)).1
      have q1 := (Hax.out.rep _ hpk).form
      have y3 := hr.cell hlt
      have y4 := hr.frozen k
      have Hr := Lib.hid hr
      have Hbut := Lib.hid hbut
      clear hr hbut hold h3
      generalize hv1 : f (ordR l k) = v1 at *
      have Hv1 := Lib.hid hv1
      clear hv1
      rcases q1 with rfl | ⟨t1, x1, rfl⟩
      all_goals
        go_wp2_with fail
        go_roundw
        case rel => exact TakeI.step Hv1.out hlt Hr.out Hbut.out
        case measure => simp [intOf]; omega
    · have u1 : ¬ (k : Int) < (l.length : Int) := by omega
      obtain rfl : k = l.length := by omega
      have hbw : Below w.heap.size w wr := hbut.below (Hb2.out.trans (hb3.mono Hb2.out.size)) Hb2.out.size (by have := Hb2.out.size; omega)
      have hql : (sortQ l).length = l.length := by unfold sortQ; simp
      have Hfin : Hid (JR w (.fine (pickV l (sortQ l))) (.iface 49 (.slice (some ⟨w2.heap.size, 0, none⟩) l.length l.length)) wr) := Lib.hid (by
        have := pick_jr Hax.out Hbel.out hB (q := sortQ l) (places_of Hp.out) hbw (rb := w2.heap.size) (N := l.length) (cc := l.length) Hb2.out.size hr (by omega) (fun i hi => by
          rw [hql] at hi
          simp only [sortQ, List.getElem_map, List.getElem_range]
          rw [if_pos hi]) (by omega) (by unfold capMax; omega)
        rwa [hql] at this)
      clear hr hbut hold hbw
      go_wp2_with fail
      go_ret
      exact ⟨_, rfl, Hfin.out⟩
end Go.Proofs.YtpaebanmaboaiaaGreatDoor
