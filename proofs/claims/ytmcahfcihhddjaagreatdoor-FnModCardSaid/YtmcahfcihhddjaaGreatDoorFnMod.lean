/- laws.FnMod. -/
import Derived.Test.YtmcahfcihhddjaaGreatDoorLaw1
import Derived.Deep.RegionHeld3
namespace Go.Proofs.YtmcahfcihhddjaaGreatDoor
open Go Go.RowKit

/-- A result of seven cells; new memory alone since W. -/
def ResFrom (W : World) (R : Value → Prop) (e : Ending) (w' : World) : Prop :=
  ∃ (k h : Int) (t : ByteArray) (la ka va : Option Addr) (nl cl nk ck nv cv : Nat) (n : Int), e = .returned (.agg #[.int .i64 k, .int .i64 h, .string t, .slice la nl cl, .slice ka nk ck, .slice va nv cv, .int .i64 n]) ∧
    R (.agg #[.int .i64 k, .int .i64 h, .string t, .slice la nl cl, .slice ka nk ck, .slice va nv cv, .int .i64 n]) ∧ Below W.heap.size W w'

theorem ResAt.from {W w : World} {R : Value → Prop} {e : Ending} {w' : World} (h : ResAt w R e w') (hw : Below W.heap.size W w) : ResFrom W R e w' := by
  obtain ⟨k, h, t, la, ka, va, nl, cl, nk, ck, nv, cv, n, he, hR, hb⟩ := h
  exact ⟨k, h, t, la, ka, va, nl, cl, nk, ck, nv, cv, n, he, hR, hw.trans (hb.mono hw.size)⟩

set_option maxHeartbeats 2000000 in
set_option maxRecDepth 100000 in
theorem fnMod_any (w : World) (a b : V) (ca cb : List Value) (ha : RepV w w.heap.size a ca) (hb : RepV w w.heap.size b cb) (hTB : TabsB w w.heap.size) :
    Calls Tryz.prog 3 #[.agg ca.toArray, .agg cb.toArray] w (Yes w) := by
  have Za := Lib.hid fun (w' : World) (h : Below w.heap.size w w') => zz1_any w' a ca (ha.carry h h.size)
  have Zb := Lib.hid fun (w' : World) (h : Below w.heap.size w w') => zz1_any w' b cb (hb.carry h h.size)
  have Fi := Lib.hid fun (w' : World) (h : Below w.heap.size w w') => fit2_any w' a b ca cb (ha.carry h h.size) (hb.carry h h.size) (hTB.carry h h.size)
  have Op := Lib.hid fun (ga : Good a) (gb : Good b) (w' : World) (h : Below w.heap.size w w') => operate_mod ha hb ga gb w' h h.size
  have Om := Lib.hid fun (ga : Good a) (gb : Good b) (w' : World) (h : Below w.heap.size w w') => opMod_any ha hb ga gb w' h h.size
  obtain ⟨k, h, t, la, ka, va, nl, cl, nk, ck, nv, cv, rfl⟩ := ha.shape
  obtain ⟨k', h', t', la', ka', va', nl', cl', nk', ck', nv', cv', rfl⟩ := hb.shape
  clear ha hb hTB
  go_enter Tryz.func3, Tryz.ntmps3
  go_wp2_with fail
  have hbW := below_alloc2 w (.cells #[.int .i64 k, .int .i64 h, .string t, .slice la nl cl, .slice ka nk ck, .slice va nv cv] 26)
    (.cells #[.int .i64 k', .int .i64 h', .string t', .slice la' nl' cl', .slice ka' nk' ck', .slice va' nv' cv'] 26)
  have hx0 := at_alloc20 w (.cells #[.int .i64 k, .int .i64 h, .string t, .slice la nl cl, .slice ka nk ck, .slice va nv cv] 26)
    (.cells #[.int .i64 k', .int .i64 h', .string t', .slice la' nl' cl', .slice ka' nk' ck', .slice va' nv' cv'] 26)
  have hx1 := at_alloc2 w (.cells #[.int .i64 k, .int .i64 h, .string t, .slice la nl cl, .slice ka nk ck, .slice va nv cv] 26)
    (.cells #[.int .i64 k', .int .i64 h', .string t', .slice la' nl' cl', .slice ka' nk' ck', .slice va' nv' cv'] 26)
  have hsW := size_alloc2 w (.cells #[.int .i64 k, .int .i64 h, .string t, .slice la nl cl, .slice ka nk ck, .slice va nv cv] 26)
    (.cells #[.int .i64 k', .int .i64 h', .string t', .slice la' nl' cl', .slice ka' nk' ck', .slice va' nv' cv'] 26)
  refine (Za.out _ hbW).mono ?_
  generalize (w.alloc _).alloc _ = W at *
  rintro e w1 ⟨⟨za, rfl⟩, hw1⟩
  have hs1 : w.heap.size + 2 ≤ w1.heap.size := by have := hw1.size; omega
  have y0 := (hw1.block w.heap.size (by omega)).trans hx0
  have y1 := (hw1.block (w.heap.size + 1) (by omega)).trans hx1
  have hb1 : Below w.heap.size w w1 := hbW.trans (hw1.mono (by omega))
  obtain ⟨e0, e1, e2, e3, e4, e5⟩ := of_block6 y1
  have Hw1 := Lib.hid hw1; clear hw1
  cases za with
  | false =>
    go_wp2_with fail
    go_ret
    exact ⟨rfl, hb1⟩
  | true =>
  go_wp2_with fail
  refine (Zb.out _ hb1).mono ?_
  rintro e w2 ⟨⟨zb, rfl⟩, hw2⟩
  have hs2 : w.heap.size + 2 ≤ w2.heap.size := by have := hw2.size; omega
  have z0 := (hw2.block w.heap.size (by omega)).trans y0
  have z1 := (hw2.block (w.heap.size + 1) (by omega)).trans y1
  have hb2 : Below w.heap.size w w2 := hb1.trans (hw2.mono (by omega))
  obtain ⟨a0, a1, a2, a3, a4, a5⟩ := of_block6 z0
  obtain ⟨e0, e1, e2, e3, e4, e5⟩ := of_block6 z1
  have Hw2 := Lib.hid hw2; clear hw2
  cases zb with
  | false =>
    go_wp2_with fail
    go_ret
    exact ⟨rfl, hb2⟩
  | true =>
  go_wp2_with fail
  refine (Fi.out _ hb2).mono ?_
  rintro e w3 ⟨rfl, hw3⟩
  have hs3 : w.heap.size + 2 ≤ w3.heap.size := by have := hw3.size; omega
  have y0 := (hw3.block w.heap.size (by omega)).trans z0
  have y1 := (hw3.block (w.heap.size + 1) (by omega)).trans z1
  have hb3 : Below w.heap.size w w3 := hb2.trans (hw3.mono (by omega))
  obtain ⟨a0, a1, a2, a3, a4, a5⟩ := of_block6 y0
  obtain ⟨e0, e1, e2, e3, e4, e5⟩ := of_block6 y1
  have Hw3 := Lib.hid hw3; clear hw3
  cases hf : fitB a && fitB b with
  | false =>
    go_wp2_with fail
    go_ret
    exact ⟨rfl, hb3⟩
  | true =>
  have ga : Good a := fit_good (by simp at hf; exact hf.1)
  have gb : Good b := fit_good (by simp at hf; exact hf.2)
  clear hf
  go_wp2_with fail
  refine (Op.out ga gb _ hb3).mono ?_
  rintro e w4 ⟨k1, h1, t1, la1, ka1, va1, nl1, cl1, nk1, ck1, nv1, cv1, m, rfl, hP, hw4⟩
  have hs4 : w.heap.size + 2 ≤ w4.heap.size := by have := hw4.size; omega
  have z0 := (hw4.block w.heap.size (by omega)).trans y0
  have z1 := (hw4.block (w.heap.size + 1) (by omega)).trans y1
  have hb4 : Below w.heap.size w w4 := hb3.trans (hw4.mono (by omega))
  have Hw4 := Lib.hid hw4; clear hw4
  have HP := Lib.hid hP; clear hP
  go_wp2_with fail
  have hv5 := at_alloc w4 (.cells #[.int .i64 k1, .int .i64 h1, .string t1, .slice la1 nl1 cl1, .slice ka1 nk1 ck1, .slice va1 nv1 cv1] 26)
  have hw5 := below_alloc1 w4 (.cells #[.int .i64 k1, .int .i64 h1, .string t1, .slice la1 nl1 cl1, .slice ka1 nk1 ck1, .slice va1 nv1 cv1] 26)
  have hs5 := size_alloc1 w4 (.cells #[.int .i64 k1, .int .i64 h1, .string t1, .slice la1 nl1 cl1, .slice ka1 nk1 ck1, .slice va1 nv1 cv1] 26)
  generalize w4.alloc _ = W5 at *
  have v0 := (hw5.block w.heap.size (by omega)).trans z0
  have v1 := (hw5.block (w.heap.size + 1) (by omega)).trans z1
  have hb5 : Below w.heap.size w W5 := hb4.trans (hw5.mono (by omega))
  have hold : ∀ w', Below W5.heap.size W5 w' → (fun w' : World => w'.cell? ⟨w.heap.size, 0, none⟩ = some (.int .i64 k) ∧ w'.cell? ⟨w.heap.size, 1, none⟩ = some (.int .i64 h) ∧ w'.cell? ⟨w.heap.size, 2, none⟩ = some (.string t) ∧ w'.cell? ⟨w.heap.size, 3, none⟩ = some (.slice la nl cl) ∧ w'.cell? ⟨w.heap.size, 4, none⟩ = some (.slice ka nk ck) ∧ w'.cell? ⟨w.heap.size, 5, none⟩ = some (.slice va nv cv) ∧
    w'.cell? ⟨w.heap.size + 1, 0, none⟩ = some (.int .i64 k') ∧ w'.cell? ⟨w.heap.size + 1, 1, none⟩ = some (.int .i64 h') ∧ w'.cell? ⟨w.heap.size + 1, 2, none⟩ = some (.string t') ∧ w'.cell? ⟨w.heap.size + 1, 3, none⟩ = some (.slice la' nl' cl') ∧ w'.cell? ⟨w.heap.size + 1, 4, none⟩ = some (.slice ka' nk' ck') ∧ w'.cell? ⟨w.heap.size + 1, 5, none⟩ = some (.slice va' nv' cv') ∧
    w'.cell? ⟨w4.heap.size, 0, none⟩ = some (.int .i64 k1) ∧ w'.cell? ⟨w4.heap.size, 1, none⟩ = some (.int .i64 h1) ∧ w'.cell? ⟨w4.heap.size, 2, none⟩ = some (.string t1) ∧ w'.cell? ⟨w4.heap.size, 3, none⟩ = some (.slice la1 nl1 cl1) ∧ w'.cell? ⟨w4.heap.size, 4, none⟩ = some (.slice ka1 nk1 ck1) ∧ w'.cell? ⟨w4.heap.size, 5, none⟩ = some (.slice va1 nv1 cv1) ∧ Below W5.heap.size W5 w') w' := by
    intro w' hw
    obtain ⟨a0, a1, a2, a3, a4, a5⟩ := of_block6 ((hw.block w.heap.size (by omega)).trans v0)
    obtain ⟨b0, b1, b2, b3, b4, b5⟩ := of_block6 ((hw.block (w.heap.size + 1) (by omega)).trans v1)
    obtain ⟨c0, c1, c2, c3, c4, c5⟩ := of_block6 ((hw.block w4.heap.size (by omega)).trans hv5)
    exact ⟨a0, a1, a2, a3, a4, a5, b0, b1, b2, b3, b4, b5, c0, c1, c2, c3, c4, c5, hw⟩
  have Hold := Lib.hid hold
  have h5 := Below.refl W5.heap.size W5
  obtain ⟨a0, a1, a2, a3, a4, a5, b0, b1, b2, b3, b4, b5, c0, c1, c2, c3, c4, c5, hw⟩ := hold _ h5
  have Om5 : Hid (∀ w', Below W5.heap.size W5 w' → Calls Tryz.prog 9 #[.agg #[.int .i64 k, .int .i64 h, .string t, .slice la nl cl, .slice ka nk ck, .slice va nv cv], .agg #[.int .i64 k', .int .i64 h', .string t', .slice la' nl' cl', .slice ka' nk' ck', .slice va' nv' cv']] w' (ResFrom W5 (ModR (toJ a) (toJ b)))) :=
    Lib.hid fun w' hw => (Om.out ga gb w' (hb5.trans (hw.mono hb5.size))).mono fun e w'' h => h.from hw
  have To5 : Hid (∀ (k h n : Int) (t : ByteArray) (la ka va : Option Addr) (nl cl nk ck nv cv : Nat) (w' : World), ModR (toJ a) (toJ b) (.agg #[.int .i64 k, .int .i64 h, .string t, .slice la nl cl, .slice ka nk ck, .slice va nv cv, .int .i64 n]) → Below W5.heap.size W5 w' →
      Calls Tryz.prog 8 #[.agg #[.int .i64 k, .int .i64 h, .string t, .slice la nl cl, .slice ka nk ck, .slice va nv cv, .int .i64 n], .agg #[.int .i64 k1, .int .i64 h1, .string t1, .slice la1 nl1 cl1, .slice ka1 nk1 ck1, .slice va1 nv1 cv1], .int .i64 m] w' fun e w'' => e = .returned (.bool true) ∧ Below W5.heap.size W5 w'') :=
    Lib.hid fun k h n t la ka va nl cl nk ck nv cv w' hR hw => (told_any w' (mod_law ga gb HP.out hR)).mono fun e w'' h => ⟨h.1, hw.trans (h.2.mono hw.size)⟩
  have HB5 := Lib.hid hb5
  clear hold hw v0 v1 hb5 hv5 hw5 hs5 HP Om Op Fi Za Zb z0 z1 hb4 hb3 hb2 hb1 y0 y1 hx0 hx1 hbW Hw1 Hw2 Hw3 Hw4 hs1 hs2 hs3 hs4 hsW ga gb
  clear a0 a1 a2 a3 a4 a5 b0 b1 b2 b3 b4 b5 c0 c1 c2 c3 c4 c5
  go_region_held3 (fun w' : World => w'.cell? ⟨w.heap.size, 0, none⟩ = some (.int .i64 k) ∧ w'.cell? ⟨w.heap.size, 1, none⟩ = some (.int .i64 h) ∧ w'.cell? ⟨w.heap.size, 2, none⟩ = some (.string t) ∧ w'.cell? ⟨w.heap.size, 3, none⟩ = some (.slice la nl cl) ∧ w'.cell? ⟨w.heap.size, 4, none⟩ = some (.slice ka nk ck) ∧ w'.cell? ⟨w.heap.size, 5, none⟩ = some (.slice va nv cv) ∧
    w'.cell? ⟨w.heap.size + 1, 0, none⟩ = some (.int .i64 k') ∧ w'.cell? ⟨w.heap.size + 1, 1, none⟩ = some (.int .i64 h') ∧ w'.cell? ⟨w.heap.size + 1, 2, none⟩ = some (.string t') ∧ w'.cell? ⟨w.heap.size + 1, 3, none⟩ = some (.slice la' nl' cl') ∧ w'.cell? ⟨w.heap.size + 1, 4, none⟩ = some (.slice ka' nk' ck') ∧ w'.cell? ⟨w.heap.size + 1, 5, none⟩ = some (.slice va' nv' cv') ∧
    w'.cell? ⟨w4.heap.size, 0, none⟩ = some (.int .i64 k1) ∧ w'.cell? ⟨w4.heap.size, 1, none⟩ = some (.int .i64 h1) ∧ w'.cell? ⟨w4.heap.size, 2, none⟩ = some (.string t1) ∧ w'.cell? ⟨w4.heap.size, 3, none⟩ = some (.slice la1 nl1 cl1) ∧ w'.cell? ⟨w4.heap.size, 4, none⟩ = some (.slice ka1 nk1 ck1) ∧ w'.cell? ⟨w4.heap.size, 5, none⟩ = some (.slice va1 nv1 cv1) ∧ Below W5.heap.size W5 w')
    (first | exact Hold.out _ (by assumption) | exact Hold.out _ (Below.drew (by assumption)))
    (first
      | (go_at_call 9; go_split_ands; refine (Om5.out _ (by assumption)).mono ?_; rintro e w6 ⟨k2, h2, t2, la2, ka2, va2, nl2, cl2, nk2, ck2, nv2, cv2, n2, rfl, hR, hw6⟩)
      | (go_at_call 8; go_split_ands; refine (To5.out _ _ _ _ _ _ _ _ _ _ _ _ _ _ (by assumption) (by assumption)).mono ?_; rintro e w7 ⟨rfl, hw7⟩))
  go_wp2_with fail
  go_split_ands
  go_ret
  exact ⟨rfl, HB5.out.trans (Below.mono (by assumption) HB5.out.size)⟩

end Go.Proofs.YtmcahfcihhddjaaGreatDoor
