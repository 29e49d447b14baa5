/- laws.FnSub. -/
import Derived.Test.YtmcahfcihhddjaaGreatDoorOpSub
import Derived.Test.YtmcahfcihhddjaaGreatDoorSubS
import Derived.Test.YtmcahfcihhddjaaGreatDoorTold2
import Derived.Test.YtmcahfcihhddjaaGreatDoorFit
import Derived.Deep.RegionHeld3
namespace Go.Proofs.YtmcahfcihhddjaaGreatDoor
open Go Go.RowKit Go.Deep

theorem good_subA {a b : V} (ga : Good a) : ∀ v, subA a b = .fine v → Good v := by
  obtain ⟨k, h, t, l, ks, vs⟩ := a
  obtain ⟨k', h', t', l', ks', vs'⟩ := b
  intro v hv
  rw [subA_mk] at hv
  split at hv
  · rcases numA_cases (wrap64 (h - h')) with e | ⟨e, f⟩
    · rw [e] at hv; cases hv
    · rw [e] at hv
      cases hv
      refine .mk ?_ ?_ rfl (fun i hi => by simp at hi) (fun i hi => by simp at hi) (fun i hi => by simp at hi) (fun i hi => by simp at hi)
      · simp [shapeB, Lib.toList_data]
      · obtain ⟨f1, f2, f3⟩ := f
        simp only [halfB, Bool.and_eq_true, decide_eq_true_eq, Bool.or_eq_true, beq_iff_eq]
        refine ⟨⟨f1, f2⟩, ?_⟩
        by_cases o : wrap64 (h - h') % 2 = 0
        · left
          exact Int.tmod_eq_zero_of_dvd (Int.dvd_of_emod_eq_zero o)
        · exact .inr (f3 o)
  · split at hv
    · cases hv
    · cases hv
      obtain ⟨_, _, _, list, _, _, _⟩ := ga.all
      exact good_list fun x hx => by
        obtain ⟨i, hi, rfl⟩ := List.mem_iff_getElem.1 (mem_lessL hx)
        exact list i hi

/-- What a result of seven cells says, where the answer is an. -/
def Got (w : World) (an : Ans) (k h : Int) (t : ByteArray) (la ka va : Option Addr) (nl cl nk ck nv cv : Nat) (n : Int) : Prop :=
  (∀ v, an = .fine v → n = 0 ∧ RepV w w.heap.size v [.int .i64 k, .int .i64 h, .string t, .slice la nl cl, .slice ka nk ck, .slice va nv cv]) ∧ (an = .raises → n = 1)

/-- A result of seven cells; new memory alone since W. -/
def GotFrom (W : World) (an : Ans) (e : Ending) (w' : World) : Prop :=
  ∃ (k h : Int) (t : ByteArray) (la ka va : Option Addr) (nl cl nk ck nv cv : Nat) (n : Int), e = .returned (.agg #[.int .i64 k, .int .i64 h, .string t, .slice la nl cl, .slice ka nk ck, .slice va nv cv, .int .i64 n]) ∧
    Got w' an k h t la ka va nl cl nk ck nv cv n ∧ Below W.heap.size W w'

theorem ResQ.from {W w : World} {an : Ans} {e : Ending} {w' : World} (h : ResQ w an e w') (hw : Below W.heap.size W w) : GotFrom W an e w' := by
  obtain ⟨k, h, t, la, ka, va, nl, cl, nk, ck, nv, cv, n, he, hR, hb⟩ := h
  exact ⟨k, h, t, la, ka, va, nl, cl, nk, ck, nv, cv, n, he, ⟨fun v hv => ⟨(hR.1 v hv).1, (hR.1 v hv).2.toV fun q hq => hq.2⟩, hR.2⟩, hw.trans (hb.mono hw.size)⟩

theorem told_ans {w : World} {an : Ans} (hg : ∀ v, an = .fine v → Good v) {k h n k1 h1 : Int} {t t1 : ByteArray} {la ka va la1 ka1 va1 : Option Addr} {nl cl nk ck nv cv nl1 cl1 nk1 ck1 nv1 cv1 : Nat}
    (hR : Got w an k h t la ka va nl cl nk ck nv cv n) (hP : ∀ v, an = .fine v → RepV w w.heap.size v [.int .i64 k1, .int .i64 h1, .string t1, .slice la1 nl1 cl1, .slice ka1 nk1 ck1, .slice va1 nv1 cv1]) :
    Calls Tryz.prog 8 #[.agg #[.int .i64 k, .int .i64 h, .string t, .slice la nl cl, .slice ka nk ck, .slice va nv cv, .int .i64 n], .agg #[.int .i64 k1, .int .i64 h1, .string t1, .slice la1 nl1 cl1, .slice ka1 nk1 ck1, .slice va1 nv1 cv1], .int .i64 an.how] w (Yes w) := by
  cases an with
  | raises =>
    obtain rfl := hR.2 rfl
    exact told_raises _ _ _ _ _ _ _ _ _ _ _ _ _ _ _ _ _ _ _ _ _ _ _ _ w
  | silent => exact told_silent _ _ _ _ _ _ _ _ _ _ _ _ _ _ _ _ _ _ _ _ _ _ _ _ _ w
  | fine v =>
    obtain ⟨rfl, r1⟩ := hR.1 v rfl
    have := told_val w v v _ _ _ _ _ _ _ r1 (hP v rfl)
    rw [(sameB_iff (hg v rfl) (hg v rfl)).2 rfl] at this
    exact this

set_option maxHeartbeats 2000000 in
set_option maxRecDepth 100000 in
theorem fnSub_any (w : World) (a b : V) (ca cb : List Value) (ha : RepV w w.heap.size a ca) (hb : RepV w w.heap.size b cb) (hTB : TabsB w w.heap.size) :
    Calls Tryz.prog 4 #[.agg ca.toArray, .agg cb.toArray] w (Yes w) := by
  have Za := Lib.hid fun (w' : World) (h : Below w.heap.size w w') => zz1_any w' a ca (ha.carry h h.size)
  have Zb := Lib.hid fun (w' : World) (h : Below w.heap.size w w') => zz1_any w' b cb (hb.carry h h.size)
  have Fi := Lib.hid fun (w' : World) (h : Below w.heap.size w w') => fit2_any w' a b ca cb (ha.carry h h.size) (hb.carry h h.size) (hTB.carry h h.size)
  have Op := Lib.hid fun (ga : Good a) (gb : Good b) (w' : World) (h : Below w.heap.size w w') => operate_sub ha hb ga gb w' h h.size
  have Om := Lib.hid fun (ga : Good a) (gb : Good b) (w' : World) (h : Below w.heap.size w w') => opSub_any ha hb ga gb w' h h.size
  have Gs := Lib.hid fun (ga : Good a) => good_subA (b := b) ga
  generalize subA a b = an at *
  obtain ⟨k, h, t, la, ka, va, nl, cl, nk, ck, nv, cv, rfl⟩ := ha.shape
  obtain ⟨k', h', t', la', ka', va', nl', cl', nk', ck', nv', cv', rfl⟩ := hb.shape
  clear ha hb hTB
  go_enter Tryz.func4, Tryz.ntmps4
  go_wp2_with fail
  have hbW := below_alloc2 w (.cells #[.int .i64 k, .int .i64 h, .string t, .slice la nl cl, .slice ka nk ck, .slice va nv cv] 26)
    (.cells #[.int .i64 k', .int .i64 h', .string t', .slice la' nl' cl', .slice ka' nk' ck', .slice va' nv' cv'] 26)
  have hx0 := at_alloc20 w (.cells #[.int .i64 k, .int .i64 h, .string t, .slice la nl cl, .slice ka nk ck, .slice va nv cv] 26)
    (.cells #[.int .i64 k', .int .i64 h', .string t', .slice la' nl' cl', .slice ka' nk' ck', .slice va' nv' cv'] 26)
  have hx1 := at_alloc2 w (.cells #[.int .i64 k, .int .i64 h, .string t, .slice la nl cl, .slice ka nk ck, .slice va nv cv] 26)
    (.cells #[.int .i64 k', .int .i64 h', .string t', .slice la' nl' cl', .slice ka' nk' ck', .slice va' nv' cv'] 26)
  have hsW := size_alloc2 w (.cells #[.int .i64 k, .int .i64 h, .string t, .slice la nl cl, .slice ka nk ck, .slice va nv cv] 26)
    (.cells #[.int .i64 k', .int .i64 h', .string t', .slice la' nl' cl', .slice ka' nk' ck', .slice va' nv' cv'] 26)
  refine (Za.out _ hbW).mono ?_
  generalize (w.alloc _).alloc _ = W at *
  rintro e w1 ⟨⟨za, rfl⟩, hw1⟩
  have hs1 : w.heap.size + 2 ≤ w1.heap.size := by have := hw1.size; omega
  have y0 := (hw1.block w.heap.size (by omega)).trans hx0
  have y1 := (hw1.block (w.heap.size + 1) (by omega)).trans hx1
  have hb1 : Below w.heap.size w w1 := hbW.trans (hw1.mono (by omega))
  obtain ⟨e0, e1, e2, e3, e4, e5⟩ := of_block6 y1
  have Hw1 := Lib.hid hw1; clear hw1
  cases za with
  | false =>
    go_wp2_with fail
    go_ret
    exact ⟨rfl, hb1⟩
  | true =>
  go_wp2_with fail
  refine (Zb.out _ hb1).mono ?_
  rintro e w2 ⟨⟨zb, rfl⟩, hw2⟩
  have hs2 : w.heap.size + 2 ≤ w2.heap.size := by have := hw2.size; omega
  have z0 := (hw2.block w.heap.size (by omega)).trans y0
  have z1 := (hw2.block (w.heap.size + 1) (by omega)).trans y1
  have hb2 : Below w.heap.size w w2 := hb1.trans (hw2.mono (by omega))
  obtain ⟨a0, a1, a2, a3, a4, a5⟩ := of_block6 z0
  obtain ⟨e0, e1, e2, e3, e4, e5⟩ := of_block6 z1
  have Hw2 := Lib.hid hw2; clear hw2
  cases zb with
  | false =>
    go_wp2_with fail
    go_ret
    exact ⟨rfl, hb2⟩
  | true =>
  go_wp2_with fail
  refine (Fi.out _ hb2).mono ?_
  rintro e w3 ⟨rfl, hw3⟩
  have hs3 : w.heap.size + 2 ≤ w3.heap.size := by have := hw3.size; omega
  have y0 := (hw3.block w.heap.size (by omega)).trans z0
  have y1 := (hw3.block (w.heap.size + 1) (by omega)).trans z1
  have hb3 : Below w.heap.size w w3 := hb2.trans (hw3.mono (by omega))
  obtain ⟨a0, a1, a2, a3, a4, a5⟩ := of_block6 y0
  obtain ⟨e0, e1, e2, e3, e4, e5⟩ := of_block6 y1
  have Hw3 := Lib.hid hw3; clear hw3
  cases hf : fitB a && fitB b with
  | false =>
    go_wp2_with fail
    go_ret
    exact ⟨rfl, hb3⟩
  | true =>
  have ga : Good a := fit_good (by simp at hf; exact hf.1)
  have gb : Good b := fit_good (by simp at hf; exact hf.2)
  clear hf
  go_wp2_with fail
  refine (Op.out ga gb _ hb3).mono ?_
  rintro e w4 ⟨k1, h1, t1, la1, ka1, va1, nl1, cl1, nk1, ck1, nv1, cv1, rfl, hP, hw4⟩
  have HS := Lib.hid fun (w : World) (hR1 : ∀ v, an = .fine v → RepV w w.heap.size v [.int .i64 k1, .int .i64 h1, .string t1, .slice la1 nl1 cl1, .slice ka1 nk1 ck1, .slice va1 nv1 cv1]) (k h n : Int) (t : ByteArray) (la ka va : Option Addr) (nl cl nk ck nv cv : Nat) (hR : Got w an k h t la ka va nl cl nk ck nv cv n) => told_ans (Gs.out ga) hR hR1
  generalize an.how = m at *
  have hs4 : w.heap.size + 2 ≤ w4.heap.size := by have := hw4.size; omega
  have z0 := (hw4.block w.heap.size (by omega)).trans y0
  have z1 := (hw4.block (w.heap.size + 1) (by omega)).trans y1
  have hb4 : Below w.heap.size w w4 := hb3.trans (hw4.mono (by omega))
  have Hw4 := Lib.hid hw4; clear hw4
  have HP : Hid (∀ v, an = .fine v → RepV w4 w4.heap.size v [.int .i64 k1, .int .i64 h1, .string t1, .slice la1 nl1 cl1, .slice ka1 nk1 ck1, .slice va1 nv1 cv1]) := Lib.hid fun v hv => (hP v hv).toV fun q hq => by have := Hw4.out.size; unfold OldNew at hq; omega
  clear hP
  go_wp2_with fail
  have hv5 := at_alloc w4 (.cells #[.int .i64 k1, .int .i64 h1, .string t1, .slice la1 nl1 cl1, .slice ka1 nk1 ck1, .slice va1 nv1 cv1] 26)
  have hw5 := below_alloc1 w4 (.cells #[.int .i64 k1, .int .i64 h1, .string t1, .slice la1 nl1 cl1, .slice ka1 nk1 ck1, .slice va1 nv1 cv1] 26)
  have hs5 := size_alloc1 w4 (.cells #[.int .i64 k1, .int .i64 h1, .string t1, .slice la1 nl1 cl1, .slice ka1 nk1 ck1, .slice va1 nv1 cv1] 26)
  generalize w4.alloc _ = W5 at *
  have v0 := (hw5.block w.heap.size (by omega)).trans z0
  have v1 := (hw5.block (w.heap.size + 1) (by omega)).trans z1
  have hb5 : Below w.heap.size w W5 := hb4.trans (hw5.mono (by omega))
  have hold : ∀ w', Below W5.heap.size W5 w' → (fun w' : World => w'.cell? ⟨w.heap.size, 0, none⟩ = some (.int .i64 k) ∧ w'.cell? ⟨w.heap.size, 1, none⟩ = some (.int .i64 h) ∧ w'.cell? ⟨w.heap.size, 2, none⟩ = some (.string t) ∧ w'.cell? ⟨w.heap.size, 3, none⟩ = some (.slice la nl cl) ∧ w'.cell? ⟨w.heap.size, 4, none⟩ = some (.slice ka nk ck) ∧ w'.cell? ⟨w.heap.size, 5, none⟩ = some (.slice va nv cv) ∧
    w'.cell? ⟨w.heap.size + 1, 0, none⟩ = some (.int .i64 k') ∧ w'.cell? ⟨w.heap.size + 1, 1, none⟩ = some (.int .i64 h') ∧ w'.cell? ⟨w.heap.size + 1, 2, none⟩ = some (.string t') ∧ w'.cell? ⟨w.heap.size + 1, 3, none⟩ = some (.slice la' nl' cl') ∧ w'.cell? ⟨w.heap.size + 1, 4, none⟩ = some (.slice ka' nk' ck') ∧ w'.cell? ⟨w.heap.size + 1, 5, none⟩ = some (.slice va' nv' cv') ∧
    w'.cell? ⟨w4.heap.size, 0, none⟩ = some (.int .i64 k1) ∧ w'.cell? ⟨w4.heap.size, 1, none⟩ = some (.int .i64 h1) ∧ w'.cell? ⟨w4.heap.size, 2, none⟩ = some (.string t1) ∧ w'.cell? ⟨w4.heap.size, 3, none⟩ = some (.slice la1 nl1 cl1) ∧ w'.cell? ⟨w4.heap.size, 4, none⟩ = some (.slice ka1 nk1 ck1) ∧ w'.cell? ⟨w4.heap.size, 5, none⟩ = some (.slice va1 nv1 cv1) ∧ Below W5.heap.size W5 w') w' := by
    intro w' hw
    obtain ⟨a0, a1, a2, a3, a4, a5⟩ := of_block6 ((hw.block w.heap.size (by omega)).trans v0)
    obtain ⟨b0, b1, b2, b3, b4, b5⟩ := of_block6 ((hw.block (w.heap.size + 1) (by omega)).trans v1)
    obtain ⟨c0, c1, c2, c3, c4, c5⟩ := of_block6 ((hw.block w4.heap.size (by omega)).trans hv5)
    exact ⟨a0, a1, a2, a3, a4, a5, b0, b1, b2, b3, b4, b5, c0, c1, c2, c3, c4, c5, hw⟩
  have Hold := Lib.hid hold
  have h5 := Below.refl W5.heap.size W5
  obtain ⟨a0, a1, a2, a3, a4, a5, b0, b1, b2, b3, b4, b5, c0, c1, c2, c3, c4, c5, hw⟩ := hold _ h5
  have Om5 : Hid (∀ w', Below W5.heap.size W5 w' → Calls Tryz.prog 10 #[.agg #[.int .i64 k, .int .i64 h, .string t, .slice la nl cl, .slice ka nk ck, .slice va nv cv], .agg #[.int .i64 k', .int .i64 h', .string t', .slice la' nl' cl', .slice ka' nk' ck', .slice va' nv' cv']] w' (GotFrom W5 an)) :=
    Lib.hid fun w' hw => (Om.out ga gb w' (hb5.trans (hw.mono hb5.size))).mono fun e w'' h => h.from hw
  have To5 : Hid (∀ (k h n : Int) (t : ByteArray) (la ka va : Option Addr) (nl cl nk ck nv cv : Nat) (w' : World), Got w' an k h t la ka va nl cl nk ck nv cv n → Below W5.heap.size W5 w' →
      Calls Tryz.prog 8 #[.agg #[.int .i64 k, .int .i64 h, .string t, .slice la nl cl, .slice ka nk ck, .slice va nv cv, .int .i64 n], .agg #[.int .i64 k1, .int .i64 h1, .string t1, .slice la1 nl1 cl1, .slice ka1 nk1 ck1, .slice va1 nv1 cv1], .int .i64 m] w' fun e w'' => e = .returned (.bool true) ∧ Below W5.heap.size W5 w'') :=
    Lib.hid fun k h n t la ka va nl cl nk ck nv cv w' hR hw => (HS.out w' (fun v hv => (((HP.out v hv).carry hw5 hw5.size).carry hw hw.size)) k h n t la ka va nl cl nk ck nv cv hR).mono fun e w'' h => ⟨h.1, hw.trans (h.2.mono hw.size)⟩
  have HB5 := Lib.hid hb5
  clear HS Gs hold hw v0 v1 hb5 hv5 hw5 hs5 HP Om Op Fi Za Zb z0 z1 hb4 hb3 hb2 hb1 y0 y1 hx0 hx1 hbW Hw1 Hw2 Hw3 Hw4 hs1 hs2 hs3 hs4 hsW ga gb
  clear a0 a1 a2 a3 a4 a5 b0 b1 b2 b3 b4 b5 c0 c1 c2 c3 c4 c5
  go_region_held3 (fun w' : World => w'.cell? ⟨w.heap.size, 0, none⟩ = some (.int .i64 k) ∧ w'.cell? ⟨w.heap.size, 1, none⟩ = some (.int .i64 h) ∧ w'.cell? ⟨w.heap.size, 2, none⟩ = some (.string t) ∧ w'.cell? ⟨w.heap.size, 3, none⟩ = some (.slice la nl cl) ∧ w'.cell? ⟨w.heap.size, 4, none⟩ = some (.slice ka nk ck) ∧ w'.cell? ⟨w.heap.size, 5, none⟩ = some (.slice va nv cv) ∧
    w'.cell? ⟨w.heap.size + 1, 0, none⟩ = some (.int .i64 k') ∧ w'.cell? ⟨w.heap.size + 1, 1, none⟩ = some (.int .i64 h') ∧ w'.cell? ⟨w.heap.size + 1, 2, none⟩ = some (.string t') ∧ w'.cell? ⟨w.heap.size + 1, 3, none⟩ = some (.slice la' nl' cl') ∧ w'.cell? ⟨w.heap.size + 1, 4, none⟩ = some (.slice ka' nk' ck') ∧ w'.cell? ⟨w.heap.size + 1, 5, none⟩ = some (.slice va' nv' cv') ∧
    w'.cell? ⟨w4.heap.size, 0, none⟩ = some (.int .i64 k1) ∧ w'.cell? ⟨w4.heap.size, 1, none⟩ = some (.int .i64 h1) ∧ w'.cell? ⟨w4.heap.size, 2, none⟩ = some (.string t1) ∧ w'.cell? ⟨w4.heap.size, 3, none⟩ = some (.slice la1 nl1 cl1) ∧ w'.cell? ⟨w4.heap.size, 4, none⟩ = some (.slice ka1 nk1 ck1) ∧ w'.cell? ⟨w4.heap.size, 5, none⟩ = some (.slice va1 nv1 cv1) ∧ Below W5.heap.size W5 w')
    (first | exact Hold.out _ (by assumption) | exact Hold.out _ (Below.drew (by assumption)))
    (first
      | (go_at_call 10; go_split_ands; refine (Om5.out _ (by assumption)).mono ?_; rintro e w6 ⟨k2, h2, t2, la2, ka2, va2, nl2, cl2, nk2, ck2, nv2, cv2, n2, rfl, hR, hw6⟩)
      | (go_at_call 8; go_split_ands; refine (To5.out _ _ _ _ _ _ _ _ _ _ _ _ _ _ (by assumption) (by assumption)).mono ?_; rintro e w7 ⟨rfl, hw7⟩))
  go_wp2_with fail
  go_split_ands
  go_ret
  exact ⟨rfl, HB5.out.trans (Below.mono (by assumption) HB5.out.size)⟩

end Go.Proofs.YtmcahfcihhddjaaGreatDoor
