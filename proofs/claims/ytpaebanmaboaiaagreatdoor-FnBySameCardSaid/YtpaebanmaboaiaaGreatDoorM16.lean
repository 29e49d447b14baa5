/- gojq's doors of sort, unique, min, max and their ..by twins at an array's elements as their own keys; impl's doors. -/
/- Contract of laws.given where the answer is what is wanted. -/
/- Plain: what spec.Fit says of a value. -/
/- The value in a door's result. -/
/- laws.FnBySame. -/
import Derived.Test.YtpaebanmaboaiaaGreatDoorM14
import Derived.Test.YtpaebanmaboaiaaGreatDoorM15
import Derived.Test.YtpaebanmaboaiaaGreatDoorM13
import Derived.Test.YtpaebanmaboaiaaGreatDoorM01
import Derived.Test.YtpaebanmaboaiaaGreatDoorM04
import Derived.Deep.RegionHeld3
import Derived.Deep.Cut
namespace Go.Proofs.YtpaebanmaboaiaaGreatDoor
open Go Go.RowKit Go.Deep
attribute [local go_sem] assert_sl assert_sl_nil
theorem pick_small {l : List V} (hl : l.length * 104 ≤ 140737488351232) (sl : ∀ x ∈ l, Small x) {q : List Nat} (hq : Places l.length q) : Small (pickV l q) := by
  have := hq.len
  refine small_row (by simp; omega) fun x hx => ?_
  obtain ⟨i, hi, rfl⟩ := List.mem_map.1 hx
  rw [atV_get (hq.2 i hi)]
  exact sl _ (List.getElem_mem _)
theorem mm_small {l : List V} (sl : ∀ x ∈ l, Small x) (least : Bool) : Small (mmV l least) := by
  unfold mmV
  split
  · exact .mk (by simp) (by simp) (by simp) (fun i hi => by simp at hi) (fun i hi => by simp at hi)
  · have := mmG_le l least (l.length - 1)
    rw [atV_get (by omega)]
    exact sl _ (List.getElem_mem _)
/-- Both sides of a door's answer. -/
structure Fine (y : V) : Prop where
  good : Good y
  small : Small y
theorem ret_sub {P : Program} {f : Nat} {args : Array Value} {w : World} {y : V} (hy : Fine y) (h : Calls P f args w (Ret (JR w (.fine y)))) : Calls P f args w (Ret (SubR w (.fine y))) :=
  h.mono fun _ _ ⟨v, he, hj⟩ => ⟨v, he, subR_of (fun z hz => by cases hz; exact ⟨hy.good, hy.small⟩) (by intro e; cases e) hj⟩
theorem sort_fine {l : List V} (gl : ∀ x ∈ l, Good x) (hl : l.length * 104 ≤ 140737488351232) (sl : ∀ x ∈ l, Small x) : Fine (pickV l (sortQ l)) := ⟨pick_good gl (sortQ_places l), pick_small hl sl (sortQ_places l)⟩
theorem uniq_fine {l : List V} (gl : ∀ x ∈ l, Good x) (hl : l.length * 104 ≤ 140737488351232) (sl : ∀ x ∈ l, Small x) : Fine (pickV l (uniqQ l)) := ⟨pick_good gl (uniqQ_places l), pick_small hl sl (uniqQ_places l)⟩
theorem mm_fine {l : List V} (gl : ∀ x ∈ l, Good x) (sl : ∀ x ∈ l, Small x) (least : Bool) : Fine (mmV l least) := ⟨mm_good gl least, mm_small sl least⟩
theorem implSort_any {w0 : World} {B : Nat} {h : Int} {t : ByteArray} {l : List V} {ks : List ByteArray} {vs : List V} {ca : List Value} (ha : RepV w0 B (.mk 5 h t l ks vs) ca) (g : Good (.mk 5 h t l ks vs)) (w : World) (hbel : Below B w0 w) (hB : B ≤ w.heap.size) :
    Calls Tryz.prog 6 #[.agg ca.toArray] w (ResQ w (.fine (pickV l (sortQ l)))) := by
  have hs := ha.small
  obtain ⟨hl, sl, _⟩ := hs.parts
  simp only [V.list] at hl sl
  have gl : ∀ x ∈ l, Good x := fun x hx => by
    obtain ⟨i, hi, rfl⟩ := List.mem_iff_getElem.1 hx
    obtain ⟨_, _, _, list, _⟩ := g.all
    exact list i hi
  refine implSort_walk ha _ (toGo_any w0 B _ ca ha g) (fun w x jx => ret_sub (sort_fine gl hl sl) ?_) w hbel hB
  obtain ⟨a, c, f, F, rfl, ax⟩ := arrIn_of jx (fun k hk => hk)
  have hb := Below.refl w.heap.size w
  have hB := Nat.le_refl w.heap.size
  have ay := ax
  exact step_ZzSort (step_funcSort (sortBy_any gl sl ax ay ⟨#[115, 111, 114, 116]⟩ w hb hB))
theorem implSortBy_any {w0 : World} {B : Nat} {h : Int} {t : ByteArray} {l : List V} {ks : List ByteArray} {vs : List V} {ca : List Value} (ha : RepV w0 B (.mk 5 h t l ks vs) ca) (g : Good (.mk 5 h t l ks vs)) (w : World) (hbel : Below B w0 w) (hB : B ≤ w.heap.size) :
    Calls Tryz.prog 8 #[.agg ca.toArray, .agg ca.toArray] w (ResQ w (.fine (pickV l (sortQ l)))) := by
  have hs := ha.small
  obtain ⟨hl, sl, _⟩ := hs.parts
  simp only [V.list] at hl sl
  have gl : ∀ x ∈ l, Good x := fun x hx => by
    obtain ⟨i, hi, rfl⟩ := List.mem_iff_getElem.1 hx
    obtain ⟨_, _, _, list, _⟩ := g.all
    exact list i hi
  refine implSortBy_walk ha ha _ (toGo_any w0 B _ ca ha g) (toGo_any w0 B _ ca ha g) (fun w x y jx jy => ret_sub (sort_fine gl hl sl) ?_) w hbel hB
  obtain ⟨a, c, f, F, rfl, ax⟩ := arrIn_of jx (fun k hk => hk)
  obtain ⟨a', c', f', F', rfl, ay⟩ := arrIn_of jy (fun k hk => hk)
  have hb := Below.refl w.heap.size w
  have hB := Nat.le_refl w.heap.size
  exact step_ZzSortBy (step_funcSortBy (sortBy_any gl sl ax ay ⟨#[115, 111, 114, 116, 95, 98, 121]⟩ w hb hB))
theorem implUnique_any {w0 : World} {B : Nat} {h : Int} {t : ByteArray} {l : List V} {ks : List ByteArray} {vs : List V} {ca : List Value} (ha : RepV w0 B (.mk 5 h t l ks vs) ca) (g : Good (.mk 5 h t l ks vs)) (w : World) (hbel : Below B w0 w) (hB : B ≤ w.heap.size) :
    Calls Tryz.prog 10 #[.agg ca.toArray] w (ResQ w (.fine (pickV l (uniqQ l)))) := by
  have hs := ha.small
  obtain ⟨hl, sl, _⟩ := hs.parts
  simp only [V.list] at hl sl
  have gl : ∀ x ∈ l, Good x := fun x hx => by
    obtain ⟨i, hi, rfl⟩ := List.mem_iff_getElem.1 hx
    obtain ⟨_, _, _, list, _⟩ := g.all
    exact list i hi
  refine implUnique_walk ha _ (toGo_any w0 B _ ca ha g) (fun w x jx => ret_sub (uniq_fine gl hl sl) ?_) w hbel hB
  obtain ⟨a, c, f, F, rfl, ax⟩ := arrIn_of jx (fun k hk => hk)
  have hb := Below.refl w.heap.size w
  have hB := Nat.le_refl w.heap.size
  have ay := ax
  exact step_ZzUnique (step_funcUnique (uniqueBy_any gl sl ax ay ⟨#[117, 110, 105, 113, 117, 101]⟩ w hb hB))
theorem implUniqueBy_any {w0 : World} {B : Nat} {h : Int} {t : ByteArray} {l : List V} {ks : List ByteArray} {vs : List V} {ca : List Value} (ha : RepV w0 B (.mk 5 h t l ks vs) ca) (g : Good (.mk 5 h t l ks vs)) (w : World) (hbel : Below B w0 w) (hB : B ≤ w.heap.size) :
    Calls Tryz.prog 9 #[.agg ca.toArray, .agg ca.toArray] w (ResQ w (.fine (pickV l (uniqQ l)))) := by
  have hs := ha.small
  obtain ⟨hl, sl, _⟩ := hs.parts
  simp only [V.list] at hl sl
  have gl : ∀ x ∈ l, Good x := fun x hx => by
    obtain ⟨i, hi, rfl⟩ := List.mem_iff_getElem.1 hx
    obtain ⟨_, _, _, list, _⟩ := g.all
    exact list i hi
  refine implUniqueBy_walk ha ha _ (toGo_any w0 B _ ca ha g) (toGo_any w0 B _ ca ha g) (fun w x y jx jy => ret_sub (uniq_fine gl hl sl) ?_) w hbel hB
  obtain ⟨a, c, f, F, rfl, ax⟩ := arrIn_of jx (fun k hk => hk)
  obtain ⟨a', c', f', F', rfl, ay⟩ := arrIn_of jy (fun k hk => hk)
  have hb := Below.refl w.heap.size w
  have hB := Nat.le_refl w.heap.size
  exact step_ZzUniqueBy (step_funcUniqueBy (uniqueBy_any gl sl ax ay ⟨#[117, 110, 105, 113, 117, 101, 95, 98, 121]⟩ w hb hB))
set_option maxRecDepth 100000 in
theorem step_funcMin {a : Option Addr} {n c : Nat} {w : World} {R : Value → World → Prop} (h : Calls Tryz.prog 50 #[.slice a n c, .slice a n c, .bool true] w (Ret R)) : Calls Tryz.prog 40 #[.iface 49 (.slice a n c)] w (Ret R) := by
  have H := Lib.hid h; clear h
  go_enter Tryz.func40, Tryz.ntmps40
  go_wp2_with fail
  refine H.out.mono ?_
  clear H
  rintro e w2 ⟨v, rfl, hv⟩
  have Hv := Lib.hid hv
  clear hv
  go_wp2_with fail
  go_ret
  exact ⟨_, rfl, Hv.out⟩
set_option maxRecDepth 100000 in
theorem step_funcMinBy {a a' : Option Addr} {n c c' : Nat} {w : World} {R : Value → World → Prop} (h : Calls Tryz.prog 50 #[.slice a n c, .slice a' n c', .bool true] w (Ret R)) : Calls Tryz.prog 39 #[.iface 49 (.slice a n c), .iface 49 (.slice a' n c')] w (Ret R) := by
  have H := Lib.hid h; clear h
  go_enter Tryz.func39, Tryz.ntmps39
  go_wp2_with fail
  refine H.out.mono ?_
  clear H
  rintro e w2 ⟨v, rfl, hv⟩
  have Hv := Lib.hid hv
  clear hv
  go_wp2_with fail
  go_ret
  exact ⟨_, rfl, Hv.out⟩
theorem implMin_any {w0 : World} {B : Nat} {h : Int} {t : ByteArray} {l : List V} {ks : List ByteArray} {vs : List V} {ca : List Value} (ha : RepV w0 B (.mk 5 h t l ks vs) ca) (g : Good (.mk 5 h t l ks vs)) (w : World) (hbel : Below B w0 w) (hB : B ≤ w.heap.size) :
    Calls Tryz.prog 12 #[.agg ca.toArray] w (ResQ w (.fine (mmV l true))) := by
  have hs := ha.small
  obtain ⟨hl, sl, _⟩ := hs.parts
  simp only [V.list] at hl sl
  have gl : ∀ x ∈ l, Good x := fun x hx => by
    obtain ⟨i, hi, rfl⟩ := List.mem_iff_getElem.1 hx
    obtain ⟨_, _, _, list, _⟩ := g.all
    exact list i hi
  refine implMin_walk ha _ (toGo_any w0 B _ ca ha g) (fun w x jx => ret_sub (mm_fine gl sl true) ?_) w hbel hB
  obtain ⟨a, c, f, F, rfl, ax⟩ := arrIn_of jx (fun k hk => hk)
  have hb := Below.refl w.heap.size w
  have hB := Nat.le_refl w.heap.size
  have ay := ax
  exact step_ZzMin (step_funcMin (minMax_any gl sl ax ay true w hb hB))
theorem implMinBy_any {w0 : World} {B : Nat} {h : Int} {t : ByteArray} {l : List V} {ks : List ByteArray} {vs : List V} {ca : List Value} (ha : RepV w0 B (.mk 5 h t l ks vs) ca) (g : Good (.mk 5 h t l ks vs)) (w : World) (hbel : Below B w0 w) (hB : B ≤ w.heap.size) :
    Calls Tryz.prog 11 #[.agg ca.toArray, .agg ca.toArray] w (ResQ w (.fine (mmV l true))) := by
  have hs := ha.small
  obtain ⟨hl, sl, _⟩ := hs.parts
  simp only [V.list] at hl sl
  have gl : ∀ x ∈ l, Good x := fun x hx => by
    obtain ⟨i, hi, rfl⟩ := List.mem_iff_getElem.1 hx
    obtain ⟨_, _, _, list, _⟩ := g.all
    exact list i hi
  refine implMinBy_walk ha ha _ (toGo_any w0 B _ ca ha g) (toGo_any w0 B _ ca ha g) (fun w x y jx jy => ret_sub (mm_fine gl sl true) ?_) w hbel hB
  obtain ⟨a, c, f, F, rfl, ax⟩ := arrIn_of jx (fun k hk => hk)
  obtain ⟨a', c', f', F', rfl, ay⟩ := arrIn_of jy (fun k hk => hk)
  have hb := Below.refl w.heap.size w
  have hB := Nat.le_refl w.heap.size
  exact step_ZzMinBy (step_funcMinBy (minMax_any gl sl ax ay true w hb hB))
set_option maxRecDepth 100000 in
theorem step_funcMax {a : Option Addr} {n c : Nat} {w : World} {R : Value → World → Prop} (h : Calls Tryz.prog 50 #[.slice a n c, .slice a n c, .bool false] w (Ret R)) : Calls Tryz.prog 42 #[.iface 49 (.slice a n c)] w (Ret R) := by
  have H := Lib.hid h; clear h
  go_enter Tryz.func42, Tryz.ntmps42
  go_wp2_with fail
  refine H.out.mono ?_
  clear H
  rintro e w2 ⟨v, rfl, hv⟩
  have Hv := Lib.hid hv
  clear hv
  go_wp2_with fail
  go_ret
  exact ⟨_, rfl, Hv.out⟩
set_option maxRecDepth 100000 in
theorem step_funcMaxBy {a a' : Option Addr} {n c c' : Nat} {w : World} {R : Value → World → Prop} (h : Calls Tryz.prog 50 #[.slice a n c, .slice a' n c', .bool false] w (Ret R)) : Calls Tryz.prog 41 #[.iface 49 (.slice a n c), .iface 49 (.slice a' n c')] w (Ret R) := by
  have H := Lib.hid h; clear h
  go_enter Tryz.func41, Tryz.ntmps41
  go_wp2_with fail
  refine H.out.mono ?_
  clear H
  rintro e w2 ⟨v, rfl, hv⟩
  have Hv := Lib.hid hv
  clear hv
  go_wp2_with fail
  go_ret
  exact ⟨_, rfl, Hv.out⟩
theorem implMax_any {w0 : World} {B : Nat} {h : Int} {t : ByteArray} {l : List V} {ks : List ByteArray} {vs : List V} {ca : List Value} (ha : RepV w0 B (.mk 5 h t l ks vs) ca) (g : Good (.mk 5 h t l ks vs)) (w : World) (hbel : Below B w0 w) (hB : B ≤ w.heap.size) :
    Calls Tryz.prog 14 #[.agg ca.toArray] w (ResQ w (.fine (mmV l false))) := by
  have hs := ha.small
  obtain ⟨hl, sl, _⟩ := hs.parts
  simp only [V.list] at hl sl
  have gl : ∀ x ∈ l, Good x := fun x hx => by
    obtain ⟨i, hi, rfl⟩ := List.mem_iff_getElem.1 hx
    obtain ⟨_, _, _, list, _⟩ := g.all
    exact list i hi
  refine implMax_walk ha _ (toGo_any w0 B _ ca ha g) (fun w x jx => ret_sub (mm_fine gl sl false) ?_) w hbel hB
  obtain ⟨a, c, f, F, rfl, ax⟩ := arrIn_of jx (fun k hk => hk)
  have hb := Below.refl w.heap.size w
  have hB := Nat.le_refl w.heap.size
  have ay := ax
  exact step_ZzMax (step_funcMax (minMax_any gl sl ax ay false w hb hB))
theorem implMaxBy_any {w0 : World} {B : Nat} {h : Int} {t : ByteArray} {l : List V} {ks : List ByteArray} {vs : List V} {ca : List Value} (ha : RepV w0 B (.mk 5 h t l ks vs) ca) (g : Good (.mk 5 h t l ks vs)) (w : World) (hbel : Below B w0 w) (hB : B ≤ w.heap.size) :
    Calls Tryz.prog 13 #[.agg ca.toArray, .agg ca.toArray] w (ResQ w (.fine (mmV l false))) := by
  have hs := ha.small
  obtain ⟨hl, sl, _⟩ := hs.parts
  simp only [V.list] at hl sl
  have gl : ∀ x ∈ l, Good x := fun x hx => by
    obtain ⟨i, hi, rfl⟩ := List.mem_iff_getElem.1 hx
    obtain ⟨_, _, _, list, _⟩ := g.all
    exact list i hi
  refine implMaxBy_walk ha ha _ (toGo_any w0 B _ ca ha g) (toGo_any w0 B _ ca ha g) (fun w x y jx jy => ret_sub (mm_fine gl sl false) ?_) w hbel hB
  obtain ⟨a, c, f, F, rfl, ax⟩ := arrIn_of jx (fun k hk => hk)
  obtain ⟨a', c', f', F', rfl, ay⟩ := arrIn_of jy (fun k hk => hk)
  have hb := Below.refl w.heap.size w
  have hB := Nat.le_refl w.heap.size
  exact step_ZzMaxBy (step_funcMaxBy (minMax_any gl sl ax ay false w hb hB))
end Go.Proofs.YtpaebanmaboaiaaGreatDoor

namespace Go.Proofs.YtpaebanmaboaiaaGreatDoor
open Go Go.RowKit Go.Deep
set_option maxRecDepth 100000 in
theorem given_any {w : World} {v : V} (gv : Good v) {k h n k1 h1 : Int} {t t1 : ByteArray} {la ka va la1 ka1 va1 : Option Addr} {nl cl nk ck nv cv nl1 cl1 nk1 ck1 nv1 cv1 : Nat}
    (hR : Got w (.fine v) k h t la ka va nl cl nk ck nv cv n) (hP : RepV w w.heap.size v [.int .i64 k1, .int .i64 h1, .string t1, .slice la1 nl1 cl1, .slice ka1 nk1 ck1, .slice va1 nv1 cv1]) :
    Calls Tryz.prog 7 #[.agg #[.int .i64 k, .int .i64 h, .string t, .slice la nl cl, .slice ka nk ck, .slice va nv cv, .int .i64 n], .agg #[.int .i64 k1, .int .i64 h1, .string t1, .slice la1 nl1 cl1, .slice ka1 nk1 ck1, .slice va1 nv1 cv1]] w (Yes w) := by
  have hT := Lib.hid fun (w' : World) (hb : Below w.heap.size w w') => told_ans (w := w') (an := .fine v) (fun x e => by cases e; exact gv) (k := k) (h := h) (n := n) (t := t) (la := la) (ka := ka) (va := va) (nl := nl) (cl := cl) (nk := nk) (ck := ck) (nv := nv) (cv := cv)
    ⟨fun x e => ⟨(hR.1 x e).1, (hR.1 x e).2.carry hb hb.size⟩, hR.2⟩ (fun x e => by cases e; exact hP.carry hb hb.size)
  clear hR hP
  go_enter Tryz.func7, Tryz.ntmps7
  go_wp2_with fail
  refine (hT.out _ (below_alloc2 w _ _)).mono ?_
  rintro e w1 ⟨rfl, hb⟩
  have hs := (below_alloc2 w (.cells #[.int .i64 k, .int .i64 h, .string t, .slice la nl cl, .slice ka nk ck, .slice va nv cv, .int .i64 n] 29) (.cells #[.int .i64 k1, .int .i64 h1, .string t1, .slice la1 nl1 cl1, .slice ka1 nk1 ck1, .slice va1 nv1 cv1] 26)).trans (hb.mono (by simp; omega))
  have Hs := Lib.hid hs
  clear hs hb
  go_wp2_with fail
  go_ret
  exact ⟨rfl, Hs.out⟩
end Go.Proofs.YtpaebanmaboaiaaGreatDoor

namespace Go.Proofs.YtpaebanmaboaiaaGreatDoor
open Go Go.RowKit
mutual
theorem look_good : ∀ (v : V) (deep : Int) (s : Lk), (lookV v deep s).bad = false → Good v ∧ s.bad = false
  | .mk k h t l ks vs, deep, s, hb => by
    unfold lookV at hb
    split at hb
    · rename_i e
      rw [e] at hb
      cases hb
    · obtain ⟨hm, hv, hr, hk⟩ := look_goodM none ks vs deep _ hb
      obtain ⟨hl, hs⟩ := look_goodL l deep _ hm
      obtain ⟨hs, _, hval⟩ := Lk.str_bad hs
      obtain ⟨hs, hhalf⟩ := (Lk.want_bad _ _).1 hs
      obtain ⟨hs, hshape⟩ := (Lk.want_bad _ _).1 hs
      have hlen : ks.length = vs.length := by
        simp only [shapeB, Bool.and_eq_true, beq_iff_eq] at hshape
        exact hshape.2
      exact ⟨.mk hshape hhalf hval hl (fun i hi => (hr hlen).2 i hi) (fun i hi => hk hlen i hi) (fun i hi => hv hlen i hi), (Lk.part_bad hs).1⟩
theorem look_goodL : ∀ (l : List V) (deep : Int) (s : Lk), (lookL l deep s).bad = false → (∀ i (hi : i < l.length), Good l[i]) ∧ s.bad = false
  | [], _, s, hb => ⟨fun i hi => absurd hi (by simp), by unfold lookL at hb; exact hb⟩
  | v :: r, deep, s, hb => by
    unfold lookL at hb
    split at hb
    · rename_i e
      rw [e] at hb
      cases hb
    · rename_i e
      obtain ⟨hr, hs⟩ := look_goodL r deep _ hb
      obtain ⟨hv, _⟩ := look_good v _ _ hs
      refine ⟨fun i hi => ?_, by simpa using e⟩
      cases i with
      | zero => exact hv
      | succ j => exact hr j (by simpa using hi)
theorem look_goodM : ∀ (p : Option ByteArray) (ks : List ByteArray) (vs : List V) (deep : Int) (s : Lk), (lookM p ks vs deep s).bad = false →
    s.bad = false ∧ (ks.length = vs.length → ∀ i (hi : i < vs.length), Good vs[i]) ∧
    (ks.length = vs.length → (∀ (h0 : 0 < ks.length), riseB p ks[0] = true) ∧ ∀ i (hi : i + 1 < ks.length), Op.bytesLess ks[i].toList ks[i + 1].toList = true) ∧
    (ks.length = vs.length → ∀ i (hi : i < ks.length), Lib.validD ks[i].data.toList = true)
  | p, [], vs, deep, s, hb => by
    unfold lookM at hb
    refine ⟨hb, fun e i hi => ?_, fun e => ⟨fun h0 => absurd h0 (by simp), fun i hi => absurd hi (by simp)⟩, fun e i hi => absurd hi (by simp)⟩
    simp at e
    omega
  | p, k :: ks, [], deep, s, hb => by
    unfold lookM at hb
    exact ⟨hb, fun e => by simp at e, fun e => by simp at e, fun e => by simp at e⟩
  | p, k :: ks, v :: vs, deep, s, hb => by
    unfold lookM at hb
    split at hb
    · rename_i e
      rw [e] at hb
      cases hb
    · rename_i e
      obtain ⟨hm, hv, hr, hk⟩ := look_goodM (some k) ks vs deep _ hb
      obtain ⟨gv, hs⟩ := look_good v _ _ hm
      obtain ⟨hs, hrise⟩ := (Lk.want_bad _ _).1 hs
      obtain ⟨_, _, hval⟩ := Lk.str_bad hs
      refine ⟨by simpa using e, fun e i hi => ?_, fun e => ⟨fun _ => hrise, fun i hi => ?_⟩, fun e i hi => ?_⟩
      · have e' : ks.length = vs.length := by simpa using e
        cases i with
        | zero => exact gv
        | succ j => exact hv e' j (by simpa using hi)
      · have e' : ks.length = vs.length := by simpa using e
        cases i with
        | zero => exact (hr e').1 (by simpa using hi)
        | succ j => exact (hr e').2 j (by simpa using hi)
      · have e' : ks.length = vs.length := by simpa using e
        cases i with
        | zero => exact hval
        | succ j => exact hk e' j (by simpa using hi)
end

theorem fit_good {v : V} (h : fitB v = true) : Good v :=
  (look_good v 0 _ (by simpa [fitB] using h)).1
end Go.Proofs.YtpaebanmaboaiaaGreatDoor

namespace Go.Proofs.YtpaebanmaboaiaaGreatDoor
open Go Go.RowKit
theorem field_val (k h : Int) (t : ByteArray) (la ka va : Option Addr) (nl cl nk ck nv cv : Nat) (n : Int) (w : World) :
    (Instr.field 29 (.agg #[.int .i64 k, .int .i64 h, .string t, .slice la nl cl, .slice ka nk ck, .slice va nv cv, .int .i64 n]) 0).run Tryz.prog w = .ok (.agg #[.int .i64 k, .int .i64 h, .string t, .slice la nl cl, .slice ka nk ck, .slice va nv cv]) w := by
  kernel_rfl
end Go.Proofs.YtpaebanmaboaiaaGreatDoor

namespace Go.Proofs.YtpaebanmaboaiaaGreatDoor
open Go Go.RowKit Go.Deep
attribute [local go_sem] field_val
/-- A door's fine answer. -/
def GotV (w : World) (y : V) (k h : Int) (t : ByteArray) (la ka va : Option Addr) (nl cl nk ck nv cv : Nat) (n : Int) : Prop :=
  Good y ∧ n = 0 ∧ RepV w w.heap.size y [.int .i64 k, .int .i64 h, .string t, .slice la nl cl, .slice ka nk ck, .slice va nv cv]
theorem GotV.carry {w w' : World} {y : V} {k h : Int} {t : ByteArray} {la ka va : Option Addr} {nl cl nk ck nv cv : Nat} {n : Int} (g : GotV w y k h t la ka va nl cl nk ck nv cv n) (hb : Below w.heap.size w w') : GotV w' y k h t la ka va nl cl nk ck nv cv n :=
  ⟨g.1, g.2.1, g.2.2.carry hb hb.size⟩
/-- How a door answers. -/
def GotR (Z w : World) (y : V) (e : Ending) (w' : World) : Prop :=
  ∃ (k h : Int) (t : ByteArray) (la ka va : Option Addr) (nl cl nk ck nv cv : Nat) (n : Int), e = .returned (.agg #[.int .i64 k, .int .i64 h, .string t, .slice la nl cl, .slice ka nk ck, .slice va nv cv, .int .i64 n]) ∧
    GotV w' y k h t la ka va nl cl nk ck nv cv n ∧ Below Z.heap.size Z w' ∧ Below w.heap.size w w'
theorem gotR_of {Z w : World} {y : V} (gy : Good y) (hz : Below Z.heap.size Z w) {e : Ending} {w' : World} (h : ResQ w (.fine y) e w') : GotR Z w y e w' := by
  obtain ⟨k, hh, t, la, ka, va, nl, cl, nk, ck, nv, cv, n, he, hR, hb⟩ := h
  obtain ⟨hn, hr⟩ := hR.1 y rfl
  exact ⟨k, hh, t, la, ka, va, nl, cl, nk, ck, nv, cv, n, he, ⟨gy, hn, hr.toV fun q hq => hq.2⟩, hz.trans (hb.mono hz.size), hb⟩
theorem Good.elems {h : Int} {t : ByteArray} {l : List V} {ks : List ByteArray} {vs : List V} (g : Good (.mk 5 h t l ks vs)) : ∀ x ∈ l, Good x := fun x hx => by
  obtain ⟨i, hi, rfl⟩ := List.mem_iff_getElem.1 hx
  obtain ⟨_, _, _, list, _⟩ := g.all
  exact list i hi
theorem below_of12 {p1 p2 p3 p4 p5 p6 p7 p8 p9 pa pb pc : Prop} {B : Nat} {w w' : World} (h : p1 ∧ p2 ∧ p3 ∧ p4 ∧ p5 ∧ p6 ∧ p7 ∧ p8 ∧ p9 ∧ pa ∧ pb ∧ pc ∧ Below B w w') : Below B w w' := h.2.2.2.2.2.2.2.2.2.2.2.2
theorem rep_kind {w : World} {B : Nat} {k k' h : Int} {t : ByteArray} {l : List V} {ks : List ByteArray} {vs : List V} {r : List Value} (hv : RepV w B (.mk k h t l ks vs) (.int .i64 k' :: r)) : k' = k := by
  cases hv
  rfl
set_option maxHeartbeats 4000000 in
set_option maxRecDepth 100000 in
theorem fnBySame_any (w : World) (v : V) (cv : List Value) (hv : RepV w w.heap.size v cv) (hTB : TabsB w w.heap.size) :
    Calls Tryz.prog 3 #[.agg cv.toArray] w (Yes w) := by
  have Za := Lib.hid fun (w' : World) (h : Below w.heap.size w w') => zz1_any w' v cv (hv.carry h h.size)
  have Fi := Lib.hid fun (w' : World) (h : Below w.heap.size w w') => fit_any w' v cv (hv.carry h h.size) (hTB.carry h h.size)
  have Gs : Hid (fitB v = true → Good v) := Lib.hid fun h => fit_good h
  have Hv := Lib.hid fun (w' : World) (h : Below w.heap.size w w') => hv.carry h h.size
  generalize fitB v = fb at *
  obtain ⟨k, h, t, l, ks, vs⟩ := v
  obtain ⟨k', h', t', la, ka, va, nl, cl, nk, ck, nv, cv, hcs⟩ := hv.shape
  obtain ⟨rfl⟩ : k' = k := by
    cases hv
    simp only [List.cons.injEq, Value.int.injEq] at hcs
    exact hcs.1.2.symm
  subst hcs
  clear hv hTB
  go_enter Tryz.func3, Tryz.ntmps3
  go_wp2_with fail
  have hbW := below_alloc1 w (.cells #[.int .i64 k, .int .i64 h', .string t', .slice la nl cl, .slice ka nk ck, .slice va nv cv] 26)
  have hx0 := at_alloc w (.cells #[.int .i64 k, .int .i64 h', .string t', .slice la nl cl, .slice ka nk ck, .slice va nv cv] 26)
  have hsW := size_alloc1 w (.cells #[.int .i64 k, .int .i64 h', .string t', .slice la nl cl, .slice ka nk ck, .slice va nv cv] 26)
  refine (Za.out _ hbW).mono ?_
  generalize w.alloc _ = W at *
  rintro e w1 ⟨⟨za, rfl⟩, hw1⟩
  have hs1 : w.heap.size + 1 ≤ w1.heap.size := by have := hw1.size; omega
  have y0 := (hw1.block w.heap.size (by omega)).trans hx0
  have hb1 : Below w.heap.size w w1 := hbW.trans (hw1.mono (by omega))
  clear hw1 hbW hx0 hsW
  cases za with
  | false =>
    go_wp2_with fail
    go_ret
    exact ⟨rfl, hb1⟩
  | true =>
  obtain ⟨a0, a1, a2, a3, a4, a5⟩ := of_block6 y0
  go_wp2_with fail
  refine (Fi.out _ hb1).mono ?_
  rintro e w2 ⟨rfl, hw2⟩
  have hs2 := hw2.size
  have hb2 : Below w.heap.size w w2 := hb1.trans (hw2.mono (by omega))
  have y2 := (hw2.block w.heap.size (by omega)).trans y0
  clear hw2 y0 a0 a1 a2 a3 a4 a5 Fi Za
  obtain ⟨a0, a1, a2, a3, a4, a5⟩ := of_block6 y2
  cases fb with
  | false =>
    go_wp2_with fail
    go_ret
    exact ⟨rfl, hb2⟩
  | true =>
  have gv := Gs.out rfl
  clear Gs
  by_cases hk : k = 5
  · subst hk
    have Sx := Lib.hid fun w' hb => implSort_any (Hv.out w2 hb2) gv w' hb (Below.size hb)
    have Gv := Lib.hid gv
    have Hb2 := Lib.hid hb2
    have Y2 := Lib.hid fun (_ : True) => y2
    clear gv hb2 hb1
    go_wp2_with fail
    refine (Sx.out _ (Below.refl _ _)).mono ?_
    clear Sx
    rintro e w3 h3
    obtain ⟨k1, h1, t1, la1, ka1, va1, nl1, cl1, nk1, ck1, nv1, cv1, n1, rfl, ⟨gs1, rfl, hr1⟩, hw3, _⟩ := gotR_of (pick_good (Good.elems Gv.out) (sortQ_places l)) (Below.refl _ _) h3
    obtain rfl : k1 = 5 := rep_kind hr1
    have y3 := (hw3.block w.heap.size (by omega)).trans (Y2.out trivial)
    have hs3 := hw3.size
    have Hr1 := Lib.hid hr1
    have Gs1 := Lib.hid gs1
    have Hw3 := Lib.hid hw3
    clear h3 hr1 gs1 hw3 a0 a1 a2 a3 a4 a5
    obtain ⟨a0, a1, a2, a3, a4, a5⟩ := of_block6 y3
    go_upto_region 6 with fail
    have hbZ := below_alloc1 w3 (.cells #[.int .i64 5, .int .i64 h1, .string t1, .slice la1 nl1 cl1, .slice ka1 nk1 ck1, .slice va1 nv1 cv1] 26)
    have hsZ := size_alloc1 w3 (.cells #[.int .i64 5, .int .i64 h1, .string t1, .slice la1 nl1 cl1, .slice ka1 nk1 ck1, .slice va1 nv1 cv1] 26)
    have hxZ := at_alloc w3 (.cells #[.int .i64 5, .int .i64 h1, .string t1, .slice la1 nl1 cl1, .slice ka1 nk1 ck1, .slice va1 nv1 cv1] 26)
    generalize w3.alloc _ = Z at *
    have hbwZ : Below w.heap.size w Z := (Hb2.out.trans (Hw3.out.mono Hb2.out.size)).trans (hbZ.mono (by have := Hb2.out.size; omega))
    have v0 := (hbZ.block w.heap.size (by omega)).trans y3
    have hvZ := Hv.out Z hbwZ
    have hsv : GotV Z (pickV l (sortQ l)) 5 h1 t1 la1 ka1 va1 nl1 cl1 nk1 ck1 nv1 cv1 0 := ⟨Gs1.out, rfl, Hr1.out.carry hbZ hbZ.size⟩
    have HsV := Lib.hid fun w' (hb : Below Z.heap.size Z w') => hsv.carry hb
    have hold : ∀ w', Below Z.heap.size Z w' → (fun w' : World => w'.cell? ⟨w.heap.size, 0, none⟩ = some (.int .i64 5) ∧ w'.cell? ⟨w.heap.size, 1, none⟩ = some (.int .i64 h') ∧ w'.cell? ⟨w.heap.size, 2, none⟩ = some (.string t') ∧ w'.cell? ⟨w.heap.size, 3, none⟩ = some (.slice la nl cl) ∧ w'.cell? ⟨w.heap.size, 4, none⟩ = some (.slice ka nk ck) ∧ w'.cell? ⟨w.heap.size, 5, none⟩ = some (.slice va nv cv) ∧
      w'.cell? ⟨w3.heap.size, 0, none⟩ = some (.int .i64 5) ∧ w'.cell? ⟨w3.heap.size, 1, none⟩ = some (.int .i64 h1) ∧ w'.cell? ⟨w3.heap.size, 2, none⟩ = some (.string t1) ∧ w'.cell? ⟨w3.heap.size, 3, none⟩ = some (.slice la1 nl1 cl1) ∧ w'.cell? ⟨w3.heap.size, 4, none⟩ = some (.slice ka1 nk1 ck1) ∧ w'.cell? ⟨w3.heap.size, 5, none⟩ = some (.slice va1 nv1 cv1) ∧ Below Z.heap.size Z w') w' := by
      intro w' hw
      obtain ⟨a0, a1, a2, a3, a4, a5⟩ := of_block6 ((hw.block w.heap.size (by omega)).trans v0)
      obtain ⟨c0, c1, c2, c3, c4, c5⟩ := of_block6 ((hw.block w3.heap.size (by omega)).trans hxZ)
      exact ⟨a0, a1, a2, a3, a4, a5, c0, c1, c2, c3, c4, c5, hw⟩
    have Hold := Lib.hid hold
    have Sb : Hid (∀ w', Below Z.heap.size Z w' → Calls Tryz.prog 8 #[.agg #[.int .i64 5, .int .i64 h', .string t', .slice la nl cl, .slice ka nk ck, .slice va nv cv], .agg #[.int .i64 5, .int .i64 h', .string t', .slice la nl cl, .slice ka nk ck, .slice va nv cv]] w' (GotR Z w' (pickV l (sortQ l)))) :=
      Lib.hid fun w' hb => (implSortBy_any hvZ Gv.out w' hb hb.size).mono fun e w'' hq => gotR_of (pick_good (Good.elems Gv.out) (sortQ_places l)) hb hq
    have Ub : Hid (∀ w', Below Z.heap.size Z w' → Calls Tryz.prog 9 #[.agg #[.int .i64 5, .int .i64 h', .string t', .slice la nl cl, .slice ka nk ck, .slice va nv cv], .agg #[.int .i64 5, .int .i64 h', .string t', .slice la nl cl, .slice ka nk ck, .slice va nv cv]] w' (GotR Z w' (pickV l (uniqQ l)))) :=
      Lib.hid fun w' hb => (implUniqueBy_any hvZ Gv.out w' hb hb.size).mono fun e w'' hq => gotR_of (pick_good (Good.elems Gv.out) (uniqQ_places l)) hb hq
    have Uu : Hid (∀ w', Below Z.heap.size Z w' → Calls Tryz.prog 10 #[.agg #[.int .i64 5, .int .i64 h', .string t', .slice la nl cl, .slice ka nk ck, .slice va nv cv]] w' (GotR Z w' (pickV l (uniqQ l)))) :=
      Lib.hid fun w' hb => (implUnique_any hvZ Gv.out w' hb hb.size).mono fun e w'' hq => gotR_of (pick_good (Good.elems Gv.out) (uniqQ_places l)) hb hq
    have Nb : Hid (∀ w', Below Z.heap.size Z w' → Calls Tryz.prog 11 #[.agg #[.int .i64 5, .int .i64 h', .string t', .slice la nl cl, .slice ka nk ck, .slice va nv cv], .agg #[.int .i64 5, .int .i64 h', .string t', .slice la nl cl, .slice ka nk ck, .slice va nv cv]] w' (GotR Z w' (mmV l true))) :=
      Lib.hid fun w' hb => (implMinBy_any hvZ Gv.out w' hb hb.size).mono fun e w'' hq => gotR_of (mm_good (Good.elems Gv.out) true) hb hq
    have Nn : Hid (∀ w', Below Z.heap.size Z w' → Calls Tryz.prog 12 #[.agg #[.int .i64 5, .int .i64 h', .string t', .slice la nl cl, .slice ka nk ck, .slice va nv cv]] w' (GotR Z w' (mmV l true))) :=
      Lib.hid fun w' hb => (implMin_any hvZ Gv.out w' hb hb.size).mono fun e w'' hq => gotR_of (mm_good (Good.elems Gv.out) true) hb hq
    have Xb : Hid (∀ w', Below Z.heap.size Z w' → Calls Tryz.prog 13 #[.agg #[.int .i64 5, .int .i64 h', .string t', .slice la nl cl, .slice ka nk ck, .slice va nv cv], .agg #[.int .i64 5, .int .i64 h', .string t', .slice la nl cl, .slice ka nk ck, .slice va nv cv]] w' (GotR Z w' (mmV l false))) :=
      Lib.hid fun w' hb => (implMaxBy_any hvZ Gv.out w' hb hb.size).mono fun e w'' hq => gotR_of (mm_good (Good.elems Gv.out) false) hb hq
    have Xx : Hid (∀ w', Below Z.heap.size Z w' → Calls Tryz.prog 14 #[.agg #[.int .i64 5, .int .i64 h', .string t', .slice la nl cl, .slice ka nk ck, .slice va nv cv]] w' (GotR Z w' (mmV l false))) :=
      Lib.hid fun w' hb => (implMax_any hvZ Gv.out w' hb hb.size).mono fun e w'' hq => gotR_of (mm_good (Good.elems Gv.out) false) hb hq
    have Gp : Hid (∀ (y : V) (k2 h2 n2 k3 h3 n3 : Int) (t2 t3 : ByteArray) (la2 ka2 va2 la3 ka3 va3 : Option Addr) (nl2 cl2 nk2 ck2 nv2 cv2 nl3 cl3 nk3 ck3 nv3 cv3 : Nat) (w' : World), GotV w' y k2 h2 t2 la2 ka2 va2 nl2 cl2 nk2 ck2 nv2 cv2 n2 → GotV w' y k3 h3 t3 la3 ka3 va3 nl3 cl3 nk3 ck3 nv3 cv3 n3 → Below Z.heap.size Z w' →
        Calls Tryz.prog 7 #[.agg #[.int .i64 k2, .int .i64 h2, .string t2, .slice la2 nl2 cl2, .slice ka2 nk2 ck2, .slice va2 nv2 cv2, .int .i64 n2], .agg #[.int .i64 k3, .int .i64 h3, .string t3, .slice la3 nl3 cl3, .slice ka3 nk3 ck3, .slice va3 nv3 cv3]] w' fun e w'' => e = .returned (.bool true) ∧ Below Z.heap.size Z w'') :=
      Lib.hid fun y k2 h2 n2 k3 h3 n3 t2 t3 la2 ka2 va2 la3 ka3 va3 nl2 cl2 nk2 ck2 nv2 cv2 nl3 cl3 nk3 ck3 nv3 cv3 w' g2 g3 hb => (given_any g2.1 ⟨fun z hz => by cases hz; exact g2.2, fun hz => by cases hz⟩ g3.2.2).mono fun e w'' hq => ⟨hq.1, hb.trans (hq.2.mono hb.size)⟩
    have HBZ := Lib.hid hbwZ
    have hwd : Below Z.heap.size Z Z.drew := Below.drew (Below.refl _ _)
    have g31 : ((5 : Int) == 5) = true := by decide
    obtain ⟨a0, a1, a2, a3, a4, a5, c0, c1, c2, c3, c4, c5, hw⟩ := hold Z (Below.refl _ _)
    clear hold v0 hbZ hxZ hsZ hvZ hsv hbwZ Hv Gv Y2 Hb2 Hr1 Gs1 Hw3 y2 y3 hs1 hs2 hs3
    go_region_held3 (fun w' : World => w'.cell? ⟨w.heap.size, 0, none⟩ = some (.int .i64 5) ∧ w'.cell? ⟨w.heap.size, 1, none⟩ = some (.int .i64 h') ∧ w'.cell? ⟨w.heap.size, 2, none⟩ = some (.string t') ∧ w'.cell? ⟨w.heap.size, 3, none⟩ = some (.slice la nl cl) ∧ w'.cell? ⟨w.heap.size, 4, none⟩ = some (.slice ka nk ck) ∧ w'.cell? ⟨w.heap.size, 5, none⟩ = some (.slice va nv cv) ∧
      w'.cell? ⟨w3.heap.size, 0, none⟩ = some (.int .i64 5) ∧ w'.cell? ⟨w3.heap.size, 1, none⟩ = some (.int .i64 h1) ∧ w'.cell? ⟨w3.heap.size, 2, none⟩ = some (.string t1) ∧ w'.cell? ⟨w3.heap.size, 3, none⟩ = some (.slice la1 nl1 cl1) ∧ w'.cell? ⟨w3.heap.size, 4, none⟩ = some (.slice ka1 nk1 ck1) ∧ w'.cell? ⟨w3.heap.size, 5, none⟩ = some (.slice va1 nv1 cv1) ∧ Below Z.heap.size Z w')
      (with_reducible refine Hold.out _ ?_; with_reducible assumption)
      (first
        | (go_at_call 8; refine (Sb.out _ (below_of12 (by assumption))).mono ?_; rintro e w8 ⟨k8, h8, t8, la8, ka8, va8, nl8, cl8, nk8, ck8, nv8, cv8, n8, rfl, hG8, hw8, hb8⟩)
        | (go_at_call 9; refine (Ub.out _ (below_of12 (by assumption))).mono ?_; rintro e w9 ⟨k9, h9, t9, la9, ka9, va9, nl9, cl9, nk9, ck9, nv9, cv9, n9, rfl, hG9, hw9, hb9⟩)
        | (go_at_call 10; refine (Uu.out _ (below_of12 (by assumption))).mono ?_; rintro e w10 ⟨k10, h10, t10, la10, ka10, va10, nl10, cl10, nk10, ck10, nv10, cv10, n10, rfl, hG10, hw10, hb10⟩)
        | (go_at_call 11; refine (Nb.out _ (below_of12 (by assumption))).mono ?_; rintro e w11 ⟨k11, h11, t11, la11, ka11, va11, nl11, cl11, nk11, ck11, nv11, cv11, n11, rfl, hG11, hw11, hb11⟩)
        | (go_at_call 12; refine (Nn.out _ (below_of12 (by assumption))).mono ?_; rintro e w12 ⟨k12, h12, t12, la12, ka12, va12, nl12, cl12, nk12, ck12, nv12, cv12, n12, rfl, hG12, hw12, hb12⟩)
        | (go_at_call 13; refine (Xb.out _ (below_of12 (by assumption))).mono ?_; rintro e w13 ⟨k13, h13, t13, la13, ka13, va13, nl13, cl13, nk13, ck13, nv13, cv13, n13, rfl, hG13, hw13, hb13⟩)
        | (go_at_call 14; refine (Xx.out _ (below_of12 (by assumption))).mono ?_; rintro e w14 ⟨k14, h14, t14, la14, ka14, va14, nl14, cl14, nk14, ck14, nv14, cv14, n14, rfl, hG14, hw14, hb14⟩)
        | (go_at_call 7; (first | refine (Gp.out _ _ _ _ _ _ _ _ _ _ _ _ _ _ _ _ _ _ _ _ _ _ _ _ _ _ _ _ hG8 (HsV.out _ (below_of12 (by assumption))) (below_of12 (by assumption))).mono ?_ | refine (Gp.out _ _ _ _ _ _ _ _ _ _ _ _ _ _ _ _ _ _ _ _ _ _ _ _ _ _ _ _ (GotV.carry hG9 hb10) hG10 (below_of12 (by assumption))).mono ?_ | refine (Gp.out _ _ _ _ _ _ _ _ _ _ _ _ _ _ _ _ _ _ _ _ _ _ _ _ _ _ _ _ hG9 (GotV.carry hG10 hb9) (below_of12 (by assumption))).mono ?_ | refine (Gp.out _ _ _ _ _ _ _ _ _ _ _ _ _ _ _ _ _ _ _ _ _ _ _ _ _ _ _ _ (GotV.carry hG11 hb12) hG12 (below_of12 (by assumption))).mono ?_ | refine (Gp.out _ _ _ _ _ _ _ _ _ _ _ _ _ _ _ _ _ _ _ _ _ _ _ _ _ _ _ _ hG11 (GotV.carry hG12 hb11) (below_of12 (by assumption))).mono ?_ | refine (Gp.out _ _ _ _ _ _ _ _ _ _ _ _ _ _ _ _ _ _ _ _ _ _ _ _ _ _ _ _ (GotV.carry hG13 hb14) hG14 (below_of12 (by assumption))).mono ?_ | refine (Gp.out _ _ _ _ _ _ _ _ _ _ _ _ _ _ _ _ _ _ _ _ _ _ _ _ _ _ _ _ hG13 (GotV.carry hG14 hb13) (below_of12 (by assumption))).mono ?_); rintro e w7 ⟨rfl, hw7⟩))
    all_goals
      go_wp2_with fail
      go_ret
      exact ⟨rfl, HBZ.out.trans (Below.mono (by assumption) HBZ.out.size)⟩
  · go_wp2_with fail
    go_ret
    exact ⟨rfl, hb2⟩
end Go.Proofs.YtpaebanmaboaiaaGreatDoor
