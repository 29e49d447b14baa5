/- Contract of impl.GetPath. -/
/- Contracts of laws.array, laws.fits. -/
/- Plain: what spec.Fit says of a value. -/
/- laws.FnGetPath. -/
/- What reads as a datum of type impl.Value is a value of RepV. -/
import Derived.Test.YtiphcojcdegnkaaGreatDoorM17
import Derived.Test.YtiphcojcdegnkaaGreatDoorM15
import Derived.Test.YtiphcojcdegnkaaGreatDoorM06
import Derived.Test.YtiphcojcdegnkaaGreatDoorM07
import Derived.Test.YtiphcojcdegnkaaGreatDoorM01
import Derived.Deep.RegionHeld3
import Derived.Deep.DeepCutAuto
import Derived.Deep.CutBlock
import Derived.ChangeArms
import Derived.SizedLaws
namespace Go.Proofs.YtiphcojcdegnkaaGreatDoor
open Go Go.RowKit Go.Deep

set_option maxHeartbeats 1000000 in
set_option maxRecDepth 100000 in
theorem implGet_walk {w0 : World} {B : Nat} {a b : V} {ca cb : List Value} (ha : RepV w0 B a ca) (hb : RepV w0 B b cb) (an : Ans)
    (ta : ToGoOK w0 B a ca) (tb : ToGoOK w0 B b cb)
    (hz : ∀ w x y, RepJ w (fun k => k < w.heap.size) (toJ a) x → RepJ w (fun k => k < w.heap.size) (toJ b) y → Calls Tryz.prog 20 #[x, y] w (Ret (SubR w an)))
    (w : World) (hbel : Below B w0 w) (hB : B ≤ w.heap.size) : Calls Tryz.prog 10 #[.agg ca.toArray, .agg cb.toArray] w (ResQ w an) := by
  have Ta := Lib.hid ta; clear ta
  have Tb := Lib.hid tb; clear tb
  have Hz := Lib.hid hz; clear hz
  have Hbel := Lib.hid hbel; clear hbel
  obtain ⟨k, h, t, la, ka, va, nl, cl, nk, ck, nv, cv, rfl⟩ := ha.shape
  obtain ⟨k', h', t', la', ka', va', nl', cl', nk', ck', nv', cv', rfl⟩ := hb.shape
  clear ha hb
  go_enter Tryz.func10, Tryz.ntmps10
  go_wp2_with fail
  have h0 := at_alloc3 w (.cells #[.int .i64 k, .int .i64 h, .string t, .slice la nl cl, .slice ka nk ck, .slice va nv cv] 26)
    (.cells #[.int .i64 k', .int .i64 h', .string t', .slice la' nl' cl', .slice ka' nk' ck', .slice va' nv' cv'] 26)
    (.cells #[.int .i64 0, .int .i64 0, .string ⟨#[]⟩, .slice none 0 0, .slice none 0 0, .slice none 0 0, .int .i64 0] 35)
  obtain ⟨hbW, hsW, hx1, hx2⟩ := h0
  refine (Ta.out _ (Hbel.out.trans (hbW.mono hB)) (by rw [hsW]; omega)).mono ?_
  generalize ((w.alloc _).alloc _).alloc _ = W at *
  rintro e w1 ⟨x, rfl, jx, hw1⟩
  have hs1 : w.heap.size + 3 ≤ w1.heap.size := by have := hw1.size; omega
  have y1 := (hw1.block (w.heap.size + 1) (by omega)).trans hx1
  have y2 := (hw1.block (w.heap.size + 1 + 1) (by omega)).trans hx2
  have hb1 : Below w.heap.size w w1 := hbW.trans (hw1.mono (by omega))
  obtain ⟨e0, e1, e2, e3, e4, e5⟩ := of_block6 y1
  have fx := jx.form
  have Jx := Lib.hid jx; clear jx
  have Hw1 := Lib.hid hw1; clear hw1
  go_wp2_with fail
  refine (Tb.out _ (Hbel.out.trans (hb1.mono hB)) (by omega)).mono ?_
  rintro e w2 ⟨y, rfl, jy, hw2⟩
  have hs2 : w.heap.size + 3 ≤ w2.heap.size := by have := hw2.size; omega
  have z2 := (hw2.block (w.heap.size + 1 + 1) (by omega)).trans y2
  have hb2 : Below w.heap.size w w2 := hb1.trans (hw2.mono (by omega))
  have jx2 := Jx.out.under hw2 (fun k hk => hk.2)
  have fy := jy.form
  have Z := Lib.hid (Hz.out _ _ _ (jx2.mono (fun k hk => by have := hk.2; have := hw2.size; omega)) (jy.mono (fun k hk => hk.2)))
  clear jx2 jy Jx
  rcases fx with rfl | ⟨tx, x, rfl⟩ <;> rcases fy with rfl | ⟨ty, y, rfl⟩
  all_goals
    go_wp2_with fail
    refine Z.out.mono ?_
    rintro e w3 ⟨u, rfl, hfu, hu, hw3⟩
    have hs3 : w.heap.size + 3 ≤ w3.heap.size := by have := hw3.size; omega
    have z3 := (hw3.block (w.heap.size + 1 + 1) (by omega)).trans z2
    have hb3 : Below w.heap.size w w3 := hb2.trans (hw3.mono (by omega))
    have U := Lib.hid hu
    clear hu
    rcases hfu with rfl | ⟨tu, u, rfl⟩
    all_goals
      go_wp2_with fail
      refine U.out.mono ?_
      rintro e w4 ⟨k, h, t, la, ka, va, nl, cl, nk, ck, nv, cv, n, rfl, hR, hw4⟩
      have hs4 : w.heap.size + 3 ≤ w4.heap.size := by have := hw4.size; omega
      have z4 := (hw4.block (w.heap.size + 1 + 1) (by omega)).trans z3
      obtain ⟨e0, e1, e2, e3, e4, e5, e6⟩ := of_block7 z4
      obtain ⟨f0, f1, f2, f3, f4, f5, f6⟩ := free_block7 z4
      have Hst := Lib.hid (resQ_store (z := w.heap.size + 1 + 1) (by omega) (by omega) hb3 hw4 hR)
      clear hR
      go_wp2_with fail
      refine bodyPost_ret (v := .agg #[.int .i64 k, .int .i64 h, .string t, .slice la nl cl, .slice ka nk ck, .slice va nv cv, .int .i64 n]) ?_ rfl Hst.out
      exact results_cell_row (p := 4) (ty := 35) rfl _ _ (w.heap.size + 1 + 1) 35 _ (0, 0) _ rfl (set_row7 z4 _ _ _ _ _ _ _) Tryz.underlying35 rfl (by kernel_rfl)

theorem small_row {l : List V} (hl : l.length * 104 ≤ 140737488351232) (h : ∀ x ∈ l, Small x) : Small (.mk 5 0 ⟨#[]⟩ l [] []) :=
  .mk hl (by simp) (by simp) (fun i hi => h _ (List.getElem_mem hi)) (fun i hi => by simp at hi)
theorem small_null : Small nullV := .mk (by simp) (by simp) (by simp) (fun i hi => by simp at hi) (fun i hi => by simp at hi)
theorem Small.parts {v : V} (h : Small v) : v.list.length * 104 ≤ 140737488351232 ∧ (∀ x ∈ v.list, Small x) ∧ ∀ x ∈ v.vals, Small x := by
  cases h with
  | mk hl hks hvs sl sv =>
    refine ⟨hl, fun x hx => ?_, fun x hx => ?_⟩
    · obtain ⟨i, hi, rfl⟩ := List.mem_iff_getElem.1 hx
      exact sl i hi
    · obtain ⟨i, hi, rfl⟩ := List.mem_iff_getElem.1 hx
      exact sv i hi
theorem stepA_small {v k x : V} (s : Small v) (h : stepA v k = .fine x) : Small x := by
  obtain ⟨hl, sl, sv⟩ := s.parts
  refine stepA_own (P := Small) small_null s sl sv (fun a n => small_row ?_ fun y hy => sl y (List.mem_of_mem_drop (List.mem_of_mem_take hy))) h
  have : ((v.list.drop a).take n).length ≤ v.list.length := by simp; omega
  omega
theorem pathA_small : ∀ {p : List V} {v x : V}, Small v → pathA v p = .fine x → Small x
  | [], v, x, g, h => by cases h; exact g
  | k :: p, v, x, g, h => by
    simp only [pathA] at h
    cases hs : stepA v k with
    | fine y => rw [hs] at h; exact pathA_small (stepA_small g hs) h
    | raises => rw [hs] at h; cases h
    | silent => rw [hs] at h; cases h

theorem subR_of {w w' : World} {an : Ans} {v : Value} (hg : ∀ y, an = .fine y → Good y ∧ Small y) (hns : an ≠ .silent) (h : JR w an v w') : SubR w an v w' := by
  obtain ⟨hb, hf, hr⟩ := h
  cases an with
  | fine y =>
    have hj := hf y rfl
    obtain ⟨gy, sy⟩ := hg y rfl
    exact ⟨hj.form, resQ_val (result_val hj.noErr hj.form w' w'.heap.size (fromGo_any gy sy w' w'.heap.size _ _ hj (fun k hk => hk)) w' (Below.refl _ _) (Nat.le_refl _)) (.inl rfl), hb⟩
  | raises =>
    have hv := hr rfl
    exact ⟨by obtain ⟨t, a, rfl⟩ := hv.form; exact .inr ⟨_, _, rfl⟩, resQ_err hv _, hb⟩
  | silent => exact absurd rfl hns

theorem implGet_any {w0 : World} {B : Nat} {v : V} {p : List V} {cv cb : List Value} (hv : RepV w0 B v cv) (hp : RepV w0 B (.mk 5 0 ⟨#[]⟩ p [] []) cb) (gv : Good v) (gp : ∀ x ∈ p, Good x) (hns : pathA v p ≠ .silent)
    (w : World) (hbel : Below B w0 w) (hB : B ≤ w.heap.size) : Calls Tryz.prog 10 #[.agg cv.toArray, .agg cb.toArray] w (ResQ w (pathA v p)) :=
  implGet_walk hv hp _ (toGo_any w0 B v cv hv gv) (toGo_any w0 B _ cb hp (good_row gp))
    (fun w x y jx jy => (zzGetPath_any gv gp jx (fun _ h => h) (by rw [toJ_5] at jy; exact jy) (fun _ h => h) hns w (Below.refl _ _) (Nat.le_refl _)).mono fun e w' ⟨r, he, hr⟩ => ⟨r, he, subR_of (fun y hy => ⟨pathA_good gv hy, pathA_small hv.small hy⟩) hns hr⟩) w hbel hB

end Go.Proofs.YtiphcojcdegnkaaGreatDoor

namespace Go.Proofs.YtiphcojcdegnkaaGreatDoor
open Go Go.RowKit Go.Maps Go.Deep

set_option maxRecDepth 100000 in
theorem larray_any (a : Option Addr) (n c : Nat) (w : World) : Calls Tryz.prog 7 #[.slice a n c] w fun e w' =>
    e = .returned (.agg #[.int .i64 5, .int .i64 0, .string ⟨#[]⟩, .slice a n c, .slice none 0 0, .slice none 0 0]) ∧ Below w.heap.size w w' := by
  go_enter Tryz.func7, Tryz.ntmps7
  go_wp2_with fail
  refine bodyPost_ret (v := .agg #[.int .i64 5, .int .i64 0, .string ⟨#[]⟩, .slice a n c, .slice none 0 0, .slice none 0 0]) ?_ rfl ⟨rfl, below_alloc1 w _⟩
  exact results_cell_row (p := 2) (ty := 26) rfl _ _ w.heap.size 26 _ (0, 0) _ rfl (at_alloc w _) Tryz.underlying26 rfl (by kernel_rfl)

def FitsLoop (w : World) (l : List V) (i : Value) (wr : World) : Prop := ∃ n : Nat, n ≤ l.length ∧ i = .int .i64 (n : Nat) ∧ Below w.heap.size w wr ∧ (l.take n).all fitB = true

set_option maxHeartbeats 2000000 in
set_option maxRecDepth 100000 in
theorem fits_any (w : World) (l : List V) (la : Option Addr) (lc : Nat) (C : Nat → List Value) (hl : l.length * 104 ≤ 140737488351232)
    (cl : 0 < l.length → ∃ b o, la = some ⟨b, o, none⟩ ∧ b < w.heap.size ∧ ∀ i, i < l.length → CellsAt w b (o + i * 6) (C i)) (rl : ∀ i (hi : i < l.length), RepV w w.heap.size l[i] (C i)) (hTB : TabsB w w.heap.size) :
    Calls Tryz.prog 6 #[.slice la l.length lc] w (BoolP w (l.all fitB)) := by
  have Hcl := Lib.hid cl; clear cl
  go_enter Tryz.func6, Tryz.ntmps6
  go_wp2_with fail
  go_loopw [7] (fun i wr => FitsLoop w l i wr) (fun i _ => l.length - (intOf i).toNat)
  case atStart => exact ⟨0, Nat.zero_le _, rfl, Below.refl _ _, rfl⟩
  case round =>
    obtain ⟨n, hn, rfl, hb, hall⟩ := hrel
    by_cases hn' : n < l.length
    · obtain ⟨lb, lo, rfl, hlb, hcel⟩ := Hcl.out (by omega)
      have cc := (hcel n hn').below hb hlb
      have hr := (rl n hn').carry hb hb.size
      have hsn : (l.take (n + 1)).all fitB = fitB l[n] := by
        rw [List.take_succ_eq_append_getElem hn', List.all_append, hall]; simp
      have hno : fitB l[n] = false → l.all fitB = false := fun h => by
        rw [List.all_eq_false]
        exact ⟨_, List.getElem_mem hn', by simp [h]⟩
      have Hsn := Lib.hid hsn
      have Hno := Lib.hid hno
      obtain ⟨k', h', t', la2, ka2, va2, nl', cl', nk', ck', nv', cv', hC⟩ := hr.shape
      rw [hC] at cc hr
      have hal := below_alloc1 wr (.cells #[.int .i64 k', .int .i64 h', .string t', .slice la2 nl' cl', .slice ka2 nk' ck', .slice va2 nv' cv'] 26)
      have HF := Lib.hid (fit_any (wr.alloc (.cells #[.int .i64 k', .int .i64 h', .string t', .slice la2 nl' cl', .slice ka2 nk' ck', .slice va2 nv' cv'] 26)) l[n] _ (hr.carry hal hal.size) (hTB.carry (hb.trans (hal.mono hb.size)) (by have := hb.size; have := hal.size; omega)))
      obtain ⟨y0, y1, y2, y3, y4, y5⟩ := cells6 cc
      have u1 : (n : Int) < (l.length : Int) := by omega
      have u2 : (0 : Int) ≤ (n : Int) := by omega
      have Hb := Lib.hid (hb.trans (hal.mono hb.size))
      clear hcel cc hr hC hsn hno hall hal
      go_wp2_with fail
      refine HF.out.mono ?_
      rintro e w2 ⟨rfl, hw2⟩
      have hb3 : Below w.heap.size w w2 := Hb.out.trans (hw2.mono Hb.out.size)
      cases hf : fitB l[n] with
      | true =>
        have Hr := Lib.hid (Hsn.out.trans hf)
        clear hf hw2 HF
        go_wp2_with fail
        go_roundw
        case rel => exact ⟨n + 1, hn', by go_num, hb3, Hr.out⟩
        case measure => simp [intOf]; omega
      | false =>
        have Hr := Lib.hid (Hno.out hf)
        clear hf hw2 HF
        go_wp2_with fail
        go_ret
        exact ⟨by rw [Hr.out]; rfl, hb3⟩
    · have e : n = l.length := by omega
      have Hr := Lib.hid (show l.all fitB = true by rw [← hall, e, List.take_length])
      clear hall
      go_wp2_with fail
      go_ret
      exact ⟨by rw [Hr.out]; rfl, hb⟩

end Go.Proofs.YtiphcojcdegnkaaGreatDoor

namespace Go.Proofs.YtiphcojcdegnkaaGreatDoor
open Go Go.RowKit

mutual
theorem look_good : ∀ (v : V) (deep : Int) (s : Lk), (lookV v deep s).bad = false → Good v ∧ s.bad = false
  | .mk k h t l ks vs, deep, s, hb => by
    unfold lookV at hb
    split at hb
    · rename_i e
      rw [e] at hb
      cases hb
    · obtain ⟨hm, hv, hr, hk⟩ := look_goodM none ks vs deep _ hb
      obtain ⟨hl, hs⟩ := look_goodL l deep _ hm
      obtain ⟨hs, _, hval⟩ := Lk.str_bad hs
      obtain ⟨hs, hhalf⟩ := (Lk.want_bad _ _).1 hs
      obtain ⟨hs, hshape⟩ := (Lk.want_bad _ _).1 hs
      have hlen : ks.length = vs.length := by
        simp only [shapeB, Bool.and_eq_true, beq_iff_eq] at hshape
        exact hshape.2
      exact ⟨.mk hshape hhalf hval hl (fun i hi => (hr hlen).2 i hi) (fun i hi => hk hlen i hi) (fun i hi => hv hlen i hi), (Lk.part_bad hs).1⟩
theorem look_goodL : ∀ (l : List V) (deep : Int) (s : Lk), (lookL l deep s).bad = false → (∀ i (hi : i < l.length), Good l[i]) ∧ s.bad = false
  | [], _, s, hb => ⟨fun i hi => absurd hi (by simp), by unfold lookL at hb; exact hb⟩
  | v :: r, deep, s, hb => by
    unfold lookL at hb
    split at hb
    · rename_i e
      rw [e] at hb
      cases hb
    · rename_i e
      obtain ⟨hr, hs⟩ := look_goodL r deep _ hb
      obtain ⟨hv, _⟩ := look_good v _ _ hs
      refine ⟨fun i hi => ?_, by simpa using e⟩
      cases i with
      | zero => exact hv
      | succ j => exact hr j (by simpa using hi)
theorem look_goodM : ∀ (p : Option ByteArray) (ks : List ByteArray) (vs : List V) (deep : Int) (s : Lk), (lookM p ks vs deep s).bad = false →
    s.bad = false ∧ (ks.length = vs.length → ∀ i (hi : i < vs.length), Good vs[i]) ∧
    (ks.length = vs.length → (∀ (h0 : 0 < ks.length), riseB p ks[0] = true) ∧ ∀ i (hi : i + 1 < ks.length), Op.bytesLess ks[i].toList ks[i + 1].toList = true) ∧
    (ks.length = vs.length → ∀ i (hi : i < ks.length), Lib.validD ks[i].data.toList = true)
  | p, [], vs, deep, s, hb => by
    unfold lookM at hb
    refine ⟨hb, fun e i hi => ?_, fun e => ⟨fun h0 => absurd h0 (by simp), fun i hi => absurd hi (by simp)⟩, fun e i hi => absurd hi (by simp)⟩
    simp at e
    omega
  | p, k :: ks, [], deep, s, hb => by
    unfold lookM at hb
    exact ⟨hb, fun e => by simp at e, fun e => by simp at e, fun e => by simp at e⟩
  | p, k :: ks, v :: vs, deep, s, hb => by
    unfold lookM at hb
    split at hb
    · rename_i e
      rw [e] at hb
      cases hb
    · rename_i e
      obtain ⟨hm, hv, hr, hk⟩ := look_goodM (some k) ks vs deep _ hb
      obtain ⟨gv, hs⟩ := look_good v _ _ hm
      obtain ⟨hs, hrise⟩ := (Lk.want_bad _ _).1 hs
      obtain ⟨_, _, hval⟩ := Lk.str_bad hs
      refine ⟨by simpa using e, fun e i hi => ?_, fun e => ⟨fun _ => hrise, fun i hi => ?_⟩, fun e i hi => ?_⟩
      · have e' : ks.length = vs.length := by simpa using e
        cases i with
        | zero => exact gv
        | succ j => exact hv e' j (by simpa using hi)
      · have e' : ks.length = vs.length := by simpa using e
        cases i with
        | zero => exact (hr e').1 (by simpa using hi)
        | succ j => exact (hr e').2 j (by simpa using hi)
      · have e' : ks.length = vs.length := by simpa using e
        cases i with
        | zero => exact hval
        | succ j => exact hk e' j (by simpa using hi)
end

theorem fit_good {v : V} (h : fitB v = true) : Good v :=
  (look_good v 0 _ (by simpa [fitB] using h)).1

end Go.Proofs.YtiphcojcdegnkaaGreatDoor

namespace Go.Proofs.YtiphcojcdegnkaaGreatDoor
open Go Go.RowKit Go.Deep

theorem rep_array {w : World} {B : Nat} {p : List V} {pa : Option Addr} {pc : Nat} {C : Nat → List Value} (hpl : p.length * 104 ≤ 140737488351232)
    (cp : 0 < p.length → ∃ b o, pa = some ⟨b, o, none⟩ ∧ b < B ∧ ∀ i, i < p.length → CellsAt w b (o + i * 6) (C i)) (rp : ∀ i (hi : i < p.length), RepV w B p[i] (C i)) (hpc : p.length ≤ pc) :
    RepV w B (.mk 5 0 ⟨#[]⟩ p [] []) [.int .i64 5, .int .i64 0, .string ⟨#[]⟩, .slice pa p.length pc, .slice none 0 0, .slice none 0 0] :=
  .mk (ks := []) (vs := []) C (fun _ => []) (by decide) (by decide) (Nat.zero_le _) hpl (by simp) (by simp) (fun s hs => by simp at hs) cp rp (fun h => by simp at h) (fun h => by simp at h) (fun i hi => by simp at hi) hpc

theorem good_of_fits {v : V} {p : List V} (h : [v, .mk 5 0 ⟨#[]⟩ p [] []].all fitB = true) : Good v ∧ ∀ x ∈ p, Good x := by
  simp only [List.all_cons, List.all_nil, Bool.and_true, Bool.and_eq_true] at h
  refine ⟨fit_good h.1, fun x hx => ?_⟩
  obtain ⟨_, _, _, list, _, _, _⟩ := (fit_good h.2).all
  obtain ⟨i, hi, rfl⟩ := List.mem_iff_getElem.1 hx
  exact list i hi

/-- Two values that stand side by side. -/
theorem pair_cells {w : World} {b : Nat} {c0 c1 c2 c3 c4 c5 d0 d1 d2 d3 d4 d5 : Value} {t : TypeId} (h : w.heap[b]? = some (.cells #[c0, c1, c2, c3, c4, c5, d0, d1, d2, d3, d4, d5] t)) :
    CellsAt w b 0 [c0, c1, c2, c3, c4, c5] ∧ CellsAt w b 6 [d0, d1, d2, d3, d4, d5] := by
  refine ⟨fun j hj => ?_, fun j hj => ?_⟩
  · simp only [List.length_cons, List.length_nil] at hj
    match j, hj with
    | 0, _ | 1, _ | 2, _ | 3, _ | 4, _ | 5, _ => simp [World.cell?, h]
  · simp only [List.length_cons, List.length_nil] at hj
    match j, hj with
    | 0, _ | 1, _ | 2, _ | 3, _ | 4, _ | 5, _ => simp [World.cell?, h]

/-- laws.fits of two values. -/
theorem fits2_any (w : World) (a b : V) (ca cb : List Value) (ha : RepV w w.heap.size a ca) (hb : RepV w w.heap.size b cb) (z : Nat) (hz : ∀ j, j < 2 → CellsAt w z (j * 6) (if j = 0 then ca else cb)) (hzl : z < w.heap.size) (hTB : TabsB w w.heap.size) (c : Nat) :
    Calls Tryz.prog 6 #[.slice (some ⟨z, 0, none⟩) 2 c] w (BoolP w ([a, b].all fitB)) :=
  fits_any w [a, b] (some ⟨z, 0, none⟩) c (fun i => if i = 0 then ca else cb) (by simp) (fun _ => ⟨z, 0, rfl, hzl, fun i hi => by have := hz i (by simpa using hi); rw [Nat.zero_add]; exact this⟩)
    (fun i hi => by
      match i, hi with
      | 0, _ => exact ha
      | 1, _ => exact hb) hTB

set_option maxHeartbeats 4000000 in
set_option maxRecDepth 100000 in
theorem fnGetPath_any (w : World) (v : V) (cv : List Value) (hv : RepV w w.heap.size v cv) (p : List V) (pa : Option Addr) (pc : Nat) (C : Nat → List Value) (hpl : p.length * 104 ≤ 140737488351232)
    (cp : 0 < p.length → ∃ b o, pa = some ⟨b, o, none⟩ ∧ b < w.heap.size ∧ ∀ i, i < p.length → CellsAt w b (o + i * 6) (C i)) (rp : ∀ i (hi : i < p.length), RepV w w.heap.size p[i] (C i)) (hpc : p.length ≤ pc) (hTB : TabsB w w.heap.size) :
    Calls Tryz.prog 3 #[.agg cv.toArray, .slice pa p.length pc] w (Yes w) := by
  have hp := rep_array hpl cp rp hpc
  have Za := Lib.hid fun (w' : World) (h : Below w.heap.size w w') => zz1_any w' v cv (hv.carry h h.size)
  have Fi := Lib.hid fun (w' : World) (h : Below w.heap.size w w') z hz hzl c => fits2_any w' v (.mk 5 0 ⟨#[]⟩ p [] []) cv _ (hv.carry h h.size) (hp.carry h h.size) z hz hzl (hTB.carry h h.size) c
  have Gs := Lib.hid fun h => good_of_fits (v := v) (p := p) h
  have Sp := Lib.hid fun (gv : Good v) (gp : ∀ x ∈ p, Good x) (w' : World) (h : Below w.heap.size w w') => getPath_any w w.heap.size v cv hv p pa pc C hpl cp rp gv gp w' h h.size
  have Om := Lib.hid fun (gv : Good v) (gp : ∀ x ∈ p, Good x) (hns : pathA v p ≠ .silent) (w' : World) (h : Below w.heap.size w w') => implGet_any hv hp gv gp hns w' h h.size
  have Pg := Lib.hid fun (gv : Good v) => fun x => pathA_good (p := p) (x := x) gv
  generalize [v, .mk 5 0 ⟨#[]⟩ p [] []].all fitB = fb at *
  generalize pathA v p = an at *
  obtain ⟨k, h, t, la, ka, va, nl, cl, nk, ck, nv, cv, rfl⟩ := hv.shape
  clear hv hp hTB cp rp
  generalize p.length = n at *
  go_enter Tryz.func3, Tryz.ntmps3
  go_wp2_with fail
  have hbW := below_alloc1 w (.cells #[.int .i64 k, .int .i64 h, .string t, .slice la nl cl, .slice ka nk ck, .slice va nv cv] 26)
  have hx0 := at_alloc w (.cells #[.int .i64 k, .int .i64 h, .string t, .slice la nl cl, .slice ka nk ck, .slice va nv cv] 26)
  have hsW := size_alloc1 w (.cells #[.int .i64 k, .int .i64 h, .string t, .slice la nl cl, .slice ka nk ck, .slice va nv cv] 26)
  refine (Za.out _ hbW).mono ?_
  generalize w.alloc _ = W at *
  rintro e w1 ⟨⟨za, rfl⟩, hw1⟩
  have hs1 : w.heap.size + 1 ≤ w1.heap.size := by have := hw1.size; omega
  have y0 := (hw1.block w.heap.size (by omega)).trans hx0
  have hb1 : Below w.heap.size w w1 := hbW.trans (hw1.mono (by omega))
  clear hw1 hbW hx0 hsW
  cases za with
  | false =>
    go_wp2_with fail
    go_ret
    exact ⟨rfl, hb1⟩
  | true =>
  by_cases hbig : (n : Int) > 2147483647
  · go_wp2_with fail
    go_ret
    exact ⟨rfl, hb1⟩
  go_upto_region 3 with fail
  have hold : ∀ w', Below w1.heap.size w1 w' → (fun w' : World => w'.cell? ⟨w.heap.size, 0, none⟩ = some (.int .i64 k) ∧ w'.cell? ⟨w.heap.size, 1, none⟩ = some (.int .i64 h) ∧ w'.cell? ⟨w.heap.size, 2, none⟩ = some (.string t) ∧ w'.cell? ⟨w.heap.size, 3, none⟩ = some (.slice la nl cl) ∧ w'.cell? ⟨w.heap.size, 4, none⟩ = some (.slice ka nk ck) ∧ w'.cell? ⟨w.heap.size, 5, none⟩ = some (.slice va nv cv) ∧ Below w1.heap.size w1 w') w' := by
    intro w' hw
    obtain ⟨a0, a1, a2, a3, a4, a5⟩ := of_block6 ((hw.block w.heap.size (by omega)).trans y0)
    exact ⟨a0, a1, a2, a3, a4, a5, hw⟩
  have Hold := Lib.hid hold
  obtain ⟨a0, a1, a2, a3, a4, a5, hw⟩ := hold _ (Below.refl w1.heap.size w1)
  have Ar : Hid (∀ w', Below w1.heap.size w1 w' → Calls Tryz.prog 7 #[.slice pa n pc] w' fun e w'' => e = .returned (.agg #[.int .i64 5, .int .i64 0, .string ⟨#[]⟩, .slice pa n pc, .slice none 0 0, .slice none 0 0]) ∧ Below w1.heap.size w1 w'') :=
    Lib.hid fun w' hw => (larray_any pa n pc w').mono fun e w'' h => ⟨h.1, hw.trans (h.2.mono hw.size)⟩
  have Hb1 := Lib.hid hb1
  have Y0 := Lib.hid fun (_ : True) => y0
  go_cut [20] (fun s20 wx => s20 = .bool (!fb) ∧ Below w1.heap.size w1 wx)
  case first =>
    have Fi2 : Hid (∀ w' (c : Nat), Below w1.heap.size w1 w' → Calls Tryz.prog 6 #[.slice (some ⟨w'.heap.size, 0, none⟩) 2 c] (w'.alloc (.cells #[.int .i64 k, .int .i64 h, .string t, .slice la nl cl, .slice ka nk ck, .slice va nv cv, .int .i64 5, .int .i64 0, .string ⟨#[]⟩, .slice pa n pc, .slice none 0 0, .slice none 0 0] 26))
        fun e w'' => e = .returned (.bool fb) ∧ Below w1.heap.size w1 w'') :=
      Lib.hid fun w' c hw => (Fi.out (w'.alloc (.cells #[.int .i64 k, .int .i64 h, .string t, .slice la nl cl, .slice ka nk ck, .slice va nv cv, .int .i64 5, .int .i64 0, .string ⟨#[]⟩, .slice pa n pc, .slice none 0 0, .slice none 0 0] 26)) (keep_alloc (Hb1.out.trans (hw.mono Hb1.out.size)) (by have := hw.size; have := Hb1.out.size; omega) _) w'.heap.size
        (fun j hj => by
          have hc := pair_cells (at_alloc w' (.cells #[.int .i64 k, .int .i64 h, .string t, .slice la nl cl, .slice ka nk ck, .slice va nv cv, .int .i64 5, .int .i64 0, .string ⟨#[]⟩, .slice pa n pc, .slice none 0 0, .slice none 0 0] 26))
          match j, hj with
          | 0, _ => exact hc.1
          | 1, _ => exact hc.2) (by rw [size_alloc1]; omega) c).mono fun e w'' h => ⟨h.1, (keep_alloc hw hw.size _).trans (h.2.mono (by rw [size_alloc1]; have := hw.size; omega))⟩
    clear hold Za Fi Gs Sp Om Pg y0 hb1
    go_region_held3 (fun w' : World => w'.cell? ⟨w.heap.size, 0, none⟩ = some (.int .i64 k) ∧ w'.cell? ⟨w.heap.size, 1, none⟩ = some (.int .i64 h) ∧ w'.cell? ⟨w.heap.size, 2, none⟩ = some (.string t) ∧ w'.cell? ⟨w.heap.size, 3, none⟩ = some (.slice la nl cl) ∧ w'.cell? ⟨w.heap.size, 4, none⟩ = some (.slice ka nk ck) ∧ w'.cell? ⟨w.heap.size, 5, none⟩ = some (.slice va nv cv) ∧ Below w1.heap.size w1 w')
      (first | exact Hold.out _ (by assumption) | exact Hold.out _ (Below.drew (by assumption)) | exact Hold.out _ (keep_alloc (by assumption) (Below.size (by assumption)) _))
      (first
        | (go_at_call 7; go_split_ands; refine (Ar.out _ (by assumption)).mono ?_; rintro e w6 ⟨rfl, hw6⟩)
        | (go_at_call 6; go_split_ands; refine (Fi2.out _ _ (by assumption)).mono ?_; rintro e w7 ⟨rfl, hw7⟩))
    all_goals
      go_split_ands
      go_wp2_with fail
      go_meet
      exact ⟨rfl, by assumption⟩
  case rest =>
  obtain ⟨rfl, hwc⟩ := hcut
  have hsc := hwc.size
  have hbc : Below w.heap.size w wc := Hb1.out.trans (hwc.mono (by omega))
  have yc := (hwc.block w.heap.size (by omega)).trans (Y0.out trivial)
  clear hold Hold hb1 hw hwc Y0 Hb1 Ar Fi Za hbig y0 a0 a1 a2 a3 a4 a5
  cases fb with
  | false =>
    go_wp2_with fail
    go_ret
    exact ⟨rfl, hbc⟩
  | true =>
  obtain ⟨gv, gp⟩ := Gs.out rfl
  have Sp2 := Lib.hid (Sp.out gv gp)
  have Om2 := Lib.hid (Om.out gv gp)
  have Pg2 := Lib.hid (Pg.out gv)
  clear Gs Sp Om Pg gv gp
  obtain ⟨a0, a1, a2, a3, a4, a5⟩ := of_block6 yc
  go_wp2_with fail
  refine (Sp2.out _ hbc).mono ?_
  rintro e w4 ⟨k1, h1, t1, la1, ka1, va1, nl1, cl1, nk1, ck1, nv1, cv1, rfl, hP, hw4⟩
  have hs4 : w.heap.size + 1 ≤ w4.heap.size := by have := hw4.size; omega
  have z0 := (hw4.block w.heap.size (by omega)).trans yc
  have hb4 : Below w.heap.size w w4 := hbc.trans (hw4.mono (by omega))
  have HP : Hid (∀ v, an = .fine v → RepV w w.heap.size v [.int .i64 k1, .int .i64 h1, .string t1, .slice la1 nl1 cl1, .slice ka1 nk1 ck1, .slice va1 nv1 cv1]) := Lib.hid hP
  clear hP hw4 yc hbc a0 a1 a2 a3 a4 a5 Sp2 hsc
  have hv5 := at_alloc w4 (.cells #[.int .i64 k1, .int .i64 h1, .string t1, .slice la1 nl1 cl1, .slice ka1 nk1 ck1, .slice va1 nv1 cv1] 26)
  have hw5 := below_alloc1 w4 (.cells #[.int .i64 k1, .int .i64 h1, .string t1, .slice la1 nl1 cl1, .slice ka1 nk1 ck1, .slice va1 nv1 cv1] 26)
  have hs5 := size_alloc1 w4 (.cells #[.int .i64 k1, .int .i64 h1, .string t1, .slice la1 nl1 cl1, .slice ka1 nk1 ck1, .slice va1 nv1 cv1] 26)
  by_cases hsil : an.how = 2
  · rw [hsil]
    clear hv5 hs5 z0
    go_wp2_with fail
    go_ret
    exact ⟨rfl, below_next hb4 hw5⟩
  have hns : an ≠ .silent := fun e => hsil (by rw [e]; rfl)
  have t2 : (an.how == 2) = false := by simpa using hsil
  have Om3 := Lib.hid (Om2.out hns)
  clear Om2 hsil hns
  have HS := Lib.hid fun (w : World) (hR1 : ∀ v, an = .fine v → RepV w w.heap.size v [.int .i64 k1, .int .i64 h1, .string t1, .slice la1 nl1 cl1, .slice ka1 nk1 ck1, .slice va1 nv1 cv1]) (k h n : Int) (t : ByteArray) (la ka va : Option Addr) (nl cl nk ck nv cv : Nat) (hR : Got w an k h t la ka va nl cl nk ck nv cv n) => told_ans Pg2.out hR hR1
  generalize an.how = m at *
  go_upto_region 8 with fail
  generalize w4.alloc _ = W5 at *
  have v0 := (hw5.block w.heap.size (by omega)).trans z0
  have hb5 : Below w.heap.size w W5 := hb4.trans (hw5.mono (by omega))
  have hold : ∀ w', Below W5.heap.size W5 w' → (fun w' : World => w'.cell? ⟨w.heap.size, 0, none⟩ = some (.int .i64 k) ∧ w'.cell? ⟨w.heap.size, 1, none⟩ = some (.int .i64 h) ∧ w'.cell? ⟨w.heap.size, 2, none⟩ = some (.string t) ∧ w'.cell? ⟨w.heap.size, 3, none⟩ = some (.slice la nl cl) ∧ w'.cell? ⟨w.heap.size, 4, none⟩ = some (.slice ka nk ck) ∧ w'.cell? ⟨w.heap.size, 5, none⟩ = some (.slice va nv cv) ∧ w'.cell? ⟨w4.heap.size, 0, none⟩ = some (.int .i64 k1) ∧ w'.cell? ⟨w4.heap.size, 1, none⟩ = some (.int .i64 h1) ∧ w'.cell? ⟨w4.heap.size, 2, none⟩ = some (.string t1) ∧ w'.cell? ⟨w4.heap.size, 3, none⟩ = some (.slice la1 nl1 cl1) ∧ w'.cell? ⟨w4.heap.size, 4, none⟩ = some (.slice ka1 nk1 ck1) ∧ w'.cell? ⟨w4.heap.size, 5, none⟩ = some (.slice va1 nv1 cv1) ∧ Below W5.heap.size W5 w') w' := by
    intro w' hw
    obtain ⟨a0, a1, a2, a3, a4, a5⟩ := of_block6 ((hw.block w.heap.size (by omega)).trans v0)
    obtain ⟨c0, c1, c2, c3, c4, c5⟩ := of_block6 ((hw.block w4.heap.size (by omega)).trans hv5)
    exact ⟨a0, a1, a2, a3, a4, a5, c0, c1, c2, c3, c4, c5, hw⟩
  have Hold := Lib.hid hold
  obtain ⟨a0, a1, a2, a3, a4, a5, c0, c1, c2, c3, c4, c5, hw⟩ := hold _ (Below.refl W5.heap.size W5)
  have Ar5 : Hid (∀ w', Below W5.heap.size W5 w' → Calls Tryz.prog 7 #[.slice pa n pc] w' fun e w'' => e = .returned (.agg #[.int .i64 5, .int .i64 0, .string ⟨#[]⟩, .slice pa n pc, .slice none 0 0, .slice none 0 0]) ∧ Below W5.heap.size W5 w'') :=
    Lib.hid fun w' hw => (larray_any pa n pc w').mono fun e w'' h => ⟨h.1, hw.trans (h.2.mono hw.size)⟩
  have Om5 : Hid (∀ w', Below W5.heap.size W5 w' → Calls Tryz.prog 10 #[.agg #[.int .i64 k, .int .i64 h, .string t, .slice la nl cl, .slice ka nk ck, .slice va nv cv], .agg #[.int .i64 5, .int .i64 0, .string ⟨#[]⟩, .slice pa n pc, .slice none 0 0, .slice none 0 0]] w' (GotFrom W5 an)) :=
    Lib.hid fun w' hw => (Om3.out w' (hb5.trans (hw.mono hb5.size))).mono fun e w'' h => h.from hw
  have To5 : Hid (∀ (k h n : Int) (t : ByteArray) (la ka va : Option Addr) (nl cl nk ck nv cv : Nat) (w' : World), Got w' an k h t la ka va nl cl nk ck nv cv n → Below W5.heap.size W5 w' →
      Calls Tryz.prog 9 #[.agg #[.int .i64 k, .int .i64 h, .string t, .slice la nl cl, .slice ka nk ck, .slice va nv cv, .int .i64 n], .agg #[.int .i64 k1, .int .i64 h1, .string t1, .slice la1 nl1 cl1, .slice ka1 nk1 ck1, .slice va1 nv1 cv1], .int .i64 m] w' fun e w'' => e = .returned (.bool true) ∧ Below W5.heap.size W5 w'') :=
    Lib.hid fun k h n t la ka va nl cl nk ck nv cv w' hR hw => (HS.out w' (fun v hv => (HP.out v hv).carry (hb5.trans (hw.mono hb5.size)) (by have := hb5.size; have := hw.size; omega)) k h n t la ka va nl cl nk ck nv cv hR).mono fun e w'' h => ⟨h.1, hw.trans (h.2.mono hw.size)⟩
  have HB5 := Lib.hid hb5
  have h5 := Below.refl W5.heap.size W5
  clear HS hold hw v0 hb5 hv5 hw5 hs5 HP Om3 z0 hb4 hs4 Pg2
  go_region_held3 (fun w' : World => w'.cell? ⟨w.heap.size, 0, none⟩ = some (.int .i64 k) ∧ w'.cell? ⟨w.heap.size, 1, none⟩ = some (.int .i64 h) ∧ w'.cell? ⟨w.heap.size, 2, none⟩ = some (.string t) ∧ w'.cell? ⟨w.heap.size, 3, none⟩ = some (.slice la nl cl) ∧ w'.cell? ⟨w.heap.size, 4, none⟩ = some (.slice ka nk ck) ∧ w'.cell? ⟨w.heap.size, 5, none⟩ = some (.slice va nv cv) ∧ w'.cell? ⟨w4.heap.size, 0, none⟩ = some (.int .i64 k1) ∧ w'.cell? ⟨w4.heap.size, 1, none⟩ = some (.int .i64 h1) ∧ w'.cell? ⟨w4.heap.size, 2, none⟩ = some (.string t1) ∧ w'.cell? ⟨w4.heap.size, 3, none⟩ = some (.slice la1 nl1 cl1) ∧ w'.cell? ⟨w4.heap.size, 4, none⟩ = some (.slice ka1 nk1 ck1) ∧ w'.cell? ⟨w4.heap.size, 5, none⟩ = some (.slice va1 nv1 cv1) ∧ Below W5.heap.size W5 w')
    (first | exact Hold.out _ (by assumption) | exact Hold.out _ (Below.drew (by assumption)))
    (first
      | (go_at_call 7; go_split_ands; refine (Ar5.out _ (by assumption)).mono ?_; rintro e w6 ⟨rfl, hw6⟩)
      | (go_at_call 10; go_split_ands; refine (Om5.out _ (by assumption)).mono ?_; rintro e w6 ⟨k2, h2, t2, la2, ka2, va2, nl2, cl2, nk2, ck2, nv2, cv2, n2, rfl, hR, hw6⟩)
      | (go_at_call 9; go_split_ands; refine (To5.out _ _ _ _ _ _ _ _ _ _ _ _ _ _ (by assumption) (by assumption)).mono ?_; rintro e w7 ⟨rfl, hw7⟩))
  all_goals
    go_wp2_with fail
    go_split_ands
    go_ret
    exact ⟨rfl, HB5.out.trans (Below.mono (by assumption) HB5.out.size)⟩

end Go.Proofs.YtiphcojcdegnkaaGreatDoor

namespace Go.Proofs.YtiphcojcdegnkaaGreatDoor
open Go Go.RowKit

theorem spot_none {w : World} {a : Addr} {v : Value} (h : w.cell? a = some v) : a.spot = none ∧ a.block < w.heap.size := by
  unfold World.cell? at h
  split at h
  · rename_i hb
    split at h
    · cases h
    · rename_i hs
      refine ⟨by simpa using hs, ?_⟩
      exact (Array.getElem?_eq_some_iff.1 hb).1
  · cases h

theorem add_none (b o i : Nat) : (⟨b, o, none⟩ : Addr).add i = ⟨b, o + i, none⟩ := by
  unfold Addr.add
  split
  · subst_vars; rfl
  · rfl

theorem weights_mem_all {H : Type} {P : Program} {e : TypeId} : ∀ {l : List (DataW H)} {i : Nat} {d : DataW H}, l[i]? = some d → ∀ n ∈ d.weights P e, n ∈ DataW.weightsAll P e l
  | [], _, _, h, _, _ => by simp at h
  | d0 :: r, 0, d, h, n, hn => by
    simp only [List.getElem?_cons_zero, Option.some.injEq] at h
    subst h
    simp only [DataW.weightsAll, List.mem_append]
    exact .inl hn
  | d0 :: r, i + 1, d, h, n, hn => by
    simp only [List.getElem?_cons_succ] at h
    simp only [DataW.weightsAll, List.mem_append]
    exact .inr (weights_mem_all h n hn)

theorem cells_value : Tryz.prog.cellsOf 26 = 6 := by kernel_rfl
theorem cells_string : Tryz.prog.cellsOf 9 = 1 := by kernel_rfl
theorem bytes_value : Tryz.prog.bytesOf 26 = 104 := by kernel_rfl
theorem bytes_string : Tryz.prog.bytesOf 9 = 16 := by kernel_rfl
theorem cells_kind : Tryz.prog.cellsOf 22 = 1 := by kernel_rfl
theorem cells_int : Tryz.prog.cellsOf 3 = 1 := by kernel_rfl
theorem cells_values : Tryz.prog.cellsOf 23 = 1 := by kernel_rfl
theorem cells_strings : Tryz.prog.cellsOf 24 = 1 := by kernel_rfl

section
variable {H : Type} {enc : TypeId × Value → H} {W : World} {sp : Nat → Bool}

theorem rows_of {n len : Nat} {a : Addr} {elems : List (DataW H × List MemPlace)} (hlen : elems.length = len)
    (hel : ∀ i, i < len → (W.cells? 0 (a.add (i * 6)) 6).bind (DataW.trod enc Tryz.prog W 0 sp true n 26) = elems[i]?)
    (ih : ∀ (i : Nat) (e : DataW H × List MemPlace), elems[i]? = some e → ∀ cs, DataW.trod enc Tryz.prog W 0 sp true n 26 cs = some e → ∃ v, RepV W W.heap.size v cs) :
    ∃ (l : List V) (C : Nat → List Value), l.length = len ∧ (0 < len → ∃ b o, a = ⟨b, o, none⟩ ∧ b < W.heap.size ∧ ∀ i, i < len → CellsAt W b (o + i * 6) (C i)) ∧
      ∀ i (hi : i < l.length), RepV W W.heap.size l[i] (C i) := by
  have each : ∀ i : Fin len, ∃ p : V × List Value, W.cells? 0 (a.add (i.1 * 6)) 6 = some p.2 ∧ RepV W W.heap.size p.1 p.2 := by
    intro i
    have h1 := hel i.1 i.2
    have h2 : elems[i.1]? = some (elems[i.1]'(by rw [hlen]; exact i.2)) := List.getElem?_eq_getElem _
    rw [h2, Option.bind_eq_some_iff] at h1
    obtain ⟨cs, hc, ht⟩ := h1
    obtain ⟨v, hv⟩ := ih i.1 _ h2 cs ht
    exact ⟨(v, cs), hc, hv⟩
  obtain ⟨F, hF⟩ := Classical.axiomOfChoice each
  refine ⟨List.ofFn fun i => (F i).1, fun i => if h : i < len then (F ⟨i, h⟩).2 else [], by simp, fun h0 => ?_, fun i hi => ?_⟩
  · obtain ⟨_, h6, hc⟩ := World.cells?_some (hF ⟨0, h0⟩).1
    have c0 := hc 0 (by omega)
    rw [List.getElem?_eq_getElem (by omega)] at c0
    simp [Addr.add] at c0
    obtain ⟨s0, hb⟩ := spot_none c0
    refine ⟨a.block, a.off, ?_, hb, fun i hi => ?_⟩
    · obtain ⟨b, o, s⟩ := a
      simp only at s0
      rw [s0]
    · have ea : a = ⟨a.block, a.off, none⟩ := by
        obtain ⟨b, o, s⟩ := a
        simp only at s0
        rw [s0]
      obtain ⟨_, h6, hc⟩ := World.cells?_some (hF ⟨i, hi⟩).1
      intro j hj
      simp only [dif_pos hi] at hj ⊢
      have := hc j (by omega)
      rw [ea, add_none, add_none, List.getElem?_eq_getElem (by omega)] at this
      exact this
  · have hi' : i < len := by simpa using hi
    simp only [List.getElem_ofFn, dif_pos hi']
    exact (hF ⟨i, hi'⟩).2

theorem keys_of {n len : Nat} {a : Addr} {elems : List (DataW H × List MemPlace)} (hlen : elems.length = len)
    (hel : ∀ i, i < len → (W.cells? 0 (a.add (i * 1)) 1).bind (DataW.trod enc Tryz.prog W 0 sp true n 9) = elems[i]?)
    (hw : ∀ (i : Nat) (e : DataW H × List MemPlace), elems[i]? = some e → ∀ m ∈ e.1.weights Tryz.prog 9, m ≤ reachBytes) :
    ∃ (l : List ByteArray), l.length = len ∧ (0 < len → ∃ b o, a = ⟨b, o, none⟩ ∧ b < W.heap.size ∧ ∀ i (hi : i < l.length), W.cell? ⟨b, o + i, none⟩ = some (.string l[i])) ∧
      ∀ s ∈ l, s.size ≤ 140737488351232 := by
  have each : ∀ i : Fin len, ∃ s : ByteArray, W.cells? 0 (a.add (i.1 * 1)) 1 = some [.string s] ∧ s.size ≤ 140737488351232 := by
    intro i
    have h1 := hel i.1 i.2
    have h2 : elems[i.1]? = some (elems[i.1]'(by rw [hlen]; exact i.2)) := List.getElem?_eq_getElem _
    rw [h2, Option.bind_eq_some_iff] at h1
    obtain ⟨cs, hc, ht⟩ := h1
    obtain ⟨s, rfl, e, _⟩ := DataW.trod_string Tryz.underlying9 ht
    refine ⟨s, hc, ?_⟩
    have := hw i.1 _ h2 s.size (by rw [e]; simp [DataW.weights])
    exact this
  obtain ⟨F, hF⟩ := Classical.axiomOfChoice each
  refine ⟨List.ofFn fun i => F i, by simp, fun h0 => ?_, fun s hs => ?_⟩
  · have c0 := (World.cells?_some (hF ⟨0, h0⟩).1).2.2 0 (by omega)
    have c0 : W.cell? a = some (.string (F ⟨0, h0⟩)) := by simpa [Addr.add] using c0
    obtain ⟨s0, hb⟩ := spot_none c0
    have ea : a = ⟨a.block, a.off, none⟩ := by
      obtain ⟨b, o, s⟩ := a
      simp only at s0
      rw [s0]
    refine ⟨a.block, a.off, ea, hb, fun i hi => ?_⟩
    have hi' : i < len := by simpa using hi
    have := (World.cells?_some (hF ⟨i, hi'⟩).1).2.2 0 (by omega)
    rw [ea, add_none, add_none, Nat.mul_one, Nat.add_zero] at this
    simpa using this
  · obtain ⟨i, rfl⟩ := List.mem_ofFn.1 hs
    exact (hF i).2

set_option maxRecDepth 10000 in
theorem rep_of_trod : ∀ (fuel : Nat) (cs : List Value) (x : DataW H × List MemPlace), DataW.trod enc Tryz.prog W 0 sp true fuel 26 cs = some x →
    (∀ m ∈ x.1.weights Tryz.prog 26, m ≤ reachBytes) → ∃ v, RepV W W.heap.size v cs := by
  intro fuel
  induction fuel using Nat.strongRecOn with
  | _ fuel ih =>
  intro cs x htr hw
  obtain ⟨xs, n, rfl, hx, h6, hlen, hf⟩ := DataW.trod_struct Tryz.underlying26 htr
  rw [cells_value] at h6
  match cs, h6 with
  | [c0, c1, c2, c3, c4, c5], _ =>
  match xs, hlen with
  | [x0, x1, x2, x3, x4, x5], _ =>
  have f0 : DataW.trod enc Tryz.prog W 0 sp true n 22 (([c0, c1, c2, c3, c4, c5].drop 0).take (Tryz.prog.cellsOf 22)) = some x0 := hf 0 _ rfl
  rw [cells_kind] at f0
  have f1 : DataW.trod enc Tryz.prog W 0 sp true n 3 (([c0, c1, c2, c3, c4, c5].drop 1).take (Tryz.prog.cellsOf 3)) = some x1 := hf 1 _ rfl
  rw [cells_int] at f1
  have f2 : DataW.trod enc Tryz.prog W 0 sp true n 9 (([c0, c1, c2, c3, c4, c5].drop 2).take (Tryz.prog.cellsOf 9)) = some x2 := hf 2 _ rfl
  rw [cells_string] at f2
  have f3 : DataW.trod enc Tryz.prog W 0 sp true n 23 (([c0, c1, c2, c3, c4, c5].drop 3).take (Tryz.prog.cellsOf 23)) = some x3 := hf 3 _ rfl
  rw [cells_values] at f3
  have f4 : DataW.trod enc Tryz.prog W 0 sp true n 24 (([c0, c1, c2, c3, c4, c5].drop 4).take (Tryz.prog.cellsOf 24)) = some x4 := hf 4 _ rfl
  rw [cells_strings] at f4
  have f5 : DataW.trod enc Tryz.prog W 0 sp true n 23 (([c0, c1, c2, c3, c4, c5].drop 5).take (Tryz.prog.cellsOf 23)) = some x5 := hf 5 _ rfl
  rw [cells_values] at f5
  have wt : ∀ (j : Nat) (t : TypeId) (d : DataW H), [22, 3, 9, 23, 24, 23][j]? = some t → [x0.1, x1.1, x2.1, x3.1, x4.1, x5.1][j]? = some d →
      ∀ m ∈ d.weights Tryz.prog t, m ≤ reachBytes := by
    intro j t d ht hd m hm
    refine hw m ?_
    rw [hx]
    simp only [DataW.weights, Tryz.underlying26]
    exact DataW.weights_mem_each ht hd m hm
  obtain ⟨k, e0, _, k1⟩ := DataW.trod_int Tryz.underlying22 f0
  obtain ⟨h, e1, _, h1⟩ := DataW.trod_int Tryz.underlying3 f1
  obtain ⟨t, e2, q2, _⟩ := DataW.trod_string Tryz.underlying9 f2
  cases e0; cases e1; cases e2
  have ht : t.size ≤ 140737488351232 := wt 2 _ _ rfl rfl t.size (by rw [q2]; simp [DataW.weights])
  have hk : -9223372036854775808 ≤ k ∧ k ≤ 9223372036854775807 := by simpa [Lit.wf, IntKind.min, IntKind.max, IntKind.signed, IntKind.bits] using k1
  have hh : -9223372036854775808 ≤ h ∧ h ≤ 9223372036854775807 := by simpa [Lit.wf, IntKind.min, IntKind.max, IntKind.signed, IntKind.bits] using h1
  have list : ∀ (c : Value) (y : DataW H × List MemPlace), DataW.trod enc Tryz.prog W 0 sp true n 23 [c] = some y → (∀ m ∈ y.1.weights Tryz.prog 23, m ≤ reachBytes) →
      ∃ (l : List V) (la : Option Addr) (lc : Nat) (C : Nat → List Value), c = .slice la l.length lc ∧ l.length * 104 ≤ 140737488351232 ∧
        (0 < l.length → ∃ b o, la = some ⟨b, o, none⟩ ∧ b < W.heap.size ∧ ∀ i, i < l.length → CellsAt W b (o + i * 6) (C i)) ∧ (∀ i (hi : i < l.length), RepV W W.heap.size l[i] (C i)) ∧ l.length ≤ lc := by
    intro c y hy hwy
    rcases DataW.trod_slice Tryz.underlying23 hy with ⟨e, _⟩ | ⟨a, len, cap, elems, rest, m, rfl, e, q, _, hlc, _, hl, hel, _⟩
    · cases e
      exact ⟨[], _, _, fun _ => [], rfl, by simp, fun h0 => absurd h0 (by simp), fun i hi => absurd hi (by simp), Nat.le_refl 0⟩
    · cases e
      rw [cells_value] at hel
      have hww : ∀ (i : Nat) (e : DataW H × List MemPlace), elems[i]? = some e → ∀ m ∈ e.1.weights Tryz.prog 26, m ≤ reachBytes := by
        intro i e he m hm
        refine hwy m ?_
        rw [q]
        simp only [DataW.weights, Tryz.underlying23, List.mem_cons, List.mem_append]
        exact .inr (.inl (weights_mem_all (i := i) (by rw [List.getElem?_map, he]; rfl) m hm))
      obtain ⟨l, C, rfl, hc, hr⟩ := rows_of hl hel (fun i e he cs hcs => ih m (by omega) cs e hcs (hww i e he))
      refine ⟨l, _, _, C, rfl, ?_, fun h0 => ?_, hr, by omega⟩
      · have := hwy ((elems.length + rest.length) * 104) (by rw [q]; simp [DataW.weights, Tryz.underlying23, bytes_value])
        have e : reachBytes = 140737488351232 := rfl
        rw [hl] at this
        omega
      · obtain ⟨b, o, rfl, hb, hcs⟩ := hc h0
        exact ⟨b, o, rfl, hb, hcs⟩
  obtain ⟨l, la, lc, C, rfl, hl, cl, rl, hlc⟩ := list c3 x3 f3 (wt 3 _ _ rfl rfl)
  obtain ⟨vs, va, vc, D, rfl, hvs, cv, rv, _⟩ := list c5 x5 f5 (wt 5 _ _ rfl rfl)
  have keys : ∃ (ks : List ByteArray) (ka : Option Addr) (kc : Nat), c4 = .slice ka ks.length kc ∧ ks.length * 16 ≤ 140737488351232 ∧ (∀ s ∈ ks, s.size ≤ 140737488351232) ∧
      (0 < ks.length → ∃ b o, ka = some ⟨b, o, none⟩ ∧ b < W.heap.size ∧ ∀ i (hi : i < ks.length), W.cell? ⟨b, o + i, none⟩ = some (.string ks[i])) := by
    have hwy := wt 4 _ _ rfl rfl
    rcases DataW.trod_slice Tryz.underlying24 f4 with ⟨e, _⟩ | ⟨a, len, cap, elems, rest, m, rfl, e, q, _, _, _, hl, hel, _⟩
    · cases e
      exact ⟨[], _, _, rfl, by simp, fun s hs => absurd hs (by simp), fun h0 => absurd h0 (by simp)⟩
    · cases e
      rw [cells_string] at hel
      have hww : ∀ (i : Nat) (e : DataW H × List MemPlace), elems[i]? = some e → ∀ m ∈ e.1.weights Tryz.prog 9, m ≤ reachBytes := by
        intro i e he m hm
        refine hwy m ?_
        rw [q]
        simp only [DataW.weights, Tryz.underlying24, List.mem_cons, List.mem_append]
        exact .inr (.inl (weights_mem_all (i := i) (by rw [List.getElem?_map, he]; rfl) m hm))
      obtain ⟨ks, rfl, hc, hs⟩ := keys_of hl hel hww
      refine ⟨ks, _, _, rfl, ?_, hs, fun h0 => ?_⟩
      · have := hwy ((elems.length + rest.length) * 16) (by rw [q]; simp [DataW.weights, Tryz.underlying24, bytes_string])
        have e : reachBytes = 140737488351232 := rfl
        rw [hl] at this
        omega
      · obtain ⟨b, o, rfl, hb, hcs⟩ := hc h0
        exact ⟨b, o, rfl, hb, hcs⟩
  obtain ⟨ks, ka, kc, rfl, hks, hs, ck⟩ := keys
  exact ⟨_, .mk C D hk hh ht hl hks hvs hs cl rl ck cv rv hlc⟩
end

end Go.Proofs.YtiphcojcdegnkaaGreatDoor
