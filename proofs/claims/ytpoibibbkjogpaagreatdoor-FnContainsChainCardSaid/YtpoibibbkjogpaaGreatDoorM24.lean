/- laws.FnContainsChain. -/
/- What reads as a datum of type []impl.Value is a row of values. -/
import Derived.Test.YtpoibibbkjogpaaGreatDoorM23
import Derived.Test.YtpoibibbkjogpaaGreatDoorM01
import Derived.Test.YtpoibibbkjogpaaGreatDoorM21
namespace Go.Proofs.YtpoibibbkjogpaaGreatDoor
open Go Go.RowKit Go.Deep

set_option maxHeartbeats 4000000 in
set_option maxRecDepth 100000 in
theorem fnContainsChain_any (w : World) (v : V) (cv : List Value) (hv : RepV w w.heap.size v cv) (ns : List Nat) (nsv : Value) (hns : ShortsAt w w.heap.size ns nsv) (ms : List Nat) (msv : Value) (hms : ShortsAt w w.heap.size ms msv) (hTB : TabsB w w.heap.size) :
    Calls Tryz.prog 3 #[.agg cv.toArray, nsv, msv] w (Yes w) := by
  have Za := Lib.hid fun (w' : World) (h : Below w.heap.size w w') => zz1_any w' v cv (hv.carry h h.size)
  have Fi := Lib.hid fun (w' : World) (h : Below w.heap.size w w') z hz hzl c => fits1_any w' v cv (hv.carry h h.size) z hz hzl (hTB.carry h h.size) c
  have Gs : Hid (fitB v = true → Good v) := Lib.hid fun h => fit_good h
  have Zs : Hid (fitB v = true → sizeV v ≤ 400) := Lib.hid fun h => fit_size h
  have Hv := Lib.hid fun (w' : World) (h : Below w.heap.size w w') => hv.carry h h.size
  have Hns := Lib.hid fun (w' : World) (h : Below w.heap.size w w') => (hns.below h).mono h.size
  have Hms := Lib.hid fun (w' : World) (h : Below w.heap.size w w') => (hms.below h).mono h.size
  have Fr := Lib.hid fun (w' : World) (h : Below w.heap.size w w') (b : V) (hb : Rest v b) (hfv : fitB v = true) (cb : List Value) (hr : RepV w' w'.heap.size b cb) z hz hzl c => by
    have := fits1_any w' b cb hr z hz hzl (hTB.carry h h.size) c
    rw [rest_fit hb (rep_tame hv) hfv] at this
    exact this
  have Tm := Lib.hid (rep_tame hv)
  obtain ⟨_, na, nc, rfl, _⟩ := hns
  obtain ⟨_, ma, mc, rfl, _⟩ := hms
  generalize hfb : fitB v = fb at *
  obtain ⟨k, h, t, la, ka, va, nl, cl, nk, ck, nv, cv, rfl⟩ := hv.shape
  clear hv hTB
  go_enter Tryz.func3, Tryz.ntmps3
  go_wp2_with fail
  have hbW := below_alloc1 w (.cells #[.int .i64 k, .int .i64 h, .string t, .slice la nl cl, .slice ka nk ck, .slice va nv cv] 26)
  have hx0 := at_alloc w (.cells #[.int .i64 k, .int .i64 h, .string t, .slice la nl cl, .slice ka nk ck, .slice va nv cv] 26)
  have hsW := size_alloc1 w (.cells #[.int .i64 k, .int .i64 h, .string t, .slice la nl cl, .slice ka nk ck, .slice va nv cv] 26)
  refine (Za.out _ hbW).mono ?_
  generalize w.alloc _ = W at *
  rintro e w1 ⟨⟨za, rfl⟩, hw1⟩
  have hs1 : w.heap.size + 1 ≤ w1.heap.size := by have := hw1.size; omega
  have y0 := (hw1.block w.heap.size (by omega)).trans hx0
  have hb1 : Below w.heap.size w w1 := hbW.trans (hw1.mono (by omega))
  clear hw1 hbW hx0 hsW
  cases za with
  | false =>
    go_wp2_with fail
    go_ret
    exact ⟨rfl, hb1⟩
  | true =>
  by_cases hbig : (ns.length : Int) > 2147483647
  · go_wp2_with fail
    go_ret
    exact ⟨rfl, hb1⟩
  by_cases hbig2 : (ms.length : Int) > 2147483647
  · go_wp2_with fail
    go_ret
    exact ⟨rfl, hb1⟩
  obtain ⟨a0, a1, a2, a3, a4, a5⟩ := of_block6 y0
  go_wp2_with fail
  have hbX := below_alloc1 w1 (.cells #[.int .i64 k, .int .i64 h, .string t, .slice la nl cl, .slice ka nk ck, .slice va nv cv] 26)
  have hsX := size_alloc1 w1 (.cells #[.int .i64 k, .int .i64 h, .string t, .slice la nl cl, .slice ka nk ck, .slice va nv cv] 26)
  have hxX := at_alloc w1 (.cells #[.int .i64 k, .int .i64 h, .string t, .slice la nl cl, .slice ka nk ck, .slice va nv cv] 26)
  have hcX := one_cells hxX
  refine (Fi.out _ (hb1.trans (hbX.mono (by omega))) _ hcX (by omega) _).mono ?_
  rintro e w2 ⟨rfl, hw2⟩
  have hb2 : Below w1.heap.size w1 w2 := hbX.trans (hw2.mono (by omega))
  have hs2 := hb2.size
  have hbw2 : Below w.heap.size w w2 := hb1.trans (hb2.mono (by omega))
  have y2 := (hb2.block w.heap.size (by omega)).trans y0
  clear hbX hsX hxX hcX hw2 y0 a0 a1 a2 a3 a4 a5 Fi Za hbig hbig2
  cases fb with
  | false =>
    go_wp2_with fail
    go_ret
    exact ⟨rfl, hbw2⟩
  | true =>
  have Ffb := Lib.hid hfb
  clear hfb
  have gv := Gs.out rfl
  have hz := Zs.out rfl
  clear Gs Zs
  go_upto_region 5 with fail
  have hold : ∀ w', Below w2.heap.size w2 w' → (fun w' : World => w'.cell? ⟨w.heap.size, 0, none⟩ = some (.int .i64 k) ∧ w'.cell? ⟨w.heap.size, 1, none⟩ = some (.int .i64 h) ∧ w'.cell? ⟨w.heap.size, 2, none⟩ = some (.string t) ∧ w'.cell? ⟨w.heap.size, 3, none⟩ = some (.slice la nl cl) ∧ w'.cell? ⟨w.heap.size, 4, none⟩ = some (.slice ka nk ck) ∧ w'.cell? ⟨w.heap.size, 5, none⟩ = some (.slice va nv cv) ∧ Below w2.heap.size w2 w') w' := by
    intro w' hw
    obtain ⟨a0, a1, a2, a3, a4, a5⟩ := of_block6 ((hw.block w.heap.size (by omega)).trans y2)
    exact ⟨a0, a1, a2, a3, a4, a5, hw⟩
  have Hold := Lib.hid hold
  obtain ⟨a0, a1, a2, a3, a4, a5, hw⟩ := hold _ (Below.refl w2.heap.size w2)
  have Y2 := Lib.hid fun (_ : True) => y2
  have Hb2 := Lib.hid hbw2
  have Gv := Lib.hid gv
  have Sz := Lib.hid hz
  clear hold y2 hbw2 gv hz hb2 hb1
  go_cut [7] (fun s7 wx => RestAt w2 v s7 wx)
  case first =>
    have So : Hid (∀ w', Below w2.heap.size w2 w' → Calls Tryz.prog 10 #[.agg #[.int .i64 k, .int .i64 h, .string t, .slice la nl cl, .slice ka nk ck, .slice va nv cv], .slice na ns.length nc] w'
        fun e w'' => ∃ (ss : List (List Stp)) (oa : Option Addr) (oc : Nat), e = .returned (.slice oa ss.length oc) ∧ PathsP w'' v ss oa oc ∧ Below w2.heap.size w2 w'' ∧ Below w'.heap.size w' w'') :=
      Lib.hid fun w' hw => (some_any w' v _ (Hv.out w' (Hb2.out.trans (hw.mono Hb2.out.size))) Gv.out Sz.out (Hns.out w' (Hb2.out.trans (hw.mono Hb2.out.size)))).mono fun e w'' ⟨ss, oa, oc, he, hb, hl, hg, hr⟩ => ⟨ss, oa, oc, he, ⟨hl, hg, hr⟩, hw.trans (hb.mono hw.size), hb⟩
    have Ar : Hid (∀ pa n pc w', Below w2.heap.size w2 w' → Calls Tryz.prog 9 #[.slice pa n pc] w' fun e w'' => e = .returned (.agg #[.int .i64 5, .int .i64 0, .string ⟨#[]⟩, .slice pa n pc, .slice none 0 0, .slice none 0 0]) ∧ Below w2.heap.size w2 w'' ∧ Below w'.heap.size w' w'') :=
      Lib.hid fun pa n pc w' hw => (larray_any pa n pc w').mono fun e w'' h => ⟨h.1, hw.trans (h.2.mono hw.size), h.2⟩
    have De : Hid (∀ ss oa oc w', PathsP w' v ss oa oc → Below w2.heap.size w2 w' → Calls Tryz.prog 8 #[.agg #[.int .i64 k, .int .i64 h, .string t, .slice la nl cl, .slice ka nk ck, .slice va nv cv], .agg #[.int .i64 5, .int .i64 0, .string ⟨#[]⟩, .slice oa ss.length oc, .slice none 0 0, .slice none 0 0]] w'
        fun e w'' => ∃ (k h : Int) (t : ByteArray) (la ka va : Option Addr) (nl cl nk ck nv cv : Nat) (n : Int), e = .returned (.agg #[.int .i64 k, .int .i64 h, .string t, .slice la nl cl, .slice ka nk ck, .slice va nv cv, .int .i64 n]) ∧ RestR w' v k h t la ka va nl cl nk ck nv cv n w'' ∧ Below w2.heap.size w2 w'' ∧ Below w'.heap.size w' w'') :=
      Lib.hid fun ss oa oc w' hp hw => (del_rest (Hv.out w' (Hb2.out.trans (hw.mono Hb2.out.size))) Gv.out hp).mono fun e w'' ⟨k, h, t, la, ka, va, nl, cl, nk, ck, nv, cv, n, he, hR, hb⟩ => ⟨k, h, t, la, ka, va, nl, cl, nk, ck, nv, cv, n, he, hR, hw.trans (hb.mono hw.size), hb⟩
    have hwd : Below w2.heap.size w2 w2.drew := Below.drew (Below.refl _ _)
    have hwda : Below w2.heap.size w2 (w2.alloc (.cells #[.int .i64 0, .int .i64 0, .string ⟨#[]⟩, .slice none 0 0, .slice none 0 0, .slice none 0 0, .int .i64 0] 31)).drew := Below.drew (below_alloc1 _ _)
    clear Hv Hns Gv Sz Y2 Hb2
    go_region_held3 (fun w' : World => w'.cell? ⟨w.heap.size, 0, none⟩ = some (.int .i64 k) ∧ w'.cell? ⟨w.heap.size, 1, none⟩ = some (.int .i64 h) ∧ w'.cell? ⟨w.heap.size, 2, none⟩ = some (.string t) ∧ w'.cell? ⟨w.heap.size, 3, none⟩ = some (.slice la nl cl) ∧ w'.cell? ⟨w.heap.size, 4, none⟩ = some (.slice ka nk ck) ∧ w'.cell? ⟨w.heap.size, 5, none⟩ = some (.slice va nv cv) ∧ Below w2.heap.size w2 w')
      (with_reducible refine Hold.out _ ?_; first | with_reducible assumption | with_reducible exact keep_alloc (by assumption) (Below.size (by assumption)) _ | with_reducible exact below_set7 (by assumption) (by omega) _ _ _ _ _ _ _)
      (first
        | (go_at_call 10; refine (So.out _ (below_of6 (by assumption))).mono ?_; rintro e w6 ⟨ss, oa, oc, rfl, hP6, hw6, hw6b⟩; have hs6 := hw6.size; (first | (with_reducible have hzz := hz_next hw6b Hz.out; clear Hz) | (with_reducible have hzz := hz_new hw6b) | (with_reducible have hzz := hz_drew hw6b) | skip); (try (have hz := hzz.1; have hzl := hzz.2; clear hzz)); (try with_reducible have ht := of_block7 hz); (try with_reducible have hq := free_block7 hz); (try with_reducible have Hz := Lib.hid hz); (try clear hz))
        | (go_at_call 9; refine (Ar.out _ _ _ _ (below_of6 (by assumption))).mono ?_; rintro e w7 ⟨rfl, hw7, hw7b⟩; have hs7 := hw7.size; (first | (with_reducible have hzz := hz_next hw7b Hz.out; clear Hz) | (with_reducible have hzz := hz_new hw7b) | (with_reducible have hzz := hz_drew hw7b) | skip); (try (have hz := hzz.1; have hzl := hzz.2; clear hzz)); (try with_reducible have ht := of_block7 hz); (try with_reducible have hq := free_block7 hz); (try with_reducible have Hz := Lib.hid hz); (try clear hz))
        | (go_at_call 8; refine (De.out ss oa oc _ ?_ (below_of6 (by assumption))).mono ?_; (first | with_reducible exact hP6.carry hw7b | with_reducible exact (hP6.carry (below_alloc1 _ _)).carry hw7b | with_reducible exact (hP6.carry hw7b).carry (below_alloc1 _ _)); rintro e w8 ⟨k1, h1, t1, la1, ka1, va1, nl1, cl1, nk1, ck1, nv1, cv1, n1, rfl, hR8, hw8, hw8b⟩; have hs8 := hw8.size; (first | (with_reducible have hzz := hz_next hw8b Hz.out; clear Hz) | (with_reducible have hzz := hz_new hw8b) | (with_reducible have hzz := hz_drew hw8b) | skip); (try (have hz := hzz.1; have hzl := hzz.2; clear hzz)); (try with_reducible have ht := of_block7 hz); (try with_reducible have hq := free_block7 hz); (try with_reducible have Hz := Lib.hid hz); (try clear hz)))
    all_goals
      go_wp2_with fail
      go_meet
      first
        | with_reducible exact RestAt.made hR8 hw8
        | with_reducible exact RestAt.put hR8 hw8 Hz.out (by omega) hzl
  case rest =>
  obtain ⟨z, r, k1, h1, t1, la1, ka1, va1, nl1, cl1, nk1, ck1, nv1, cv1, rfl, hzb, hzr, hwc, hrest, hrr⟩ := hcut
  have hsc := hwc.size
  have hbwc : Below w.heap.size w wc := Hb2.out.trans (hwc.mono (by have := Hb2.out.size; omega))
  have yc := (hwc.block w.heap.size (by omega)).trans (Y2.out trivial)
  have hzl := (Array.getElem?_eq_some_iff.1 hzr).1
  have hgr := rest_good v r hrest Gv.out
  obtain ⟨c0, c1, c2, c3, c4, c5, c6⟩ := of_block7 hzr
  have g31 : ((0 : Int) == 0) = true := by decide
  have Hrr := Lib.hid hrr
  clear a0 a1 a2 a3 a4 a5 Hold hw hrr
  have hbX := below_alloc1 wc (.cells #[.int .i64 k1, .int .i64 h1, .string t1, .slice la1 nl1 cl1, .slice ka1 nk1 ck1, .slice va1 nv1 cv1] 26)
  have hsX := size_alloc1 wc (.cells #[.int .i64 k1, .int .i64 h1, .string t1, .slice la1 nl1 cl1, .slice ka1 nk1 ck1, .slice va1 nv1 cv1] 26)
  have hxX := at_alloc wc (.cells #[.int .i64 k1, .int .i64 h1, .string t1, .slice la1 nl1 cl1, .slice ka1 nk1 ck1, .slice va1 nv1 cv1] 26)
  have hbwX : Below w.heap.size w (wc.alloc (.cells #[.int .i64 k1, .int .i64 h1, .string t1, .slice la1 nl1 cl1, .slice ka1 nk1 ck1, .slice va1 nv1 cv1] 26)) := hbwc.trans (hbX.mono (by have := Hb2.out.size; omega))
  go_wp2_with fail
  refine (Fr.out _ hbwX r hrest (by trivial) _ (Hrr.out.carry hbX hbX.size) _ (one_cells hxX) (by omega) _).mono ?_
  rintro e w4 ⟨rfl, hw4⟩
  have hb4 : Below wc.heap.size wc w4 := hbX.trans (hw4.mono (by omega))
  have hs4 := hb4.size
  have hbw4 : Below w.heap.size w w4 := hbwc.trans (hb4.mono (by have := Hb2.out.size; omega))
  have y4 := (hb4.block w.heap.size (by omega)).trans yc
  have hzr4 := (hb4.block z hzl).trans hzr
  have hrr4 := Hrr.out.carry hb4 hb4.size
  have hzl4 : z < w4.heap.size := by omega
  have hrz : sizeV r ≤ 400 := fit_size (rest_fit hrest Tm.out Ffb.out)
  clear hbX hsX hxX hbwX hw4 hb4 c0 c1 c2 c3 c4 c5 c6 Fr Hrr hzr yc hwc hbwc
  go_upto_region 8 with fail
  have hold : ∀ w', Below w4.heap.size w4 w' → (fun w' : World => w'.cell? ⟨z, 0, none⟩ = some (.int .i64 k1) ∧ w'.cell? ⟨z, 1, none⟩ = some (.int .i64 h1) ∧ w'.cell? ⟨z, 2, none⟩ = some (.string t1) ∧ w'.cell? ⟨z, 3, none⟩ = some (.slice la1 nl1 cl1) ∧ w'.cell? ⟨z, 4, none⟩ = some (.slice ka1 nk1 ck1) ∧ w'.cell? ⟨z, 5, none⟩ = some (.slice va1 nv1 cv1) ∧ Below w4.heap.size w4 w') w' := by
    intro w' hw
    obtain ⟨a0, a1, a2, a3, a4, a5, a6⟩ := of_block7 ((hw.block z hzl4).trans hzr4)
    exact ⟨a0, a1, a2, a3, a4, a5, hw⟩
  have Hold := Lib.hid hold
  have Y4 := Lib.hid fun (_ : True) => y4
  have Z4 := Lib.hid fun (_ : True) => hzr4
  have Hb4 := Lib.hid hbw4
  have Gr := Lib.hid hgr
  have Sr := Lib.hid hrz
  have Hr4 := Lib.hid hrr4
  have Hrest := Lib.hid hrest
  clear hold y4 hzr4 hbw4 hgr hrz hrr4 hrest
  go_cut [8] (fun s8 wx => RestAt w4 r s8 wx)
  case first =>
    have So : Hid (∀ w', Below w4.heap.size w4 w' → Calls Tryz.prog 10 #[.agg #[.int .i64 k1, .int .i64 h1, .string t1, .slice la1 nl1 cl1, .slice ka1 nk1 ck1, .slice va1 nv1 cv1], .slice ma ms.length mc] w'
        fun e w'' => ∃ (ss : List (List Stp)) (oa : Option Addr) (oc : Nat), e = .returned (.slice oa ss.length oc) ∧ PathsP w'' r ss oa oc ∧ Below w4.heap.size w4 w'' ∧ Below w'.heap.size w' w'') :=
      Lib.hid fun w' hw => (some_any w' r _ (Hr4.out.carry hw hw.size) Gr.out Sr.out (Hms.out w' (Hb4.out.trans (hw.mono Hb4.out.size)))).mono fun e w'' ⟨ss, oa, oc, he, hb, hl, hg, hr⟩ => ⟨ss, oa, oc, he, ⟨hl, hg, hr⟩, hw.trans (hb.mono hw.size), hb⟩
    have Ar : Hid (∀ pa n pc w', Below w4.heap.size w4 w' → Calls Tryz.prog 9 #[.slice pa n pc] w' fun e w'' => e = .returned (.agg #[.int .i64 5, .int .i64 0, .string ⟨#[]⟩, .slice pa n pc, .slice none 0 0, .slice none 0 0]) ∧ Below w4.heap.size w4 w'' ∧ Below w'.heap.size w' w'') :=
      Lib.hid fun pa n pc w' hw => (larray_any pa n pc w').mono fun e w'' h => ⟨h.1, hw.trans (h.2.mono hw.size), h.2⟩
    have De : Hid (∀ ss oa oc w', PathsP w' r ss oa oc → Below w4.heap.size w4 w' → Calls Tryz.prog 8 #[.agg #[.int .i64 k1, .int .i64 h1, .string t1, .slice la1 nl1 cl1, .slice ka1 nk1 ck1, .slice va1 nv1 cv1], .agg #[.int .i64 5, .int .i64 0, .string ⟨#[]⟩, .slice oa ss.length oc, .slice none 0 0, .slice none 0 0]] w'
        fun e w'' => ∃ (k h : Int) (t : ByteArray) (la ka va : Option Addr) (nl cl nk ck nv cv : Nat) (n : Int), e = .returned (.agg #[.int .i64 k, .int .i64 h, .string t, .slice la nl cl, .slice ka nk ck, .slice va nv cv, .int .i64 n]) ∧ RestR w' r k h t la ka va nl cl nk ck nv cv n w'' ∧ Below w4.heap.size w4 w'' ∧ Below w'.heap.size w' w'') :=
      Lib.hid fun ss oa oc w' hp hw => (del_rest (Hr4.out.carry hw hw.size) Gr.out hp).mono fun e w'' ⟨k, h, t, la, ka, va, nl, cl, nk, ck, nv, cv, n, he, hR, hb⟩ => ⟨k, h, t, la, ka, va, nl, cl, nk, ck, nv, cv, n, he, hR, hw.trans (hb.mono hw.size), hb⟩
    have hwd : Below w4.heap.size w4 w4.drew := Below.drew (Below.refl _ _)
    have hwda : Below w4.heap.size w4 (w4.alloc (.cells #[.int .i64 0, .int .i64 0, .string ⟨#[]⟩, .slice none 0 0, .slice none 0 0, .slice none 0 0, .int .i64 0] 31)).drew := Below.drew (below_alloc1 _ _)
    clear Hv Hns Hms Gv Gr Sr Hr4 Hb4 Hb2 Hrest Y4 Z4 Ffb Tm
    go_region_held3 (fun w' : World => w'.cell? ⟨z, 0, none⟩ = some (.int .i64 k1) ∧ w'.cell? ⟨z, 1, none⟩ = some (.int .i64 h1) ∧ w'.cell? ⟨z, 2, none⟩ = some (.string t1) ∧ w'.cell? ⟨z, 3, none⟩ = some (.slice la1 nl1 cl1) ∧ w'.cell? ⟨z, 4, none⟩ = some (.slice ka1 nk1 ck1) ∧ w'.cell? ⟨z, 5, none⟩ = some (.slice va1 nv1 cv1) ∧ Below w4.heap.size w4 w')
      (with_reducible refine Hold.out _ ?_; first | with_reducible assumption | with_reducible exact keep_alloc (by assumption) (Below.size (by assumption)) _ | with_reducible exact below_set7 (by assumption) (by omega) _ _ _ _ _ _ _)
      (first
        | (go_at_call 10; refine (So.out _ (below_of6 (by assumption))).mono ?_; rintro e w6 ⟨ss, oa, oc, rfl, hP6, hw6, hw6b⟩; have hs6 := hw6.size; (first | (with_reducible have hzz := hz_next hw6b Hz.out; clear Hz) | (with_reducible have hzz := hz_new hw6b) | (with_reducible have hzz := hz_drew hw6b) | skip); (try (have hz := hzz.1; have hzl := hzz.2; clear hzz)); (try with_reducible have ht := of_block7 hz); (try with_reducible have hq := free_block7 hz); (try with_reducible have Hz := Lib.hid hz); (try clear hz))
        | (go_at_call 9; refine (Ar.out _ _ _ _ (below_of6 (by assumption))).mono ?_; rintro e w7 ⟨rfl, hw7, hw7b⟩; have hs7 := hw7.size; (first | (with_reducible have hzz := hz_next hw7b Hz.out; clear Hz) | (with_reducible have hzz := hz_new hw7b) | (with_reducible have hzz := hz_drew hw7b) | skip); (try (have hz := hzz.1; have hzl := hzz.2; clear hzz)); (try with_reducible have ht := of_block7 hz); (try with_reducible have hq := free_block7 hz); (try with_reducible have Hz := Lib.hid hz); (try clear hz))
        | (go_at_call 8; refine (De.out ss oa oc _ ?_ (below_of6 (by assumption))).mono ?_; (first | with_reducible exact hP6.carry hw7b | with_reducible exact (hP6.carry (below_alloc1 _ _)).carry hw7b | with_reducible exact (hP6.carry hw7b).carry (below_alloc1 _ _)); rintro e w8 ⟨k9, h9, t9, la9, ka9, va9, nl9, cl9, nk9, ck9, nv9, cv9, n9, rfl, hR8, hw8, hw8b⟩; have hs8 := hw8.size; (first | (with_reducible have hzz := hz_next hw8b Hz.out; clear Hz) | (with_reducible have hzz := hz_new hw8b) | (with_reducible have hzz := hz_drew hw8b) | skip); (try (have hz := hzz.1; have hzl := hzz.2; clear hzz)); (try with_reducible have ht := of_block7 hz); (try with_reducible have hq := free_block7 hz); (try with_reducible have Hz := Lib.hid hz); (try clear hz)))
    all_goals
      go_wp2_with fail
      go_meet
      first
        | with_reducible exact RestAt.made hR8 hw8
        | with_reducible exact RestAt.put hR8 hw8 Hz.out (by omega) hzl
  case rest =>
  obtain ⟨z2, s, k5, h5, t5, la5, ka5, va5, nl5, cl5, nk5, ck5, nv5, cv5, rfl, hzb5, hzr5, hwc5, hrest5, hrr5⟩ := hcut
  have hsc5 := hwc5.size
  have hbw5 : Below w.heap.size w wc := Hb4.out.trans (hwc5.mono (by have := Hb4.out.size; omega))
  have y5 := (hwc5.block w.heap.size (by omega)).trans (Y4.out trivial)
  have hz5 := (hwc5.block z hzl4).trans (Z4.out trivial)
  have hzl5 : z2 < wc.heap.size := (Array.getElem?_eq_some_iff.1 hzr5).1
  have hvc := Hv.out wc hbw5
  have hrc := Hr4.out.carry hwc5 hwc5.size
  have hgs := rest_good r s hrest5 Gr.out
  have Co1 : Hid (∀ w', Below wc.heap.size wc w' → Calls Tryz.prog 12 #[.agg #[.int .i64 k1, .int .i64 h1, .string t1, .slice la1 nl1 cl1, .slice ka1 nk1 ck1, .slice va1 nv1 cv1], .agg #[.int .i64 k5, .int .i64 h5, .string t5, .slice la5 nl5 cl5, .slice ka5 nk5 ck5, .slice va5 nv5 cv5]] w' (GotFrom wc (.fine trueV))) :=
    Lib.hid fun w' hb => (implCont_any hrc hrr5 Gr.out hgs hrest5 w' hb hb.size).mono fun e w'' h => h.from hb
  have Co2 : Hid (∀ w', Below wc.heap.size wc w' → Calls Tryz.prog 12 #[.agg #[.int .i64 k, .int .i64 h, .string t, .slice la nl cl, .slice ka nk ck, .slice va nv cv], .agg #[.int .i64 k1, .int .i64 h1, .string t1, .slice la1 nl1 cl1, .slice ka1 nk1 ck1, .slice va1 nv1 cv1]] w' (GotFrom wc (.fine trueV))) :=
    Lib.hid fun w' hb => (implCont_any hvc hrc Gv.out Gr.out Hrest.out w' hb hb.size).mono fun e w'' h => h.from hb
  have Co3 : Hid (∀ w', Below wc.heap.size wc w' → Calls Tryz.prog 12 #[.agg #[.int .i64 k, .int .i64 h, .string t, .slice la nl cl, .slice ka nk ck, .slice va nv cv], .agg #[.int .i64 k5, .int .i64 h5, .string t5, .slice la5 nl5 cl5, .slice ka5 nk5 ck5, .slice va5 nv5 cv5]] w' (GotFrom wc (.fine trueV))) :=
    Lib.hid fun w' hb => (implCont_any hvc hrr5 Gv.out hgs (rest_trans v r s Hrest.out hrest5) w' hb hb.size).mono fun e w'' h => h.from hb
  have HB5 := Lib.hid hbw5
  obtain ⟨c0, c1, c2, c3, c4, c5, c6⟩ := of_block7 hz5
  obtain ⟨d0, d1, d2, d3, d4, d5, d6⟩ := of_block7 hzr5
  clear hwc5 hrr5 hrest5 hbw5 hvc hrc hgs Hold Hv Hns Hms Gv Gr Sr Hr4 Hb4 Hb2 Hrest Y4 Z4 Ffb Tm
  go_wp2_with fail
  refine (Co1.out wc (Below.refl _ _)).mono ?_
  rintro e w16 ⟨k2, h2, t2, la2, ka2, va2, nl2, cl2, nk2, ck2, nv2, cv2, n2, rfl, hR, hw6⟩
  go_wp2_with fail
  refine (yes_any hR).mono ?_
  rintro e w17 ⟨rfl, hw7⟩
  have hb1 : Below wc.heap.size wc w17 := hw6.trans (hw7.mono hw6.size)
  have hs17 := hb1.size
  have x1 := (hb1.block w.heap.size (by omega)).trans y5
  have xz1 := (hb1.block z (by omega)).trans hz5
  have xs1 := (hb1.block z2 (by omega)).trans hzr5
  clear hR hw6 hw7
  clear c0 c1 c2 c3 c4 c5 c6 d0 d1 d2 d3 d4 d5 d6
  obtain ⟨a0, a1, a2, a3, a4, a5⟩ := of_block6 x1
  obtain ⟨c0, c1, c2, c3, c4, c5, c6⟩ := of_block7 xz1
  go_wp2_with fail
  refine (Co2.out w17 hb1).mono ?_
  rintro e w26 ⟨k2, h2, t2, la2, ka2, va2, nl2, cl2, nk2, ck2, nv2, cv2, n2, rfl, hR, hw6⟩
  go_wp2_with fail
  refine (yes_any hR).mono ?_
  rintro e w27 ⟨rfl, hw7⟩
  have hb2 : Below wc.heap.size wc w27 := hw6.trans (hw7.mono hw6.size)
  have hs27 := hb2.size
  have x2 := (hb2.block w.heap.size (by omega)).trans y5
  have xz2 := (hb2.block z (by omega)).trans hz5
  have xs2 := (hb2.block z2 (by omega)).trans hzr5
  clear hR hw6 hw7
  clear a0 a1 a2 a3 a4 a5 c0 c1 c2 c3 c4 c5 c6
  obtain ⟨a0, a1, a2, a3, a4, a5⟩ := of_block6 x2
  obtain ⟨d0, d1, d2, d3, d4, d5, d6⟩ := of_block7 xs2
  go_wp2_with fail
  refine (Co3.out w27 hb2).mono ?_
  rintro e w36 ⟨k2, h2, t2, la2, ka2, va2, nl2, cl2, nk2, ck2, nv2, cv2, n2, rfl, hR, hw6⟩
  go_wp2_with fail
  refine (yes_any hR).mono ?_
  rintro e w37 ⟨rfl, hw7⟩
  have hb3 : Below wc.heap.size wc w37 := hw6.trans (hw7.mono hw6.size)
  have hs37 := hb3.size
  have x3 := (hb3.block w.heap.size (by omega)).trans y5
  have xz3 := (hb3.block z (by omega)).trans hz5
  have xs3 := (hb3.block z2 (by omega)).trans hzr5
  clear hR hw6 hw7
  go_wp2_with fail
  go_ret
  exact ⟨rfl, HB5.out.trans (hb3.mono HB5.out.size)⟩

end Go.Proofs.YtpoibibbkjogpaaGreatDoor

namespace Go.Proofs.YtpoibibbkjogpaaGreatDoor
open Go Go.RowKit

section
variable {H : Type} {enc : TypeId × Value → H} {W : World} {sp : Nat → Bool}

theorem list_of_trod {fuel : Nat} {c : Value} {y : DataW H × List MemPlace} (hy : DataW.trod enc Tryz.prog W 0 (fun _ => true) true fuel 23 [c] = some y) (hwy : ∀ m ∈ y.1.weights Tryz.prog 23, m ≤ reachBytes) :
    ∃ (l : List V) (la : Option Addr) (lc : Nat) (C : Nat → List Value), c = .slice la l.length lc ∧ l.length * 104 ≤ 140737488351232 ∧
      (0 < l.length → ∃ b o, la = some ⟨b, o, none⟩ ∧ b < W.heap.size ∧ ∀ i, i < l.length → CellsAt W b (o + i * 6) (C i)) ∧ (∀ i (hi : i < l.length), RepV W W.heap.size l[i] (C i)) ∧ l.length ≤ lc := by
  rcases DataW.trod_slice Tryz.underlying23 hy with ⟨e, _⟩ | ⟨a, len, cap, elems, rest, m, rfl, e, q, _, hlc, _, hl, hel, _⟩
  · cases e
    exact ⟨[], _, _, fun _ => [], rfl, by simp, fun h0 => absurd h0 (by simp), fun i hi => absurd hi (by simp), Nat.le_refl 0⟩
  · cases e
    rw [cells_value] at hel
    have hww : ∀ (i : Nat) (e : DataW H × List MemPlace), elems[i]? = some e → ∀ m ∈ e.1.weights Tryz.prog 26, m ≤ reachBytes := by
      intro i e he m hm
      refine hwy m ?_
      rw [q]
      simp only [DataW.weights, Tryz.underlying23, List.mem_cons, List.mem_append]
      exact .inr (.inl (weights_mem_all (i := i) (by rw [List.getElem?_map, he]; rfl) m hm))
    obtain ⟨l, C, rfl, hc, hr⟩ := rows_of hl hel (fun i e he cs hcs => rep_of_trod m cs e hcs (hww i e he))
    refine ⟨l, _, _, C, rfl, ?_, fun h0 => ?_, hr, by omega⟩
    · have := hwy ((elems.length + rest.length) * 104) (by rw [q]; simp [DataW.weights, Tryz.underlying23, bytes_value])
      have e : reachBytes = 140737488351232 := rfl
      rw [hl] at this
      omega
    · obtain ⟨b, o, rfl, hb, hcs⟩ := hc h0
      exact ⟨b, o, rfl, hb, hcs⟩
end

end Go.Proofs.YtpoibibbkjogpaaGreatDoor
