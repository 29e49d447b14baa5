/- laws.FnContainsRest. -/
/- What reads as a datum of type []impl.Value is a row of values. -/
import Derived.Test.YtpoibibbkjogpaaGreatDoorM23
import Derived.Test.YtpoibibbkjogpaaGreatDoorM01
import Derived.Test.YtpoibibbkjogpaaGreatDoorM21
namespace Go.Proofs.YtpoibibbkjogpaaGreatDoor
open Go Go.RowKit Go.Deep

set_option maxHeartbeats 4000000 in
set_option maxRecDepth 100000 in
theorem fnContainsRest_any (w : World) (v : V) (cv : List Value) (hv : RepV w w.heap.size v cv) (ns : List Nat) (nsv : Value) (hns : ShortsAt w w.heap.size ns nsv) (hTB : TabsB w w.heap.size) :
    Calls Tryz.prog 4 #[.agg cv.toArray, nsv] w (Yes w) := by
  have Za := Lib.hid fun (w' : World) (h : Below w.heap.size w w') => zz1_any w' v cv (hv.carry h h.size)
  have Fi := Lib.hid fun (w' : World) (h : Below w.heap.size w w') z hz hzl c => fits1_any w' v cv (hv.carry h h.size) z hz hzl (hTB.carry h h.size) c
  have Gs : Hid (fitB v = true → Good v) := Lib.hid fun h => fit_good h
  have Zs : Hid (fitB v = true → sizeV v ≤ 400) := Lib.hid fun h => fit_size h
  have Hv := Lib.hid fun (w' : World) (h : Below w.heap.size w w') => hv.carry h h.size
  have Hns := Lib.hid fun (w' : World) (h : Below w.heap.size w w') => (hns.below h).mono h.size
  obtain ⟨_, na, nc, rfl, _⟩ := hns
  generalize fitB v = fb at *
  obtain ⟨k, h, t, la, ka, va, nl, cl, nk, ck, nv, cv, rfl⟩ := hv.shape
  clear hv hTB
  go_enter Tryz.func4, Tryz.ntmps4
  go_wp2_with fail
  have hbW := below_alloc1 w (.cells #[.int .i64 k, .int .i64 h, .string t, .slice la nl cl, .slice ka nk ck, .slice va nv cv] 26)
  have hx0 := at_alloc w (.cells #[.int .i64 k, .int .i64 h, .string t, .slice la nl cl, .slice ka nk ck, .slice va nv cv] 26)
  have hsW := size_alloc1 w (.cells #[.int .i64 k, .int .i64 h, .string t, .slice la nl cl, .slice ka nk ck, .slice va nv cv] 26)
  refine (Za.out _ hbW).mono ?_
  generalize w.alloc _ = W at *
  rintro e w1 ⟨⟨za, rfl⟩, hw1⟩
  have hs1 : w.heap.size + 1 ≤ w1.heap.size := by have := hw1.size; omega
  have y0 := (hw1.block w.heap.size (by omega)).trans hx0
  have hb1 : Below w.heap.size w w1 := hbW.trans (hw1.mono (by omega))
  clear hw1 hbW hx0 hsW
  cases za with
  | false =>
    go_wp2_with fail
    go_ret
    exact ⟨rfl, hb1⟩
  | true =>
  by_cases hbig : (ns.length : Int) > 2147483647
  · go_wp2_with fail
    go_ret
    exact ⟨rfl, hb1⟩
  obtain ⟨a0, a1, a2, a3, a4, a5⟩ := of_block6 y0
  go_wp2_with fail
  have hbX := below_alloc1 w1 (.cells #[.int .i64 k, .int .i64 h, .string t, .slice la nl cl, .slice ka nk ck, .slice va nv cv] 26)
  have hsX := size_alloc1 w1 (.cells #[.int .i64 k, .int .i64 h, .string t, .slice la nl cl, .slice ka nk ck, .slice va nv cv] 26)
  have hxX := at_alloc w1 (.cells #[.int .i64 k, .int .i64 h, .string t, .slice la nl cl, .slice ka nk ck, .slice va nv cv] 26)
  have hcX := one_cells hxX
  refine (Fi.out _ (hb1.trans (hbX.mono (by omega))) _ hcX (by omega) _).mono ?_
  rintro e w2 ⟨rfl, hw2⟩
  have hb2 : Below w1.heap.size w1 w2 := hbX.trans (hw2.mono (by omega))
  have hs2 := hb2.size
  have hbw2 : Below w.heap.size w w2 := hb1.trans (hb2.mono (by omega))
  have y2 := (hb2.block w.heap.size (by omega)).trans y0
  clear hbX hsX hxX hcX hw2 y0 a0 a1 a2 a3 a4 a5 Fi Za hbig
  cases fb with
  | false =>
    go_wp2_with fail
    go_ret
    exact ⟨rfl, hbw2⟩
  | true =>
  have gv := Gs.out rfl
  have hz := Zs.out rfl
  clear Gs Zs
  go_upto_region 5 with fail
  have hold : ∀ w', Below w2.heap.size w2 w' → (fun w' : World => w'.cell? ⟨w.heap.size, 0, none⟩ = some (.int .i64 k) ∧ w'.cell? ⟨w.heap.size, 1, none⟩ = some (.int .i64 h) ∧ w'.cell? ⟨w.heap.size, 2, none⟩ = some (.string t) ∧ w'.cell? ⟨w.heap.size, 3, none⟩ = some (.slice la nl cl) ∧ w'.cell? ⟨w.heap.size, 4, none⟩ = some (.slice ka nk ck) ∧ w'.cell? ⟨w.heap.size, 5, none⟩ = some (.slice va nv cv) ∧ Below w2.heap.size w2 w') w' := by
    intro w' hw
    obtain ⟨a0, a1, a2, a3, a4, a5⟩ := of_block6 ((hw.block w.heap.size (by omega)).trans y2)
    exact ⟨a0, a1, a2, a3, a4, a5, hw⟩
  have Hold := Lib.hid hold
  obtain ⟨a0, a1, a2, a3, a4, a5, hw⟩ := hold _ (Below.refl w2.heap.size w2)
  have Y2 := Lib.hid fun (_ : True) => y2
  have Hb2 := Lib.hid hbw2
  have Gv := Lib.hid gv
  have Sz := Lib.hid hz
  clear hold y2 hbw2 gv hz hb2 hb1
  go_cut [5] (fun s5 wx => RestAt w2 v s5 wx)
  case first =>
    have So : Hid (∀ w', Below w2.heap.size w2 w' → Calls Tryz.prog 10 #[.agg #[.int .i64 k, .int .i64 h, .string t, .slice la nl cl, .slice ka nk ck, .slice va nv cv], .slice na ns.length nc] w'
        fun e w'' => ∃ (ss : List (List Stp)) (oa : Option Addr) (oc : Nat), e = .returned (.slice oa ss.length oc) ∧ PathsP w'' v ss oa oc ∧ Below w2.heap.size w2 w'' ∧ Below w'.heap.size w' w'') :=
      Lib.hid fun w' hw => (some_any w' v _ (Hv.out w' (Hb2.out.trans (hw.mono Hb2.out.size))) Gv.out Sz.out (Hns.out w' (Hb2.out.trans (hw.mono Hb2.out.size)))).mono fun e w'' ⟨ss, oa, oc, he, hb, hl, hg, hr⟩ => ⟨ss, oa, oc, he, ⟨hl, hg, hr⟩, hw.trans (hb.mono hw.size), hb⟩
    have Ar : Hid (∀ pa n pc w', Below w2.heap.size w2 w' → Calls Tryz.prog 9 #[.slice pa n pc] w' fun e w'' => e = .returned (.agg #[.int .i64 5, .int .i64 0, .string ⟨#[]⟩, .slice pa n pc, .slice none 0 0, .slice none 0 0]) ∧ Below w2.heap.size w2 w'' ∧ Below w'.heap.size w' w'') :=
      Lib.hid fun pa n pc w' hw => (larray_any pa n pc w').mono fun e w'' h => ⟨h.1, hw.trans (h.2.mono hw.size), h.2⟩
    have De : Hid (∀ ss oa oc w', PathsP w' v ss oa oc → Below w2.heap.size w2 w' → Calls Tryz.prog 8 #[.agg #[.int .i64 k, .int .i64 h, .string t, .slice la nl cl, .slice ka nk ck, .slice va nv cv], .agg #[.int .i64 5, .int .i64 0, .string ⟨#[]⟩, .slice oa ss.length oc, .slice none 0 0, .slice none 0 0]] w'
        fun e w'' => ∃ (k h : Int) (t : ByteArray) (la ka va : Option Addr) (nl cl nk ck nv cv : Nat) (n : Int), e = .returned (.agg #[.int .i64 k, .int .i64 h, .string t, .slice la nl cl, .slice ka nk ck, .slice va nv cv, .int .i64 n]) ∧ RestR w' v k h t la ka va nl cl nk ck nv cv n w'' ∧ Below w2.heap.size w2 w'' ∧ Below w'.heap.size w' w'') :=
      Lib.hid fun ss oa oc w' hp hw => (del_rest (Hv.out w' (Hb2.out.trans (hw.mono Hb2.out.size))) Gv.out hp).mono fun e w'' ⟨k, h, t, la, ka, va, nl, cl, nk, ck, nv, cv, n, he, hR, hb⟩ => ⟨k, h, t, la, ka, va, nl, cl, nk, ck, nv, cv, n, he, hR, hw.trans (hb.mono hw.size), hb⟩
    have hwd : Below w2.heap.size w2 w2.drew := Below.drew (Below.refl _ _)
    have hwda : Below w2.heap.size w2 (w2.alloc (.cells #[.int .i64 0, .int .i64 0, .string ⟨#[]⟩, .slice none 0 0, .slice none 0 0, .slice none 0 0, .int .i64 0] 31)).drew := Below.drew (below_alloc1 _ _)
    clear Hv Hns Gv Sz Y2 Hb2
    go_region_held3 (fun w' : World => w'.cell? ⟨w.heap.size, 0, none⟩ = some (.int .i64 k) ∧ w'.cell? ⟨w.heap.size, 1, none⟩ = some (.int .i64 h) ∧ w'.cell? ⟨w.heap.size, 2, none⟩ = some (.string t) ∧ w'.cell? ⟨w.heap.size, 3, none⟩ = some (.slice la nl cl) ∧ w'.cell? ⟨w.heap.size, 4, none⟩ = some (.slice ka nk ck) ∧ w'.cell? ⟨w.heap.size, 5, none⟩ = some (.slice va nv cv) ∧ Below w2.heap.size w2 w')
      (with_reducible refine Hold.out _ ?_; first | with_reducible assumption | with_reducible exact keep_alloc (by assumption) (Below.size (by assumption)) _ | with_reducible exact below_set7 (by assumption) (by omega) _ _ _ _ _ _ _)
      (first
        | (go_at_call 10; refine (So.out _ (below_of6 (by assumption))).mono ?_; rintro e w6 ⟨ss, oa, oc, rfl, hP6, hw6, hw6b⟩; have hs6 := hw6.size; (first | (with_reducible have hzz := hz_next hw6b Hz.out; clear Hz) | (with_reducible have hzz := hz_new hw6b) | (with_reducible have hzz := hz_drew hw6b) | skip); (try (have hz := hzz.1; have hzl := hzz.2; clear hzz)); (try with_reducible have ht := of_block7 hz); (try with_reducible have hq := free_block7 hz); (try with_reducible have Hz := Lib.hid hz); (try clear hz))
        | (go_at_call 9; refine (Ar.out _ _ _ _ (below_of6 (by assumption))).mono ?_; rintro e w7 ⟨rfl, hw7, hw7b⟩; have hs7 := hw7.size; (first | (with_reducible have hzz := hz_next hw7b Hz.out; clear Hz) | (with_reducible have hzz := hz_new hw7b) | (with_reducible have hzz := hz_drew hw7b) | skip); (try (have hz := hzz.1; have hzl := hzz.2; clear hzz)); (try with_reducible have ht := of_block7 hz); (try with_reducible have hq := free_block7 hz); (try with_reducible have Hz := Lib.hid hz); (try clear hz))
        | (go_at_call 8; refine (De.out ss oa oc _ ?_ (below_of6 (by assumption))).mono ?_; (first | with_reducible exact hP6.carry hw7b | with_reducible exact (hP6.carry (below_alloc1 _ _)).carry hw7b | with_reducible exact (hP6.carry hw7b).carry (below_alloc1 _ _)); rintro e w8 ⟨k1, h1, t1, la1, ka1, va1, nl1, cl1, nk1, ck1, nv1, cv1, n1, rfl, hR8, hw8, hw8b⟩; have hs8 := hw8.size; (first | (with_reducible have hzz := hz_next hw8b Hz.out; clear Hz) | (with_reducible have hzz := hz_new hw8b) | (with_reducible have hzz := hz_drew hw8b) | skip); (try (have hz := hzz.1; have hzl := hzz.2; clear hzz)); (try with_reducible have ht := of_block7 hz); (try with_reducible have hq := free_block7 hz); (try with_reducible have Hz := Lib.hid hz); (try clear hz)))
    all_goals
      go_wp2_with fail
      go_meet
      first
        | with_reducible exact RestAt.made hR8 hw8
        | with_reducible exact RestAt.put hR8 hw8 Hz.out (by omega) hzl
  case rest =>
  obtain ⟨z, r, k1, h1, t1, la1, ka1, va1, nl1, cl1, nk1, ck1, nv1, cv1, rfl, hzb, hzr, hwc, hrest, hrr⟩ := hcut
  have hsc := hwc.size
  have hbwc : Below w.heap.size w wc := Hb2.out.trans (hwc.mono (by have := Hb2.out.size; omega))
  have yc := (hwc.block w.heap.size (by omega)).trans (Y2.out trivial)
  have hzl := (Array.getElem?_eq_some_iff.1 hzr).1
  have hgr := rest_good v r hrest Gv.out
  have Hrr := Lib.hid hrr
  clear a0 a1 a2 a3 a4 a5 Hold hw hrr
  go_upto_region 7 with fail
  have hbZ := below_alloc1 wc (.cells #[.int .i64 2, .int .i64 0, .string ⟨#[]⟩, .slice none 0 0, .slice none 0 0, .slice none 0 0] 26)
  have hsZ := size_alloc1 wc (.cells #[.int .i64 2, .int .i64 0, .string ⟨#[]⟩, .slice none 0 0, .slice none 0 0, .slice none 0 0] 26)
  have hxZ := at_alloc wc (.cells #[.int .i64 2, .int .i64 0, .string ⟨#[]⟩, .slice none 0 0, .slice none 0 0, .slice none 0 0] 26)
  generalize wc.alloc _ = Z at *
  have hbwZ : Below w.heap.size w Z := hbwc.trans (hbZ.mono (by have := Hb2.out.size; omega))
  have v0 := (hbZ.block w.heap.size (by omega)).trans yc
  have v6 := (hbZ.block z hzl).trans hzr
  have hrZ := Hrr.out.carry hbZ hbZ.size
  have hold : ∀ w', Below Z.heap.size Z w' → (fun w' : World => w'.cell? ⟨w.heap.size, 0, none⟩ = some (.int .i64 k) ∧ w'.cell? ⟨w.heap.size, 1, none⟩ = some (.int .i64 h) ∧ w'.cell? ⟨w.heap.size, 2, none⟩ = some (.string t) ∧ w'.cell? ⟨w.heap.size, 3, none⟩ = some (.slice la nl cl) ∧ w'.cell? ⟨w.heap.size, 4, none⟩ = some (.slice ka nk ck) ∧ w'.cell? ⟨w.heap.size, 5, none⟩ = some (.slice va nv cv) ∧
      w'.cell? ⟨z, 0, none⟩ = some (.int .i64 k1) ∧ w'.cell? ⟨z, 1, none⟩ = some (.int .i64 h1) ∧ w'.cell? ⟨z, 2, none⟩ = some (.string t1) ∧ w'.cell? ⟨z, 3, none⟩ = some (.slice la1 nl1 cl1) ∧ w'.cell? ⟨z, 4, none⟩ = some (.slice ka1 nk1 ck1) ∧ w'.cell? ⟨z, 5, none⟩ = some (.slice va1 nv1 cv1) ∧ w'.cell? ⟨z, 6, none⟩ = some (.int .i64 0) ∧
      w'.cell? ⟨wc.heap.size, 0, none⟩ = some (.int .i64 2) ∧ w'.cell? ⟨wc.heap.size, 1, none⟩ = some (.int .i64 0) ∧ w'.cell? ⟨wc.heap.size, 2, none⟩ = some (.string ⟨#[]⟩) ∧ w'.cell? ⟨wc.heap.size, 3, none⟩ = some (.slice none 0 0) ∧ w'.cell? ⟨wc.heap.size, 4, none⟩ = some (.slice none 0 0) ∧ w'.cell? ⟨wc.heap.size, 5, none⟩ = some (.slice none 0 0) ∧ Below Z.heap.size Z w') w' := by
    intro w' hw
    obtain ⟨a0, a1, a2, a3, a4, a5⟩ := of_block6 ((hw.block w.heap.size (by omega)).trans v0)
    obtain ⟨c0, c1, c2, c3, c4, c5, c6⟩ := of_block7 ((hw.block z (by omega)).trans v6)
    obtain ⟨d0, d1, d2, d3, d4, d5⟩ := of_block6 ((hw.block wc.heap.size (by omega)).trans hxZ)
    exact ⟨a0, a1, a2, a3, a4, a5, c0, c1, c2, c3, c4, c5, c6, d0, d1, d2, d3, d4, d5, hw⟩
  have Hold := Lib.hid hold
  have hvZ := Hv.out Z hbwZ
  have Co : Hid (∀ (k3 h3 : Int) (t3 : ByteArray) (la3 ka3 va3 : Option Addr) (nl3 cl3 nk3 ck3 nv3 cv3 : Nat) (w' : World), LeftOf Z v [.int .i64 k3, .int .i64 h3, .string t3, .slice la3 nl3 cl3, .slice ka3 nk3 ck3, .slice va3 nv3 cv3] → Below Z.heap.size Z w' →
      Calls Tryz.prog 12 #[.agg #[.int .i64 k, .int .i64 h, .string t, .slice la nl cl, .slice ka nk ck, .slice va nv cv], .agg #[.int .i64 k3, .int .i64 h3, .string t3, .slice la3 nl3 cl3, .slice ka3 nk3 ck3, .slice va3 nv3 cv3]] w' (GotFrom Z (.fine trueV))) :=
    Lib.hid fun k3 h3 t3 la3 ka3 va3 nl3 cl3 nk3 ck3 nv3 cv3 w' ⟨b, hb3, gb, hrb⟩ hb => (implCont_any hvZ hb3 Gv.out gb hrb w' hb hb.size).mono fun e w'' h => h.from hb
  have L1 : LeftOf Z v [.int .i64 k, .int .i64 h, .string t, .slice la nl cl, .slice ka nk ck, .slice va nv cv] := ⟨v, hvZ, Gv.out, rest_refl v Gv.out⟩
  have L2 : LeftOf Z v [.int .i64 k1, .int .i64 h1, .string t1, .slice la1 nl1 cl1, .slice ka1 nk1 ck1, .slice va1 nv1 cv1] := ⟨r, hrZ, hgr, hrest⟩
  have Gi : Hid (∀ (k2 h2 n2 : Int) (t2 : ByteArray) (la2 ka2 va2 : Option Addr) (nl2 cl2 nk2 ck2 nv2 cv2 : Nat) (w' : World), Got w' (.fine trueV) k2 h2 t2 la2 ka2 va2 nl2 cl2 nk2 ck2 nv2 cv2 n2 → Below Z.heap.size Z w' →
      Calls Tryz.prog 13 #[.agg #[.int .i64 k2, .int .i64 h2, .string t2, .slice la2 nl2 cl2, .slice ka2 nk2 ck2, .slice va2 nv2 cv2, .int .i64 n2], .agg #[.int .i64 2, .int .i64 0, .string ⟨#[]⟩, .slice none 0 0, .slice none 0 0, .slice none 0 0]] w' fun e w'' => e = .returned (.bool true) ∧ Below Z.heap.size Z w'') :=
    Lib.hid fun k2 h2 n2 t2 la2 ka2 va2 nl2 cl2 nk2 ck2 nv2 cv2 w' hR hb => (given_any good_trueV hR (rep_trueV _ _)).mono fun e w'' h => ⟨h.1, hb.trans (h.2.mono hb.size)⟩
  have HBZ := Lib.hid hbwZ
  have hwd : Below Z.heap.size Z Z.drew := Below.drew (Below.refl _ _)
  have g31 : ((0 : Int) == 0) = true := by decide
  clear hold v0 v6 hbZ hxZ hsZ Hrr hrZ hvZ yc hbwc hbwZ hwc hzr hzl hzb hrest hgr Hv Hns Gv Y2 Hb2 hsc
  go_region_held3 (fun w' : World => w'.cell? ⟨w.heap.size, 0, none⟩ = some (.int .i64 k) ∧ w'.cell? ⟨w.heap.size, 1, none⟩ = some (.int .i64 h) ∧ w'.cell? ⟨w.heap.size, 2, none⟩ = some (.string t) ∧ w'.cell? ⟨w.heap.size, 3, none⟩ = some (.slice la nl cl) ∧ w'.cell? ⟨w.heap.size, 4, none⟩ = some (.slice ka nk ck) ∧ w'.cell? ⟨w.heap.size, 5, none⟩ = some (.slice va nv cv) ∧
      w'.cell? ⟨z, 0, none⟩ = some (.int .i64 k1) ∧ w'.cell? ⟨z, 1, none⟩ = some (.int .i64 h1) ∧ w'.cell? ⟨z, 2, none⟩ = some (.string t1) ∧ w'.cell? ⟨z, 3, none⟩ = some (.slice la1 nl1 cl1) ∧ w'.cell? ⟨z, 4, none⟩ = some (.slice ka1 nk1 ck1) ∧ w'.cell? ⟨z, 5, none⟩ = some (.slice va1 nv1 cv1) ∧ w'.cell? ⟨z, 6, none⟩ = some (.int .i64 0) ∧
      w'.cell? ⟨wc.heap.size, 0, none⟩ = some (.int .i64 2) ∧ w'.cell? ⟨wc.heap.size, 1, none⟩ = some (.int .i64 0) ∧ w'.cell? ⟨wc.heap.size, 2, none⟩ = some (.string ⟨#[]⟩) ∧ w'.cell? ⟨wc.heap.size, 3, none⟩ = some (.slice none 0 0) ∧ w'.cell? ⟨wc.heap.size, 4, none⟩ = some (.slice none 0 0) ∧ w'.cell? ⟨wc.heap.size, 5, none⟩ = some (.slice none 0 0) ∧ Below Z.heap.size Z w')
    (with_reducible refine Hold.out _ ?_; with_reducible assumption)
    (first
      | (go_at_call 12; refine (Co.out _ _ _ _ _ _ _ _ _ _ _ _ _ (by assumption) (below_of19 (by assumption))).mono ?_; rintro e w6 ⟨k2, h2, t2, la2, ka2, va2, nl2, cl2, nk2, ck2, nv2, cv2, n2, rfl, hR, hw6⟩)
      | (go_at_call 13; refine (Gi.out _ _ _ _ _ _ _ _ _ _ _ _ _ _ (by assumption) (below_of19 (by assumption))).mono ?_; rintro e w7 ⟨rfl, hw7⟩))
  all_goals
    go_wp2_with fail
    go_ret
    exact ⟨rfl, HBZ.out.trans (Below.mono (by assumption) HBZ.out.size)⟩

end Go.Proofs.YtpoibibbkjogpaaGreatDoor

namespace Go.Proofs.YtpoibibbkjogpaaGreatDoor
open Go Go.RowKit

section
variable {H : Type} {enc : TypeId × Value → H} {W : World} {sp : Nat → Bool}

theorem list_of_trod {fuel : Nat} {c : Value} {y : DataW H × List MemPlace} (hy : DataW.trod enc Tryz.prog W 0 (fun _ => true) true fuel 23 [c] = some y) (hwy : ∀ m ∈ y.1.weights Tryz.prog 23, m ≤ reachBytes) :
    ∃ (l : List V) (la : Option Addr) (lc : Nat) (C : Nat → List Value), c = .slice la l.length lc ∧ l.length * 104 ≤ 140737488351232 ∧
      (0 < l.length → ∃ b o, la = some ⟨b, o, none⟩ ∧ b < W.heap.size ∧ ∀ i, i < l.length → CellsAt W b (o + i * 6) (C i)) ∧ (∀ i (hi : i < l.length), RepV W W.heap.size l[i] (C i)) ∧ l.length ≤ lc := by
  rcases DataW.trod_slice Tryz.underlying23 hy with ⟨e, _⟩ | ⟨a, len, cap, elems, rest, m, rfl, e, q, _, hlc, _, hl, hel, _⟩
  · cases e
    exact ⟨[], _, _, fun _ => [], rfl, by simp, fun h0 => absurd h0 (by simp), fun i hi => absurd hi (by simp), Nat.le_refl 0⟩
  · cases e
    rw [cells_value] at hel
    have hww : ∀ (i : Nat) (e : DataW H × List MemPlace), elems[i]? = some e → ∀ m ∈ e.1.weights Tryz.prog 26, m ≤ reachBytes := by
      intro i e he m hm
      refine hwy m ?_
      rw [q]
      simp only [DataW.weights, Tryz.underlying23, List.mem_cons, List.mem_append]
      exact .inr (.inl (weights_mem_all (i := i) (by rw [List.getElem?_map, he]; rfl) m hm))
    obtain ⟨l, C, rfl, hc, hr⟩ := rows_of hl hel (fun i e he cs hcs => rep_of_trod m cs e hcs (hww i e he))
    refine ⟨l, _, _, C, rfl, ?_, fun h0 => ?_, hr, by omega⟩
    · have := hwy ((elems.length + rest.length) * 104) (by rw [q]; simp [DataW.weights, Tryz.underlying23, bytes_value])
      have e : reachBytes = 140737488351232 := rfl
      rw [hl] at this
      omega
    · obtain ⟨b, o, rfl, hb, hcs⟩ := hc h0
      exact ⟨b, o, rfl, hb, hcs⟩
end

end Go.Proofs.YtpoibibbkjogpaaGreatDoor
