/- laws.FnSetOld. -/
/- What reads as a datum of type impl.Value is a value of RepV. -/
/- What reads as a datum of type []impl.Value is a row of values. -/
import Derived.Test.YtiphcojcdegnkaaGreatDoorM21
import Derived.Test.YtiphcojcdegnkaaGreatDoorM02
import Derived.ChangeArms
import Derived.SizedLaws
namespace Go.Proofs.YtiphcojcdegnkaaGreatDoor
open Go Go.RowKit Go.Deep

theorem fits1_any (w : World) (a : V) (ca : List Value) (ha : RepV w w.heap.size a ca) (z : Nat) (hz : CellsAt w z 0 ca) (hzl : z < w.heap.size) (hTB : TabsB w w.heap.size) (c : Nat) :
    Calls Tryz.prog 6 #[.slice (some ⟨z, 0, none⟩) 1 c] w (BoolP w (fitB a)) := by
  have := fits_any w [a] (some ⟨z, 0, none⟩) c (fun _ => ca) (by simp) (fun _ => ⟨z, 0, rfl, hzl, fun i hi => by
      have h0 : i = 0 := by simpa using hi
      subst h0
      exact hz⟩)
    (fun i hi => by
      have h0 : i = 0 := by simpa using hi
      subst h0
      exact ha) hTB
  simpa using this

theorem one_cells {w : World} {b : Nat} {c0 c1 c2 c3 c4 c5 : Value} {t : TypeId} (h : w.heap[b]? = some (.cells #[c0, c1, c2, c3, c4, c5] t)) : CellsAt w b 0 [c0, c1, c2, c3, c4, c5] := by
  intro j hj
  simp only [List.length_cons, List.length_nil] at hj
  match j, hj with
  | 0, _ | 1, _ | 2, _ | 3, _ | 4, _ | 5, _ => simp [World.cell?, h]

/-- A path in memory is the row of an array. -/
theorem rep_path {w : World} {p : List V} {s : List Stp} (hs : p = s.map Stp.v) (hsm : ∀ x ∈ s, x.small) (hl : p.length ≤ 1000) {pa : Option Addr} {pn pc : Nat} (h : PathS w (· < w.heap.size) p (.slice pa pn pc)) :
    pn = p.length ∧ RepV w w.heap.size (.mk 5 0 ⟨#[]⟩ p [] []) [.int .i64 5, .int .i64 0, .string ⟨#[]⟩, .slice pa p.length pc, .slice none 0 0, .slice none 0 0] := by
  obtain ⟨la, lc, e, hlc, hc⟩ := h
  injection e with e1 e2 e3
  subst e1 e2 e3
  refine ⟨rfl, rep_array (C := fun i => if h : i < p.length then keyC p[i] else []) (by omega) (fun h0 => ?_) (fun i hi => ?_) hlc⟩
  · obtain ⟨b, o, e, hb, hcel⟩ := hc h0
    exact ⟨b, o, e, hb, fun i hi => by rw [dif_pos hi]; exact hcel i hi⟩
  · rw [dif_pos hi]
    subst hs
    have hi' : i < s.length := by simpa using hi
    rw [List.getElem_map]
    exact key_rep (hsm _ (List.getElem_mem hi'))

set_option maxHeartbeats 4000000 in
set_option maxRecDepth 100000 in
theorem fnSetOld_any (w : World) (v : V) (cv : List Value) (hv : RepV w w.heap.size v cv) (m : Nat) (hm : m < 65536) (hTB : TabsB w w.heap.size) :
    Calls Tryz.prog 4 #[.agg cv.toArray, .int .u16 (m : Int)] w (Yes w) := by
  have Za := Lib.hid fun (w' : World) (h : Below w.heap.size w w') => zz1_any w' v cv (hv.carry h h.size)
  have Fi := Lib.hid fun (w' : World) (h : Below w.heap.size w w') z hz hzl c => fits1_any w' v cv (hv.carry h h.size) z hz hzl (hTB.carry h h.size) c
  have Gs : Hid (fitB v = true → Good v) := Lib.hid fun h => fit_good h
  have Zs : Hid (fitB v = true → sizeV v ≤ 400) := Lib.hid fun h => fit_size h
  have Hv := Lib.hid fun (w' : World) (h : Below w.heap.size w w') => hv.carry h h.size
  generalize fitB v = fb at *
  obtain ⟨k, h, t, la, ka, va, nl, cl, nk, ck, nv, cv, rfl⟩ := hv.shape
  clear hv hTB
  go_enter Tryz.func4, Tryz.ntmps4
  go_wp2_with fail
  have hbW := below_alloc1 w (.cells #[.int .i64 k, .int .i64 h, .string t, .slice la nl cl, .slice ka nk ck, .slice va nv cv] 26)
  have hx0 := at_alloc w (.cells #[.int .i64 k, .int .i64 h, .string t, .slice la nl cl, .slice ka nk ck, .slice va nv cv] 26)
  have hsW := size_alloc1 w (.cells #[.int .i64 k, .int .i64 h, .string t, .slice la nl cl, .slice ka nk ck, .slice va nv cv] 26)
  refine (Za.out _ hbW).mono ?_
  generalize w.alloc _ = W at *
  rintro e w1 ⟨⟨za, rfl⟩, hw1⟩
  have hs1 : w.heap.size + 1 ≤ w1.heap.size := by have := hw1.size; omega
  have y0 := (hw1.block w.heap.size (by omega)).trans hx0
  have hb1 : Below w.heap.size w w1 := hbW.trans (hw1.mono (by omega))
  clear hw1 hbW hx0 hsW
  cases za with
  | false =>
    go_wp2_with fail
    go_ret
    exact ⟨rfl, hb1⟩
  | true =>
  obtain ⟨a0, a1, a2, a3, a4, a5⟩ := of_block6 y0
  go_wp2_with fail
  have hbX := below_alloc1 w1 (.cells #[.int .i64 k, .int .i64 h, .string t, .slice la nl cl, .slice ka nk ck, .slice va nv cv] 26)
  have hsX := size_alloc1 w1 (.cells #[.int .i64 k, .int .i64 h, .string t, .slice la nl cl, .slice ka nk ck, .slice va nv cv] 26)
  have hxX := at_alloc w1 (.cells #[.int .i64 k, .int .i64 h, .string t, .slice la nl cl, .slice ka nk ck, .slice va nv cv] 26)
  have hcX := one_cells hxX
  refine (Fi.out _ (hb1.trans (hbX.mono (by omega))) _ hcX (by omega) _).mono ?_
  rintro e w2 ⟨rfl, hw2⟩
  have hb2 : Below w1.heap.size w1 w2 := hbX.trans (hw2.mono (by omega))
  have hs2 := hb2.size
  have hbw2 : Below w.heap.size w w2 := hb1.trans (hb2.mono (by omega))
  have y2 := (hb2.block w.heap.size (by omega)).trans y0
  clear hbX hsX hxX hcX hw2 y0 a0 a1 a2 a3 a4 a5 Fi Za
  cases fb with
  | false =>
    go_wp2_with fail
    go_ret
    exact ⟨rfl, hbw2⟩
  | true =>
  have gv := Gs.out rfl
  have hz := Zs.out rfl
  clear Gs Zs
  obtain ⟨a0, a1, a2, a3, a4, a5⟩ := of_block6 y2
  go_wp2_with fail
  refine (ways_any w2 w2.heap.size w2 v _ (Hv.out w2 hbw2) gv (Below.refl _ _) (Nat.le_refl _) hz).mono ?_
  rintro e w3 ⟨ou, rfl, hw3, hpa⟩
  have hs3 := hw3.size
  have hbw3 : Below w.heap.size w w3 := hbw2.trans (hw3.mono (by omega))
  have y3 := (hw3.block w.heap.size (by omega)).trans y2
  clear a0 a1 a2 a3 a4 a5 y2
  obtain ⟨pla, plc, C, rfl, _, hpc, hpp⟩ := hpa
  have hpos : 0 < ((spotsV [] v).map (·.1)).length := by rw [List.length_map]; exact spotsV_pos [] v
  obtain ⟨pb, rfl, hpb, hcel⟩ := hpc hpos
  have hmle := spotsV_len [] v
  obtain ⟨L, hL⟩ : ∃ L, L = ((spotsV [] v).map (·.1)).length := ⟨_, rfl⟩
  obtain ⟨i, hi⟩ : ∃ i, i = m % L := ⟨_, rfl⟩
  have hiL : i < L := by rw [hi]; exact Nat.mod_lt _ (by omega)
  have hi2 : i < (spotsV [] v).length := by rw [hL, List.length_map] at hiL; exact hiL
  obtain ⟨q, y, hq, hway⟩ : ∃ q y, ((spotsV [] v).map (·.1))[i]? = some q ∧ WayTo v q y := by
    refine ⟨(spotsV [] v)[i].1, (spotsV [] v)[i].2, by simp [hi2], ?_⟩
    obtain ⟨r, e, hw⟩ := spotsV_way [] v _ _ (List.getElem_mem hi2)
    have e2 : (spotsV [] v)[i].1 = r := e
    rw [e2]
    exact hw
  have hps : PathS w3 (· < w3.heap.size) q (C i) := by
    have := hpp i (by rw [← hL]; exact hiL)
    rw [List.getElem?_eq_getElem (by rw [← hL]; exact hiL)] at hq
    rwa [Option.some.inj hq] at this
  have hci := hcel i (by rw [← hL]; exact hiL)
  have hshort := hway.short
  obtain ⟨pa, pc, epq, hlpc, _⟩ := id hps
  rw [epq] at hci hps
  have hL400 : L ≤ 400 := by rw [hL, List.length_map]; omega
  have hLp : 0 < L := by omega
  rw [← hL]
  have em : (m : Int).tmod (L : Int) = (i : Int) := by rw [hi]; rfl
  have hLz : ¬ ((L : Int) = 0) := by omega
  have hi3 : (i : Int) < (L : Int) := by omega
  have Hway := Lib.hid hway
  have Hps := Lib.hid hps
  have Y3 := Lib.hid y3
  clear hpc hpp hcel hq hps epq hway hmle hpos hi hi2 hL y3
  go_wp2_with fail
  refine (larray_any pa q.length pc w3).mono ?_
  rintro e w4 ⟨rfl, hw4⟩
  have hs4 := hw4.size
  have hbw4 : Below w.heap.size w w4 := hbw3.trans (hw4.mono (by omega))
  have y4 := (hw4.block w.heap.size (by omega)).trans Y3.out
  obtain ⟨a0, a1, a2, a3, a4, a5⟩ := of_block6 y4
  have hbX := below_alloc1 w4 (.cells #[.int .i64 5, .int .i64 0, .string ⟨#[]⟩, .slice pa q.length pc, .slice none 0 0, .slice none 0 0] 26)
  have hsX := size_alloc1 w4 (.cells #[.int .i64 5, .int .i64 0, .string ⟨#[]⟩, .slice pa q.length pc, .slice none 0 0, .slice none 0 0] 26)
  have hxX := at_alloc w4 (.cells #[.int .i64 5, .int .i64 0, .string ⟨#[]⟩, .slice pa q.length pc, .slice none 0 0, .slice none 0 0] 26)
  clear hci em
  go_upto_region 7 with fail
  generalize w4.alloc _ = X at *
  have hbwX : Below w.heap.size w X := hbw4.trans (hbX.mono (by omega))
  have yX := (hbX.block w.heap.size (by omega)).trans y4
  clear a0 a1 a2 a3 a4 a5
  obtain ⟨a0, a1, a2, a3, a4, a5⟩ := of_block6 yX
  obtain ⟨c0, c1, c2, c3, c4, c5⟩ := of_block6 hxX
  obtain ⟨ss, hqs, hss⟩ := stps_of Hway.out
  have hsm : ∀ x ∈ ss, x.small := by
    intro x hx
    cases x with
    | key kx => exact rep_way Hway.out (Hv.out w2 hbw2) kx (by rw [hqs]; exact List.mem_map.2 ⟨_, hx, rfl⟩)
    | idx nx => exact Nat.le_of_lt (Nat.lt_of_lt_of_le (hss nx hx) (by omega))
  have hq1000 : q.length ≤ 1000 := by omega
  obtain ⟨_, hpR⟩ := rep_path hqs hsm hq1000 (Hps.out.turn (S' := (· < X.heap.size)) fun z hz => ⟨(hbX.block z (by have : z < w3.heap.size := hz; omega)).trans (hw4.block z hz), by have : z < w3.heap.size := hz; show z < X.heap.size; omega⟩)
  have HpR := Lib.hid hpR
  obtain ⟨gy, gp⟩ := way_good Hway.out gv hz
  have hgp := way_path Hway.out gv
  have hget := implGet_any (Hv.out X hbwX) hpR gv gp (by rw [hgp]; intro e; cases e) X (Below.refl _ _) (Nat.le_refl _)
  rw [hgp] at hget
  have Hget := Lib.hid hget
  clear hget hpR hss hsm gp hgp hqs hq1000 gy
  go_wp2_with fail
  refine Hget.out.mono ?_
  rintro e w5 hres
  obtain ⟨k1, h1, t1, la1, ka1, va1, nl1, cl1, nk1, ck1, nv1, cv1, n1, rfl, hG, hw5⟩ := hres.from (Below.refl _ _)
  obtain ⟨rfl, hyR⟩ := hG.1 y rfl
  have hs5 := hw5.size
  have hbw5 : Below w.heap.size w w5 := hbwX.trans (hw5.mono (by omega))
  have z0 := (hw5.block w.heap.size (by omega)).trans yX
  have z6 := (hw5.block w4.heap.size (by omega)).trans hxX
  have HyR := Lib.hid hyR
  clear hres hG hyR a0 a1 a2 a3 a4 a5 c0 c1 c2 c3 c4 c5 Hget
  have hbZ := below_alloc1 w5 (.cells #[.int .i64 k1, .int .i64 h1, .string t1, .slice la1 nl1 cl1, .slice ka1 nk1 ck1, .slice va1 nv1 cv1, .int .i64 0] 35)
  have hsZ := size_alloc1 w5 (.cells #[.int .i64 k1, .int .i64 h1, .string t1, .slice la1 nl1 cl1, .slice ka1 nk1 ck1, .slice va1 nv1 cv1, .int .i64 0] 35)
  have hxZ := at_alloc w5 (.cells #[.int .i64 k1, .int .i64 h1, .string t1, .slice la1 nl1 cl1, .slice ka1 nk1 ck1, .slice va1 nv1 cv1, .int .i64 0] 35)
  go_upto_region 8 with fail
  generalize w5.alloc _ = Z at *
  have hbwZ : Below w.heap.size w Z := hbw5.trans (hbZ.mono (by omega))
  have v0 := (hbZ.block w.heap.size (by omega)).trans z0
  have v6 := (hbZ.block w4.heap.size (by omega)).trans z6
  have hold : ∀ w', Below Z.heap.size Z w' → (fun w' : World => w'.cell? ⟨w.heap.size, 0, none⟩ = some (.int .i64 k) ∧ w'.cell? ⟨w.heap.size, 1, none⟩ = some (.int .i64 h) ∧ w'.cell? ⟨w.heap.size, 2, none⟩ = some (.string t) ∧ w'.cell? ⟨w.heap.size, 3, none⟩ = some (.slice la nl cl) ∧ w'.cell? ⟨w.heap.size, 4, none⟩ = some (.slice ka nk ck) ∧ w'.cell? ⟨w.heap.size, 5, none⟩ = some (.slice va nv cv) ∧ w'.cell? ⟨w4.heap.size, 0, none⟩ = some (.int .i64 5) ∧ w'.cell? ⟨w4.heap.size, 1, none⟩ = some (.int .i64 0) ∧ w'.cell? ⟨w4.heap.size, 2, none⟩ = some (.string ⟨#[]⟩) ∧ w'.cell? ⟨w4.heap.size, 3, none⟩ = some (.slice pa q.length pc) ∧ w'.cell? ⟨w4.heap.size, 4, none⟩ = some (.slice none 0 0) ∧ w'.cell? ⟨w4.heap.size, 5, none⟩ = some (.slice none 0 0) ∧ w'.cell? ⟨w5.heap.size, 0, none⟩ = some (.int .i64 k1) ∧ w'.cell? ⟨w5.heap.size, 1, none⟩ = some (.int .i64 h1) ∧ w'.cell? ⟨w5.heap.size, 2, none⟩ = some (.string t1) ∧ w'.cell? ⟨w5.heap.size, 3, none⟩ = some (.slice la1 nl1 cl1) ∧ w'.cell? ⟨w5.heap.size, 4, none⟩ = some (.slice ka1 nk1 ck1) ∧ w'.cell? ⟨w5.heap.size, 5, none⟩ = some (.slice va1 nv1 cv1) ∧ w'.cell? ⟨w5.heap.size, 6, none⟩ = some (.int .i64 0) ∧ Below Z.heap.size Z w') w' := by
    intro w' hw
    obtain ⟨a0, a1, a2, a3, a4, a5⟩ := of_block6 ((hw.block w.heap.size (by omega)).trans v0)
    obtain ⟨c0, c1, c2, c3, c4, c5⟩ := of_block6 ((hw.block w4.heap.size (by omega)).trans v6)
    obtain ⟨d0, d1, d2, d3, d4, d5, d6⟩ := of_block7 ((hw.block w5.heap.size (by omega)).trans hxZ)
    exact ⟨a0, a1, a2, a3, a4, a5, c0, c1, c2, c3, c4, c5, d0, d1, d2, d3, d4, d5, d6, hw⟩
  have Hold := Lib.hid hold
  obtain ⟨a0, a1, a2, a3, a4, a5, c0, c1, c2, c3, c4, c5, d0, d1, d2, d3, d4, d5, d6, hw⟩ := hold _ (Below.refl Z.heap.size Z)
  have hXZ : Below X.heap.size X Z := hw5.trans (hbZ.mono (by omega))
  have hset := fun w' (hb : Below Z.heap.size Z w') => setOld_set (Hv.out Z hbwZ) (HpR.out.carry hXZ hXZ.size) (HyR.out.carry hbZ hbZ.size) gv hz Hway.out w' hb hb.size
  have Se : Hid (∀ w', Below Z.heap.size Z w' → Calls Tryz.prog 13 #[.agg #[.int .i64 k, .int .i64 h, .string t, .slice la nl cl, .slice ka nk ck, .slice va nv cv], .agg #[.int .i64 5, .int .i64 0, .string ⟨#[]⟩, .slice pa q.length pc, .slice none 0 0, .slice none 0 0], .agg #[.int .i64 k1, .int .i64 h1, .string t1, .slice la1 nl1 cl1, .slice ka1 nk1 ck1, .slice va1 nv1 cv1]] w' (GotFrom Z (.fine v))) :=
    Lib.hid fun w' hb => (hset w' hb).mono fun e w'' h => h.from hb
  have Gi : Hid (∀ (k2 h2 n2 : Int) (t2 : ByteArray) (la2 ka2 va2 : Option Addr) (nl2 cl2 nk2 ck2 nv2 cv2 : Nat) (w' : World), Got w' (.fine v) k2 h2 t2 la2 ka2 va2 nl2 cl2 nk2 ck2 nv2 cv2 n2 → Below Z.heap.size Z w' →
      Calls Tryz.prog 12 #[.agg #[.int .i64 k2, .int .i64 h2, .string t2, .slice la2 nl2 cl2, .slice ka2 nk2 ck2, .slice va2 nv2 cv2, .int .i64 n2], .agg #[.int .i64 k, .int .i64 h, .string t, .slice la nl cl, .slice ka nk ck, .slice va nv cv]] w' fun e w'' => e = .returned (.bool true) ∧ Below Z.heap.size Z w'') :=
    Lib.hid fun k2 h2 n2 t2 la2 ka2 va2 nl2 cl2 nk2 ck2 nv2 cv2 w' hR hb => (given_any gv hR (Hv.out w' (hbwZ.trans (hb.mono hbwZ.size)))).mono fun e w'' h => ⟨h.1, hb.trans (h.2.mono hb.size)⟩
  have HBZ := Lib.hid hbwZ
  have h5 := Below.refl Z.heap.size Z
  have g31 : ((0 : Int) == 0) = true := by decide
  clear hset hold hw v0 v6 hbZ hxZ hsZ z0 z6 HyR HpR hbw5 hw5 yX hxX hsX hbX hbwX Hv Hway Hps Y3 y4 hw3 hw4 hb2 hbw2 hbw3 hbw4 hb1
  go_region_held3 (fun w' : World => w'.cell? ⟨w.heap.size, 0, none⟩ = some (.int .i64 k) ∧ w'.cell? ⟨w.heap.size, 1, none⟩ = some (.int .i64 h) ∧ w'.cell? ⟨w.heap.size, 2, none⟩ = some (.string t) ∧ w'.cell? ⟨w.heap.size, 3, none⟩ = some (.slice la nl cl) ∧ w'.cell? ⟨w.heap.size, 4, none⟩ = some (.slice ka nk ck) ∧ w'.cell? ⟨w.heap.size, 5, none⟩ = some (.slice va nv cv) ∧ w'.cell? ⟨w4.heap.size, 0, none⟩ = some (.int .i64 5) ∧ w'.cell? ⟨w4.heap.size, 1, none⟩ = some (.int .i64 0) ∧ w'.cell? ⟨w4.heap.size, 2, none⟩ = some (.string ⟨#[]⟩) ∧ w'.cell? ⟨w4.heap.size, 3, none⟩ = some (.slice pa q.length pc) ∧ w'.cell? ⟨w4.heap.size, 4, none⟩ = some (.slice none 0 0) ∧ w'.cell? ⟨w4.heap.size, 5, none⟩ = some (.slice none 0 0) ∧ w'.cell? ⟨w5.heap.size, 0, none⟩ = some (.int .i64 k1) ∧ w'.cell? ⟨w5.heap.size, 1, none⟩ = some (.int .i64 h1) ∧ w'.cell? ⟨w5.heap.size, 2, none⟩ = some (.string t1) ∧ w'.cell? ⟨w5.heap.size, 3, none⟩ = some (.slice la1 nl1 cl1) ∧ w'.cell? ⟨w5.heap.size, 4, none⟩ = some (.slice ka1 nk1 ck1) ∧ w'.cell? ⟨w5.heap.size, 5, none⟩ = some (.slice va1 nv1 cv1) ∧ w'.cell? ⟨w5.heap.size, 6, none⟩ = some (.int .i64 0) ∧ Below Z.heap.size Z w')
    (first | exact Hold.out _ (by assumption) | exact Hold.out _ (Below.drew (by assumption)))
    (first
      | (go_at_call 13; go_split_ands; refine (Se.out _ (by assumption)).mono ?_; rintro e w6 ⟨k2, h2, t2, la2, ka2, va2, nl2, cl2, nk2, ck2, nv2, cv2, n2, rfl, hR, hw6⟩)
      | (go_at_call 12; go_split_ands; refine (Gi.out _ _ _ _ _ _ _ _ _ _ _ _ _ _ (by assumption) (by assumption)).mono ?_; rintro e w7 ⟨rfl, hw7⟩))
  all_goals
    go_wp2_with fail
    go_split_ands
    go_ret
    exact ⟨rfl, HBZ.out.trans (Below.mono (by assumption) HBZ.out.size)⟩

end Go.Proofs.YtiphcojcdegnkaaGreatDoor

namespace Go.Proofs.YtiphcojcdegnkaaGreatDoor
open Go Go.RowKit

theorem spot_none {w : World} {a : Addr} {v : Value} (h : w.cell? a = some v) : a.spot = none ∧ a.block < w.heap.size := by
  unfold World.cell? at h
  split at h
  · rename_i hb
    split at h
    · cases h
    · rename_i hs
      refine ⟨by simpa using hs, ?_⟩
      exact (Array.getElem?_eq_some_iff.1 hb).1
  · cases h

theorem add_none (b o i : Nat) : (⟨b, o, none⟩ : Addr).add i = ⟨b, o + i, none⟩ := by
  unfold Addr.add
  split
  · subst_vars; rfl
  · rfl

theorem weights_mem_all {H : Type} {P : Program} {e : TypeId} : ∀ {l : List (DataW H)} {i : Nat} {d : DataW H}, l[i]? = some d → ∀ n ∈ d.weights P e, n ∈ DataW.weightsAll P e l
  | [], _, _, h, _, _ => by simp at h
  | d0 :: r, 0, d, h, n, hn => by
    simp only [List.getElem?_cons_zero, Option.some.injEq] at h
    subst h
    simp only [DataW.weightsAll, List.mem_append]
    exact .inl hn
  | d0 :: r, i + 1, d, h, n, hn => by
    simp only [List.getElem?_cons_succ] at h
    simp only [DataW.weightsAll, List.mem_append]
    exact .inr (weights_mem_all h n hn)

theorem cells_value : Tryz.prog.cellsOf 26 = 6 := by kernel_rfl
theorem cells_string : Tryz.prog.cellsOf 9 = 1 := by kernel_rfl
theorem bytes_value : Tryz.prog.bytesOf 26 = 104 := by kernel_rfl
theorem bytes_string : Tryz.prog.bytesOf 9 = 16 := by kernel_rfl
theorem cells_kind : Tryz.prog.cellsOf 22 = 1 := by kernel_rfl
theorem cells_int : Tryz.prog.cellsOf 3 = 1 := by kernel_rfl
theorem cells_values : Tryz.prog.cellsOf 23 = 1 := by kernel_rfl
theorem cells_strings : Tryz.prog.cellsOf 24 = 1 := by kernel_rfl

section
variable {H : Type} {enc : TypeId × Value → H} {W : World} {sp : Nat → Bool}

theorem rows_of {n len : Nat} {a : Addr} {elems : List (DataW H × List MemPlace)} (hlen : elems.length = len)
    (hel : ∀ i, i < len → (W.cells? 0 (a.add (i * 6)) 6).bind (DataW.trod enc Tryz.prog W 0 sp true n 26) = elems[i]?)
    (ih : ∀ (i : Nat) (e : DataW H × List MemPlace), elems[i]? = some e → ∀ cs, DataW.trod enc Tryz.prog W 0 sp true n 26 cs = some e → ∃ v, RepV W W.heap.size v cs) :
    ∃ (l : List V) (C : Nat → List Value), l.length = len ∧ (0 < len → ∃ b o, a = ⟨b, o, none⟩ ∧ b < W.heap.size ∧ ∀ i, i < len → CellsAt W b (o + i * 6) (C i)) ∧
      ∀ i (hi : i < l.length), RepV W W.heap.size l[i] (C i) := by
  have each : ∀ i : Fin len, ∃ p : V × List Value, W.cells? 0 (a.add (i.1 * 6)) 6 = some p.2 ∧ RepV W W.heap.size p.1 p.2 := by
    intro i
    have h1 := hel i.1 i.2
    have h2 : elems[i.1]? = some (elems[i.1]'(by rw [hlen]; exact i.2)) := List.getElem?_eq_getElem _
    rw [h2, Option.bind_eq_some_iff] at h1
    obtain ⟨cs, hc, ht⟩ := h1
    obtain ⟨v, hv⟩ := ih i.1 _ h2 cs ht
    exact ⟨(v, cs), hc, hv⟩
  obtain ⟨F, hF⟩ := Classical.axiomOfChoice each
  refine ⟨List.ofFn fun i => (F i).1, fun i => if h : i < len then (F ⟨i, h⟩).2 else [], by simp, fun h0 => ?_, fun i hi => ?_⟩
  · obtain ⟨_, h6, hc⟩ := World.cells?_some (hF ⟨0, h0⟩).1
    have c0 := hc 0 (by omega)
    rw [List.getElem?_eq_getElem (by omega)] at c0
    simp [Addr.add] at c0
    obtain ⟨s0, hb⟩ := spot_none c0
    refine ⟨a.block, a.off, ?_, hb, fun i hi => ?_⟩
    · obtain ⟨b, o, s⟩ := a
      simp only at s0
      rw [s0]
    · have ea : a = ⟨a.block, a.off, none⟩ := by
        obtain ⟨b, o, s⟩ := a
        simp only at s0
        rw [s0]
      obtain ⟨_, h6, hc⟩ := World.cells?_some (hF ⟨i, hi⟩).1
      intro j hj
      simp only [dif_pos hi] at hj ⊢
      have := hc j (by omega)
      rw [ea, add_none, add_none, List.getElem?_eq_getElem (by omega)] at this
      exact this
  · have hi' : i < len := by simpa using hi
    simp only [List.getElem_ofFn, dif_pos hi']
    exact (hF ⟨i, hi'⟩).2

theorem keys_of {n len : Nat} {a : Addr} {elems : List (DataW H × List MemPlace)} (hlen : elems.length = len)
    (hel : ∀ i, i < len → (W.cells? 0 (a.add (i * 1)) 1).bind (DataW.trod enc Tryz.prog W 0 sp true n 9) = elems[i]?)
    (hw : ∀ (i : Nat) (e : DataW H × List MemPlace), elems[i]? = some e → ∀ m ∈ e.1.weights Tryz.prog 9, m ≤ reachBytes) :
    ∃ (l : List ByteArray), l.length = len ∧ (0 < len → ∃ b o, a = ⟨b, o, none⟩ ∧ b < W.heap.size ∧ ∀ i (hi : i < l.length), W.cell? ⟨b, o + i, none⟩ = some (.string l[i])) ∧
      ∀ s ∈ l, s.size ≤ 140737488351232 := by
  have each : ∀ i : Fin len, ∃ s : ByteArray, W.cells? 0 (a.add (i.1 * 1)) 1 = some [.string s] ∧ s.size ≤ 140737488351232 := by
    intro i
    have h1 := hel i.1 i.2
    have h2 : elems[i.1]? = some (elems[i.1]'(by rw [hlen]; exact i.2)) := List.getElem?_eq_getElem _
    rw [h2, Option.bind_eq_some_iff] at h1
    obtain ⟨cs, hc, ht⟩ := h1
    obtain ⟨s, rfl, e, _⟩ := DataW.trod_string Tryz.underlying9 ht
    refine ⟨s, hc, ?_⟩
    have := hw i.1 _ h2 s.size (by rw [e]; simp [DataW.weights])
    exact this
  obtain ⟨F, hF⟩ := Classical.axiomOfChoice each
  refine ⟨List.ofFn fun i => F i, by simp, fun h0 => ?_, fun s hs => ?_⟩
  · have c0 := (World.cells?_some (hF ⟨0, h0⟩).1).2.2 0 (by omega)
    have c0 : W.cell? a = some (.string (F ⟨0, h0⟩)) := by simpa [Addr.add] using c0
    obtain ⟨s0, hb⟩ := spot_none c0
    have ea : a = ⟨a.block, a.off, none⟩ := by
      obtain ⟨b, o, s⟩ := a
      simp only at s0
      rw [s0]
    refine ⟨a.block, a.off, ea, hb, fun i hi => ?_⟩
    have hi' : i < len := by simpa using hi
    have := (World.cells?_some (hF ⟨i, hi'⟩).1).2.2 0 (by omega)
    rw [ea, add_none, add_none, Nat.mul_one, Nat.add_zero] at this
    simpa using this
  · obtain ⟨i, rfl⟩ := List.mem_ofFn.1 hs
    exact (hF i).2

set_option maxRecDepth 10000 in
theorem rep_of_trod : ∀ (fuel : Nat) (cs : List Value) (x : DataW H × List MemPlace), DataW.trod enc Tryz.prog W 0 sp true fuel 26 cs = some x →
    (∀ m ∈ x.1.weights Tryz.prog 26, m ≤ reachBytes) → ∃ v, RepV W W.heap.size v cs := by
  intro fuel
  induction fuel using Nat.strongRecOn with
  | _ fuel ih =>
  intro cs x htr hw
  obtain ⟨xs, n, rfl, hx, h6, hlen, hf⟩ := DataW.trod_struct Tryz.underlying26 htr
  rw [cells_value] at h6
  match cs, h6 with
  | [c0, c1, c2, c3, c4, c5], _ =>
  match xs, hlen with
  | [x0, x1, x2, x3, x4, x5], _ =>
  have f0 : DataW.trod enc Tryz.prog W 0 sp true n 22 (([c0, c1, c2, c3, c4, c5].drop 0).take (Tryz.prog.cellsOf 22)) = some x0 := hf 0 _ rfl
  rw [cells_kind] at f0
  have f1 : DataW.trod enc Tryz.prog W 0 sp true n 3 (([c0, c1, c2, c3, c4, c5].drop 1).take (Tryz.prog.cellsOf 3)) = some x1 := hf 1 _ rfl
  rw [cells_int] at f1
  have f2 : DataW.trod enc Tryz.prog W 0 sp true n 9 (([c0, c1, c2, c3, c4, c5].drop 2).take (Tryz.prog.cellsOf 9)) = some x2 := hf 2 _ rfl
  rw [cells_string] at f2
  have f3 : DataW.trod enc Tryz.prog W 0 sp true n 23 (([c0, c1, c2, c3, c4, c5].drop 3).take (Tryz.prog.cellsOf 23)) = some x3 := hf 3 _ rfl
  rw [cells_values] at f3
  have f4 : DataW.trod enc Tryz.prog W 0 sp true n 24 (([c0, c1, c2, c3, c4, c5].drop 4).take (Tryz.prog.cellsOf 24)) = some x4 := hf 4 _ rfl
  rw [cells_strings] at f4
  have f5 : DataW.trod enc Tryz.prog W 0 sp true n 23 (([c0, c1, c2, c3, c4, c5].drop 5).take (Tryz.prog.cellsOf 23)) = some x5 := hf 5 _ rfl
  rw [cells_values] at f5
  have wt : ∀ (j : Nat) (t : TypeId) (d : DataW H), [22, 3, 9, 23, 24, 23][j]? = some t → [x0.1, x1.1, x2.1, x3.1, x4.1, x5.1][j]? = some d →
      ∀ m ∈ d.weights Tryz.prog t, m ≤ reachBytes := by
    intro j t d ht hd m hm
    refine hw m ?_
    rw [hx]
    simp only [DataW.weights, Tryz.underlying26]
    exact DataW.weights_mem_each ht hd m hm
  obtain ⟨k, e0, _, k1⟩ := DataW.trod_int Tryz.underlying22 f0
  obtain ⟨h, e1, _, h1⟩ := DataW.trod_int Tryz.underlying3 f1
  obtain ⟨t, e2, q2, _⟩ := DataW.trod_string Tryz.underlying9 f2
  cases e0; cases e1; cases e2
  have ht : t.size ≤ 140737488351232 := wt 2 _ _ rfl rfl t.size (by rw [q2]; simp [DataW.weights])
  have hk : -9223372036854775808 ≤ k ∧ k ≤ 9223372036854775807 := by simpa [Lit.wf, IntKind.min, IntKind.max, IntKind.signed, IntKind.bits] using k1
  have hh : -9223372036854775808 ≤ h ∧ h ≤ 9223372036854775807 := by simpa [Lit.wf, IntKind.min, IntKind.max, IntKind.signed, IntKind.bits] using h1
  have list : ∀ (c : Value) (y : DataW H × List MemPlace), DataW.trod enc Tryz.prog W 0 sp true n 23 [c] = some y → (∀ m ∈ y.1.weights Tryz.prog 23, m ≤ reachBytes) →
      ∃ (l : List V) (la : Option Addr) (lc : Nat) (C : Nat → List Value), c = .slice la l.length lc ∧ l.length * 104 ≤ 140737488351232 ∧
        (0 < l.length → ∃ b o, la = some ⟨b, o, none⟩ ∧ b < W.heap.size ∧ ∀ i, i < l.length → CellsAt W b (o + i * 6) (C i)) ∧ (∀ i (hi : i < l.length), RepV W W.heap.size l[i] (C i)) ∧ l.length ≤ lc := by
    intro c y hy hwy
    rcases DataW.trod_slice Tryz.underlying23 hy with ⟨e, _⟩ | ⟨a, len, cap, elems, rest, m, rfl, e, q, _, hlc, _, hl, hel, _⟩
    · cases e
      exact ⟨[], _, _, fun _ => [], rfl, by simp, fun h0 => absurd h0 (by simp), fun i hi => absurd hi (by simp), Nat.le_refl 0⟩
    · cases e
      rw [cells_value] at hel
      have hww : ∀ (i : Nat) (e : DataW H × List MemPlace), elems[i]? = some e → ∀ m ∈ e.1.weights Tryz.prog 26, m ≤ reachBytes := by
        intro i e he m hm
        refine hwy m ?_
        rw [q]
        simp only [DataW.weights, Tryz.underlying23, List.mem_cons, List.mem_append]
        exact .inr (.inl (weights_mem_all (i := i) (by rw [List.getElem?_map, he]; rfl) m hm))
      obtain ⟨l, C, rfl, hc, hr⟩ := rows_of hl hel (fun i e he cs hcs => ih m (by omega) cs e hcs (hww i e he))
      refine ⟨l, _, _, C, rfl, ?_, fun h0 => ?_, hr, by omega⟩
      · have := hwy ((elems.length + rest.length) * 104) (by rw [q]; simp [DataW.weights, Tryz.underlying23, bytes_value])
        have e : reachBytes = 140737488351232 := rfl
        rw [hl] at this
        omega
      · obtain ⟨b, o, rfl, hb, hcs⟩ := hc h0
        exact ⟨b, o, rfl, hb, hcs⟩
  obtain ⟨l, la, lc, C, rfl, hl, cl, rl, hlc⟩ := list c3 x3 f3 (wt 3 _ _ rfl rfl)
  obtain ⟨vs, va, vc, D, rfl, hvs, cv, rv, _⟩ := list c5 x5 f5 (wt 5 _ _ rfl rfl)
  have keys : ∃ (ks : List ByteArray) (ka : Option Addr) (kc : Nat), c4 = .slice ka ks.length kc ∧ ks.length * 16 ≤ 140737488351232 ∧ (∀ s ∈ ks, s.size ≤ 140737488351232) ∧
      (0 < ks.length → ∃ b o, ka = some ⟨b, o, none⟩ ∧ b < W.heap.size ∧ ∀ i (hi : i < ks.length), W.cell? ⟨b, o + i, none⟩ = some (.string ks[i])) := by
    have hwy := wt 4 _ _ rfl rfl
    rcases DataW.trod_slice Tryz.underlying24 f4 with ⟨e, _⟩ | ⟨a, len, cap, elems, rest, m, rfl, e, q, _, _, _, hl, hel, _⟩
    · cases e
      exact ⟨[], _, _, rfl, by simp, fun s hs => absurd hs (by simp), fun h0 => absurd h0 (by simp)⟩
    · cases e
      rw [cells_string] at hel
      have hww : ∀ (i : Nat) (e : DataW H × List MemPlace), elems[i]? = some e → ∀ m ∈ e.1.weights Tryz.prog 9, m ≤ reachBytes := by
        intro i e he m hm
        refine hwy m ?_
        rw [q]
        simp only [DataW.weights, Tryz.underlying24, List.mem_cons, List.mem_append]
        exact .inr (.inl (weights_mem_all (i := i) (by rw [List.getElem?_map, he]; rfl) m hm))
      obtain ⟨ks, rfl, hc, hs⟩ := keys_of hl hel hww
      refine ⟨ks, _, _, rfl, ?_, hs, fun h0 => ?_⟩
      · have := hwy ((elems.length + rest.length) * 16) (by rw [q]; simp [DataW.weights, Tryz.underlying24, bytes_string])
        have e : reachBytes = 140737488351232 := rfl
        rw [hl] at this
        omega
      · obtain ⟨b, o, rfl, hb, hcs⟩ := hc h0
        exact ⟨b, o, rfl, hb, hcs⟩
  obtain ⟨ks, ka, kc, rfl, hks, hs, ck⟩ := keys
  exact ⟨_, .mk C D hk hh ht hl hks hvs hs cl rl ck cv rv hlc⟩
end

end Go.Proofs.YtiphcojcdegnkaaGreatDoor

namespace Go.Proofs.YtiphcojcdegnkaaGreatDoor
open Go Go.RowKit

section
variable {H : Type} {enc : TypeId × Value → H} {W : World} {sp : Nat → Bool}

theorem list_of_trod {fuel : Nat} {c : Value} {y : DataW H × List MemPlace} (hy : DataW.trod enc Tryz.prog W 0 (fun _ => true) true fuel 23 [c] = some y) (hwy : ∀ m ∈ y.1.weights Tryz.prog 23, m ≤ reachBytes) :
    ∃ (l : List V) (la : Option Addr) (lc : Nat) (C : Nat → List Value), c = .slice la l.length lc ∧ l.length * 104 ≤ 140737488351232 ∧
      (0 < l.length → ∃ b o, la = some ⟨b, o, none⟩ ∧ b < W.heap.size ∧ ∀ i, i < l.length → CellsAt W b (o + i * 6) (C i)) ∧ (∀ i (hi : i < l.length), RepV W W.heap.size l[i] (C i)) ∧ l.length ≤ lc := by
  rcases DataW.trod_slice Tryz.underlying23 hy with ⟨e, _⟩ | ⟨a, len, cap, elems, rest, m, rfl, e, q, _, hlc, _, hl, hel, _⟩
  · cases e
    exact ⟨[], _, _, fun _ => [], rfl, by simp, fun h0 => absurd h0 (by simp), fun i hi => absurd hi (by simp), Nat.le_refl 0⟩
  · cases e
    rw [cells_value] at hel
    have hww : ∀ (i : Nat) (e : DataW H × List MemPlace), elems[i]? = some e → ∀ m ∈ e.1.weights Tryz.prog 26, m ≤ reachBytes := by
      intro i e he m hm
      refine hwy m ?_
      rw [q]
      simp only [DataW.weights, Tryz.underlying23, List.mem_cons, List.mem_append]
      exact .inr (.inl (weights_mem_all (i := i) (by rw [List.getElem?_map, he]; rfl) m hm))
    obtain ⟨l, C, rfl, hc, hr⟩ := rows_of hl hel (fun i e he cs hcs => rep_of_trod m cs e hcs (hww i e he))
    refine ⟨l, _, _, C, rfl, ?_, fun h0 => ?_, hr, by omega⟩
    · have := hwy ((elems.length + rest.length) * 104) (by rw [q]; simp [DataW.weights, Tryz.underlying23, bytes_value])
      have e : reachBytes = 140737488351232 := rfl
      rw [hl] at this
      omega
    · obtain ⟨b, o, rfl, hb, hcs⟩ := hc h0
      exact ⟨b, o, rfl, hb, hcs⟩
end

end Go.Proofs.YtiphcojcdegnkaaGreatDoor
