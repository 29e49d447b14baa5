/- Contracts of spec.place, Get, Has, Whole. -/
/- Contract of spec.bounds. -/
import Derived.Test.YtiphcojcdegnkaaGreatDoorM01
import Derived.Test.YtiphcojcdegnkaaGreatDoorM07
import Derived.Test.YtiphcojcdegnkaaGreatDoorM08
import Derived.WalkLawsBesides
import Derived.BigQuiet
import Derived.Test.YtiphcojcdegnkaaGreatDoorM06
import Derived.Deep.RegionHeld3
import Derived.Deep.DeepCutAuto
import Derived.Deep.CutBlock
namespace Go.Proofs.YtiphcojcdegnkaaGreatDoor
open Go Go.RowKit Go.Maps Go.Deep

def PlaceLoop (W : World) (ks : List ByteArray) (x : ByteArray) (i : Value) (wr : World) : Prop := ∃ n : Nat, n ≤ placeI ks x ∧ i = .int .i64 (n : Nat) ∧ Below W.heap.size W wr

set_option maxHeartbeats 2000000 in
set_option maxRecDepth 100000 in
theorem place_any (w : World) (k h : Int) (t : ByteArray) (la ka va : Option Addr) (nl cl nv cv kc : Nat) (ks : List ByteArray) (x : ByteArray) (hl : ks.length * 16 ≤ 140737488351232)
    (ck : 0 < ks.length → ∃ b o, ka = some ⟨b, o, none⟩ ∧ b < w.heap.size ∧ ∀ i (hi : i < ks.length), w.cell? ⟨b, o + i, none⟩ = some (.string ks[i])) :
    Calls Tryz.prog 41 #[.agg #[.int .i64 k, .int .i64 h, .string t, .slice la nl cl, .slice ka ks.length kc, .slice va nv cv], .string x] w
      fun e w' => e = .returned (.tuple #[.int .i64 (placeI ks x : Nat), .bool (hasK ks x)]) ∧ Below w.heap.size w w' := by
  have Hck := Lib.hid ck; clear ck
  obtain ⟨W, hW⟩ : ∃ W, W = w.alloc (.cells #[.int .i64 k, .int .i64 h, .string t, .slice la nl cl, .slice ka ks.length kc, .slice va nv cv] 26) := ⟨_, rfl⟩
  have hWs : W.heap.size = w.heap.size + 1 := by rw [hW]; simp
  have hbW : Below w.heap.size w W := by rw [hW]; exact below_alloc1 _ _
  have hat : W.heap[w.heap.size]? = some (.cells #[.int .i64 k, .int .i64 h, .string t, .slice la nl cl, .slice ka ks.length kc, .slice va nv cv] 26) := by rw [hW]; exact at_alloc _ _
  have Hat := Lib.hid hat; clear hat
  have hle := placeI_le ks x
  go_enter Tryz.func41, Tryz.ntmps41
  go_wp2_with fail
  rw [← hW]
  have HW := Lib.hid hW; clear hW
  go_loopw [6] (fun i wr => PlaceLoop W ks x i wr) (fun i _ => ks.length - (intOf i).toNat)
  case atStart => exact ⟨0, Nat.zero_le _, rfl, Below.refl _ _⟩
  case round =>
    obtain ⟨n, hn, rfl, hb⟩ := hrel
    have hbw : Below w.heap.size w wr := hbW.trans (hb.mono (by omega))
    obtain ⟨a0, a1, a2, a3, a4, a5⟩ := of_block6 ((hb.block w.heap.size (by omega)).trans Hat.out)
    by_cases hn' : n < ks.length
    · obtain ⟨kb, ko, rfl, hkb, hcel⟩ := Hck.out (by omega)
      have y := (hbw.cell (p := ⟨kb, ko + n, none⟩) hkb).trans (hcel n hn')
      have u1 : (n : Int) < (ks.length : Int) := by omega
      have u2 : (0 : Int) ≤ (n : Int) := by omega
      cases hlt : Op.bytesLess ks[n].toList x.toList with
      | true =>
        have hn2 : n + 1 ≤ placeI ks x := by
          rcases Nat.lt_or_ge n (placeI ks x) with h1 | h1
          · exact h1
          · have e : placeI ks x = n := by omega
            have := placeI_not (ks := ks) (x := x) (by omega)
            simp only [e] at this
            rw [this] at hlt
            cases hlt
        have Hn2 := Lib.hid hn2; clear hn2
        clear hcel
        generalize ks[n] = y0 at *
        go_wp2_with fail
        go_roundw
        case rel => exact ⟨n + 1, Hn2.out, by go_num, hb⟩
        case measure => simp [intOf]; omega
      | false =>
        have e : placeI ks x = n := by
          rcases Nat.lt_or_ge n (placeI ks x) with h1 | h1
          · have := placeI_less h1
            rw [this] at hlt
            cases hlt
          · omega
        have hk : hasK ks x = (ks[n].toList == x.toList) := by
          unfold hasK
          rw [e, List.getElem?_eq_getElem hn']
        have Hr := Lib.hid (show Ending.returned (.tuple #[.int .i64 (placeI ks x : Nat), .bool (hasK ks x)]) = .returned (.tuple #[.int .i64 (n : Nat), .bool (ks[n].toList == x.toList)]) by rw [e, hk])
        clear e hk hcel
        generalize ks[n] = y0 at *
        go_wp2_with fail
        go_quiet (fail)
        go_wp2_with fail
        go_ret2
        exact ⟨by rw [Hr.out]; rfl, hbw.trans ⟨rfl, rfl, rfl, Nat.le_refl _, fun _ _ => rfl⟩⟩
    · have e : placeI ks x = n := by
        rcases Nat.lt_or_ge n (placeI ks x) with h1 | h1
        · omega
        · omega
      have hk : hasK ks x = false := by
        unfold hasK
        rw [e, List.getElem?_eq_none (by omega)]
      have Hr := Lib.hid (show Ending.returned (.tuple #[.int .i64 (placeI ks x : Nat), .bool (hasK ks x)]) = .returned (.tuple #[.int .i64 (n : Nat), .bool false]) by rw [e, hk])
      clear e hk
      have u1 : ¬ ((n : Int) < (ks.length : Int)) := by omega
      go_wp2_with fail
      go_quiet (fail)
      go_wp2_with fail
      go_ret2
      exact ⟨by rw [Hr.out]; rfl, hbw.trans ⟨rfl, rfl, rfl, Nat.le_refl _, fun _ _ => rfl⟩⟩

/-- A value of w0's memory below B, returned. -/
def ValR (w0 : World) (B : Nat) (w : World) (v : V) (e : Ending) (w' : World) : Prop :=
  ∃ (k h : Int) (t : ByteArray) (la ka va : Option Addr) (nl cl nk ck nv cv : Nat), e = .returned (.agg #[.int .i64 k, .int .i64 h, .string t, .slice la nl cl, .slice ka nk ck, .slice va nv cv]) ∧
    RepV w0 B v [.int .i64 k, .int .i64 h, .string t, .slice la nl cl, .slice ka nk ck, .slice va nv cv] ∧ Below w.heap.size w w'

theorem rep_null (w : World) (B : Nat) : RepV w B nullV [.int .i64 0, .int .i64 0, .string ⟨#[]⟩, .slice none 0 0, .slice none 0 0, .slice none 0 0] :=
  .mk (l := []) (ks := []) (vs := []) (fun _ => []) (fun _ => []) (by omega) (by omega) (Nat.zero_le _) (by simp) (by simp) (by simp) (fun s hs => by simp at hs) (fun h => by simp at h) (fun i hi => by simp at hi)
    (fun h => by simp at h) (fun h => by simp at h) (fun i hi => by simp at hi) (Nat.le_refl 0)

theorem getD_of_lt {l : List V} {n : Nat} (h : n < l.length) (d : V) : l.getD n d = l[n] := by
  rw [List.getD_eq_getElem?_getD, List.getElem?_eq_getElem h]; rfl

set_option maxHeartbeats 2000000 in
set_option maxRecDepth 100000 in
theorem get_any (w0 : World) (B : Nat) (v : V) (cs : List Value) (hv : RepV w0 B v cs) (hlen : v.keys.length = v.vals.length) (x : ByteArray) (w : World) (hbel : Below B w0 w) (hB : B ≤ w.heap.size) :
    Calls Tryz.prog 25 #[.agg cs.toArray, .string x] w (ValR w0 B w (getV v.keys v.vals x)) := by
  cases hv with
  | @mk k h t l ks vs la ka va lc kc vc C D hk hh ht hl hks hvs hs cl rl ck cv rv =>
  simp only [V.keys, V.vals] at hlen ⊢
  obtain ⟨W, hW⟩ : ∃ W, W = (w.alloc (.cells #[.int .i64 k, .int .i64 h, .string t, .slice la l.length lc, .slice ka ks.length kc, .slice va vs.length vc] 26)).alloc (.cells #[.int .i64 0, .int .i64 0, .string ⟨#[]⟩, .slice none 0 0, .slice none 0 0, .slice none 0 0] 26) := ⟨_, rfl⟩
  have hWs : W.heap.size = w.heap.size + 2 := by rw [hW]; simp
  have hbW : Below w.heap.size w W := by rw [hW]; exact below_alloc2 _ _ _
  have hat : W.heap[w.heap.size]? = some (.cells #[.int .i64 k, .int .i64 h, .string t, .slice la l.length lc, .slice ka ks.length kc, .slice va vs.length vc] 26) := by rw [hW]; exact at_alloc20 _ _ _
  have hat2 : W.heap[w.heap.size + 1]? = some (.cells #[.int .i64 0, .int .i64 0, .string ⟨#[]⟩, .slice none 0 0, .slice none 0 0, .slice none 0 0] 26) := by rw [hW]; exact at_alloc2 _ _ _
  have P := Lib.hid (place_any W k h t la ka va l.length lc vs.length vc kc ks x hks (fun h0 => by
    obtain ⟨b, o, e, hb, hc⟩ := ck h0
    exact ⟨b, o, e, by omega, fun i hi => ((hbel.trans (hbW.mono hB)).cell (p := ⟨b, o + i, none⟩) hb).trans (hc i hi)⟩))
  have Hcv := Lib.hid cv; clear cv
  have Hrv := Lib.hid rv; clear rv
  have Hlen := Lib.hid hlen; clear hlen
  clear ck cl rl hs hk hh ht hl hks hvs
  go_enter Tryz.func25, Tryz.ntmps25
  go_wp2_with fail
  rw [← hW]
  have HW := Lib.hid hW; clear hW
  have hpl := placeI_le ks x
  refine P.out.mono ?_
  rintro e w1 ⟨rfl, hw1⟩
  have hs1 := hw1.size
  have h0 := (hw1.block w.heap.size (by omega)).trans hat
  have h1 := (hw1.block (w.heap.size + 1) (by omega)).trans hat2
  have hb1 : Below w.heap.size w w1 := hbW.trans (hw1.mono (by omega))
  obtain ⟨a0, a1, a2, a3, a4, a5⟩ := of_block6 h0
  obtain ⟨b0, b1, b2, b3, b4, b5⟩ := of_block6 h1
  obtain ⟨f0, f1, f2, f3, f4, f5⟩ := free_block6 h1
  cases hh : hasK ks x with
  | true =>
    have hlt : placeI ks x < ks.length := by
      obtain ⟨hlt, _⟩ := hasK_iff.1 hh
      exact hlt
    have hlt2 : placeI ks x < vs.length := by rw [← Hlen.out]; exact hlt
    have hg : getV ks vs x = vs[placeI ks x] := by unfold getV; rw [if_pos hh, getD_of_lt hlt2]
    obtain ⟨vb, vo, rfl, hvb, hcel⟩ := Hcv.out (by omega)
    have cc := (hcel _ hlt2).below (hbel.trans (hb1.mono hB)) hvb
    have hr := Hrv.out _ hlt2
    rw [← hg] at hr
    obtain ⟨k', h', t', la2, ka2, va2, nl', cl', nk', ck', nv', cv', hCn⟩ := hr.shape
    rw [hCn] at cc hr
    obtain ⟨y0, y1, y2, y3, y4, y5⟩ := cells6 cc
    have Hr := Lib.hid hr; clear hr
    have u1 : ((placeI ks x : Nat) : Int) < (vs.length : Int) := by omega
    have u2 : (0 : Int) ≤ ((placeI ks x : Nat) : Int) := by omega
    have hset := set_row6 h1 (.int .i64 k') (.int .i64 h') (.string t') (.slice la2 nl' cl') (.slice ka2 nk' ck') (.slice va2 nv' cv')
    have hfin := below_set6 hb1 (b := w.heap.size + 1) (by omega) (.int .i64 k') (.int .i64 h') (.string t') (.slice la2 nl' cl') (.slice ka2 nk' ck') (.slice va2 nv' cv')
    have Hset := Lib.hid hset
    have Hfin := Lib.hid hfin
    clear hset hfin hcel cc hCn hg hlt hh Hrv Hcv P hpl
    generalize placeI ks x = n at *
    go_wp2_with fail
    refine bodyPost_ret (v := .agg #[.int .i64 k', .int .i64 h', .string t', .slice la2 nl' cl', .slice ka2 nk' ck', .slice va2 nv' cv']) ?_ rfl ⟨_, _, _, _, _, _, _, _, _, _, _, _, rfl, Hr.out, Hfin.out⟩
    exact results_cell_row (p := 4) (ty := 26) rfl _ _ (w.heap.size + 1) 26 _ (0, 0) _ rfl Hset.out Tryz.underlying26 rfl (by kernel_rfl)
  | false =>
    have hg : getV ks vs x = nullV := by unfold getV; rw [if_neg (by simp [hh])]
    have hset := set_row6 h1 (.int .i64 0) (.int .i64 0) (.string ⟨#[]⟩) (.slice none 0 0) (.slice none 0 0) (.slice none 0 0)
    have hfin := below_set6 hb1 (b := w.heap.size + 1) (by omega) (.int .i64 0) (.int .i64 0) (.string ⟨#[]⟩) (.slice none 0 0) (.slice none 0 0) (.slice none 0 0)
    have Hset := Lib.hid hset
    have Hfin := Lib.hid hfin
    have Hg := Lib.hid hg
    clear hset hfin hg hh Hrv Hcv P hpl
    go_wp2_with fail
    refine bodyPost_ret (v := .agg #[.int .i64 0, .int .i64 0, .string ⟨#[]⟩, .slice none 0 0, .slice none 0 0, .slice none 0 0]) ?_ rfl ⟨_, _, _, _, _, _, _, _, _, _, _, _, rfl, (by rw [Hg.out]; exact rep_null _ _), Hfin.out⟩
    exact results_cell_row (p := 4) (ty := 26) rfl _ _ (w.heap.size + 1) 26 _ (0, 0) _ rfl Hset.out Tryz.underlying26 rfl (by kernel_rfl)

set_option maxHeartbeats 2000000 in
set_option maxRecDepth 100000 in
theorem has_any (w0 : World) (B : Nat) (v : V) (cs : List Value) (hv : RepV w0 B v cs) (x : ByteArray) (w : World) (hbel : Below B w0 w) (hB : B ≤ w.heap.size) :
    Calls Tryz.prog 55 #[.agg cs.toArray, .string x] w (BoolP w (hasK v.keys x)) := by
  cases hv with
  | @mk k h t l ks vs la ka va lc kc vc C D hk hh ht hl hks hvs hs cl rl ck cv rv =>
  simp only [V.keys]
  obtain ⟨W, hW⟩ : ∃ W, W = w.alloc (.cells #[.int .i64 k, .int .i64 h, .string t, .slice la l.length lc, .slice ka ks.length kc, .slice va vs.length vc] 26) := ⟨_, rfl⟩
  have hWs : W.heap.size = w.heap.size + 1 := by rw [hW]; simp
  have hbW : Below w.heap.size w W := by rw [hW]; exact below_alloc1 _ _
  have P := Lib.hid (place_any W k h t la ka va l.length lc vs.length vc kc ks x hks (fun h0 => by
    obtain ⟨b, o, e, hb, hc⟩ := ck h0
    exact ⟨b, o, e, by omega, fun i hi => ((hbel.trans (hbW.mono hB)).cell (p := ⟨b, o + i, none⟩) hb).trans (hc i hi)⟩))
  clear ck cl rl hs hk hh ht hl hks hvs cv rv
  go_enter Tryz.func55, Tryz.ntmps55
  go_wp2_with fail
  rw [← hW]
  have HW := Lib.hid hW; clear hW
  refine P.out.mono ?_
  rintro e w1 ⟨rfl, hw1⟩
  have hb1 : Below w.heap.size w w1 := hbW.trans (hw1.mono (by omega))
  generalize hr : hasK ks x = r
  have Hr := Lib.hid hr; clear hr
  generalize placeI ks x = n
  go_wp2_with fail
  go_ret
  exact ⟨by rw [Hr.out]; rfl, hb1⟩

/-- spec.Whole of a number of an even Half; of what is none. -/
def wholeI (k h : Int) : Int := if k = 3 ∧ h.tmod 2 = 0 then h.tdiv 2 else 0
def wholeB (k h : Int) : Bool := decide (k = 3 ∧ h.tmod 2 = 0)

theorem half_le (h : Int) : (0 ≤ h → 0 ≤ h.tdiv 2 ∧ h.tdiv 2 ≤ h) ∧ (h ≤ 0 → h ≤ h.tdiv 2 ∧ h.tdiv 2 ≤ 0) := by
  refine ⟨fun h0 => ?_, fun h0 => ?_⟩
  · rw [Int.tdiv_eq_ediv_of_nonneg h0]
    omega
  · have := Int.neg_tdiv h 2
    rw [Int.tdiv_eq_ediv_of_nonneg (by omega : 0 ≤ -h)] at this
    omega

set_option maxHeartbeats 2000000 in
set_option maxRecDepth 100000 in
theorem whole_any (k h : Int) (hh : -9223372036854775808 ≤ h ∧ h ≤ 9223372036854775807) (t : ByteArray) (la ka va : Option Addr) (nl cl nk ck nv cv : Nat) (w : World) :
    Calls Tryz.prog 26 #[.agg #[.int .i64 k, .int .i64 h, .string t, .slice la nl cl, .slice ka nk ck, .slice va nv cv]] w
      fun e w' => e = .returned (.tuple #[.int .i64 (wholeI k h), .bool (wholeB k h)]) ∧ Below w.heap.size w w' := by
  have hb := below_alloc1 w (.cells #[.int .i64 k, .int .i64 h, .string t, .slice la nl cl, .slice ka nk ck, .slice va nv cv] 26)
  have Hb := Lib.hid hb; clear hb
  by_cases c : k = 3
  · subst c
    by_cases c2 : h.tmod 2 = 0
    · have Hr := Lib.hid (show Ending.returned (.tuple #[.int .i64 (wholeI 3 h), .bool (wholeB 3 h)]) = .returned (.tuple #[.int .i64 (h.tdiv 2), .bool true]) by simp [wholeI, wholeB, c2])
      have t3 : (h.tmod 2 != 0) = false := by rw [c2]; rfl
      have t4 : (h % 2 != 0) = false := by rw [Int.emod_eq_zero_of_dvd (Int.dvd_of_tmod_eq_zero c2)]; rfl
      have tw : wrap64 (h.tdiv 2) = h.tdiv 2 := by
        have h2 := half_le h
        generalize h.tdiv 2 = q at *
        unfold wrap64
        omega
      clear c2
      go_enter Tryz.func26, Tryz.ntmps26
      go_wp2_with fail
      go_ret2
      exact ⟨by rw [Hr.out]; rfl, Hb.out⟩
    · have Hr := Lib.hid (show Ending.returned (.tuple #[.int .i64 (wholeI 3 h), .bool (wholeB 3 h)]) = .returned (.tuple #[.int .i64 0, .bool false]) by simp [wholeI, wholeB, c2])
      have t3 : (h.tmod 2 != 0) = true := by simpa using c2
      have t4 : (h % 2 != 0) = true := by rw [bne_iff_ne]; exact fun e => c2 (Int.tmod_eq_zero_of_dvd (Int.dvd_of_emod_eq_zero e))
      clear c2
      go_enter Tryz.func26, Tryz.ntmps26
      go_wp2_with fail
      go_ret2
      exact ⟨by rw [Hr.out]; rfl, Hb.out⟩
  · have Hr := Lib.hid (show Ending.returned (.tuple #[.int .i64 (wholeI k h), .bool (wholeB k h)]) = .returned (.tuple #[.int .i64 0, .bool false]) by simp [wholeI, wholeB, c])
    have t3 : (k != 3) = true := by simpa using c
    clear c
    go_enter Tryz.func26, Tryz.ntmps26
    go_wp2_with fail
    go_ret2
    exact ⟨by rw [Hr.out]; rfl, Hb.out⟩

end Go.Proofs.YtiphcojcdegnkaaGreatDoor

namespace Go.Proofs.YtiphcojcdegnkaaGreatDoor
open Go Go.RowKit Go.Maps Go.Deep

def Cut.how : Cut → Int | .fine _ _ => 0 | .raises => 1 | .silent => 2
def Cut.lo : Cut → Int | .fine a _ => (a : Int) | _ => 0
def Cut.hi : Cut → Int | .fine _ b => (b : Int) | _ => 0

def CutR (w : World) (c : Cut) (e : Ending) (w' : World) : Prop := e = .returned (.tuple #[.int .i64 c.lo, .int .i64 c.hi, .int .i64 c.how]) ∧ Below w.heap.size w w'

/-- A pair of values, made since w2. -/
def TwoAt (w0 : World) (B : Nat) (w2 : World) (a b : V) (s7 : Value) (wx : World) : Prop :=
  ∃ (z : Nat) (d0 d1 d2 d3 d4 d5 d6 d7 d8 d9 d10 d11 : Value), s7 = .pointer (some ⟨z, 0, none⟩) ∧ w2.heap.size ≤ z ∧ Below w2.heap.size w2 wx ∧ wx.heap[z]? = some (.cells #[d0, d1, d2, d3, d4, d5, d6, d7, d8, d9, d10, d11] 106) ∧ RepV w0 B a [d0, d1, d2, d3, d4, d5] ∧ RepV w0 B b [d6, d7, d8, d9, d10, d11]
theorem TwoAt.made {w0 w2 w6 : World} {B : Nat} {a b : V} {c0 c1 c2 c3 c4 c5 c6 c7 c8 c9 c10 c11 : Value} (h : Below w2.heap.size w2 w6) (ra : RepV w0 B a [c0, c1, c2, c3, c4, c5]) (rb : RepV w0 B b [c6, c7, c8, c9, c10, c11]) :
    TwoAt w0 B w2 a b (.pointer (some ⟨w6.heap.size, 0, none⟩)) (w6.alloc (.cells #[c0, c1, c2, c3, c4, c5, c6, c7, c8, c9, c10, c11] 106)) :=
  ⟨_, c0, c1, c2, c3, c4, c5, c6, c7, c8, c9, c10, c11, rfl, h.size, keep_alloc h h.size _, at_alloc _ _, ra, rb⟩
theorem TwoAt.put {w0 w2 w6 : World} {B z : Nat} {a b : V} {c0 c1 c2 c3 c4 c5 c6 c7 c8 c9 c10 c11 e0 e1 e2 e3 e4 e5 e6 e7 e8 e9 e10 e11 : Value} (h : Below w2.heap.size w2 w6) (hz : w6.heap[z]? = some (.cells #[e0, e1, e2, e3, e4, e5, e6, e7, e8, e9, e10, e11] 106)) (hzb : w2.heap.size ≤ z) (ra : RepV w0 B a [c0, c1, c2, c3, c4, c5]) (rb : RepV w0 B b [c6, c7, c8, c9, c10, c11]) :
    TwoAt w0 B w2 a b (.pointer (some ⟨z, 0, none⟩)) ((((((((((((w6.setCell ⟨z, 0, none⟩ c0).setCell ⟨z, 1, none⟩ c1).setCell ⟨z, 2, none⟩ c2).setCell ⟨z, 3, none⟩ c3).setCell ⟨z, 4, none⟩ c4).setCell ⟨z, 5, none⟩ c5).setCell ⟨z, 6, none⟩ c6).setCell ⟨z, 7, none⟩ c7).setCell ⟨z, 8, none⟩ c8).setCell ⟨z, 9, none⟩ c9).setCell ⟨z, 10, none⟩ c10).setCell ⟨z, 11, none⟩ c11) :=
  ⟨z, c0, c1, c2, c3, c4, c5, c6, c7, c8, c9, c10, c11, rfl, hzb, below_set12 h hzb _ _ _ _ _ _ _ _ _ _ _ _, set_row12 hz _ _ _ _ _ _ _ _ _ _ _ _, ra, rb⟩

theorem index_two0 (c0 c1 c2 c3 c4 c5 c6 c7 c8 c9 c10 c11 : Value) (w : World) : (Instr.index 106 (.agg #[c0, c1, c2, c3, c4, c5, c6, c7, c8, c9, c10, c11]) (.int .i64 0)).run Tryz.prog w = .ok (.agg #[c0, c1, c2, c3, c4, c5]) w := by kernel_rfl
theorem index_two1 (c0 c1 c2 c3 c4 c5 c6 c7 c8 c9 c10 c11 : Value) (w : World) : (Instr.index 106 (.agg #[c0, c1, c2, c3, c4, c5, c6, c7, c8, c9, c10, c11]) (.int .i64 1)).run Tryz.prog w = .ok (.agg #[c6, c7, c8, c9, c10, c11]) w := by kernel_rfl
attribute [local go_sem] index_two0 index_two1

def boundsOf : Bnd → Bnd → Cut
  | .raises, _ => .raises
  | .silent, _ => .silent
  | .at _, .raises => .raises
  | .at _, .silent => .silent
  | .at a, .at b => .fine a (if a ≤ b then b else a)
theorem boundsA_of {ks : List ByteArray} {vs : List V} (h2 : ks.length = 2) (hs : hasK ks startT = true) (he : hasK ks endT = true) (n : Nat) :
    boundsA ks vs n = boundsOf (bndA (getV ks vs startT) n 0) (bndA (getV ks vs endT) n n) := by
  unfold boundsA
  rw [if_neg (by simp [h2, hs, he])]
  cases bndA (getV ks vs startT) n 0 <;> cases bndA (getV ks vs endT) n n <;> rfl
theorem RepV.kh {w : World} {B : Nat} {v : V} {k h : Int} {r : List Value} (hv : RepV w B v (.int .i64 k :: .int .i64 h :: r)) : v.kind = k ∧ v.half = h ∧ -9223372036854775808 ≤ h ∧ h ≤ 9223372036854775807 := by
  cases hv with
  | mk C D hk hh => exact ⟨rfl, rfl, hh⟩
theorem bnd_0 {v : V} {k h : Int} (e : v.kind = k ∧ v.half = h) (n d : Nat) (q : k = 0) : bndA v n d = .at d := by
  unfold bndA; rw [e.1, if_pos q]
theorem bnd_at {v : V} {k h : Int} (e : v.kind = k ∧ v.half = h) (n d : Nat) (q : k = 3) (t : h.tmod 2 = 0) : bndA v n d = .at (clampN (h.tdiv 2) n) := by
  unfold bndA; rw [e.1, e.2, if_neg (by omega), if_neg (by simp [q]), if_neg (by simp [t])]
theorem bnd_sil {v : V} {k h : Int} (e : v.kind = k ∧ v.half = h) (n d : Nat) (q : k = 3) (t : ¬ h.tmod 2 = 0) : bndA v n d = .silent := by
  unfold bndA; rw [e.1, e.2, if_neg (by omega), if_neg (by simp [q]), if_pos t]
theorem bnd_rai {v : V} {k h : Int} (e : v.kind = k ∧ v.half = h) (n d : Nat) (q : ¬ k = 0) (t : ¬ k = 3) : bndA v n d = .raises := by
  unfold bndA; rw [e.1, if_neg q, if_pos t]
theorem clamp_neg {x : Int} {n : Nat} (h : x < 0) : min (max (x + (n : Int)) 0) (n : Int) = ((clampN x n : Nat) : Int) := by
  unfold clampN; simp only; rw [if_pos h]; split <;> (try split) <;> omega
theorem clamp_pos {x : Int} {n : Nat} (h : ¬ x < 0) : min (max x 0) (n : Int) = ((clampN x n : Nat) : Int) := by
  unfold clampN; simp only; rw [if_neg h]; split <;> (try split) <;> omega

/-- The loop over the two ends. -/
def BndLoop (wc : World) (v1 v2 : V) (n : Nat) (i : Value) (wr : World) : Prop :=
  ∃ m a0 b0 : Nat, m ≤ 2 ∧ i = .int .i64 (m : Nat) ∧ Below wc.heap.size wc wr ∧ wr.heap[wc.heap.size]? = some (.cells #[.int .i64 (a0 : Nat), .int .i64 (b0 : Nat)] 107) ∧
    ((m = 0 ∧ a0 = 0 ∧ b0 = n) ∨ (m = 1 ∧ bndA v1 n 0 = .at a0 ∧ b0 = n) ∨ (m = 2 ∧ bndA v1 n 0 = .at a0 ∧ bndA v2 n n = .at b0))

set_option maxHeartbeats 40000000 in
set_option maxRecDepth 100000 in
theorem bounds_has (w0 : World) (B : Nat) (v : V) (cs : List Value) (hv : RepV w0 B v cs) (hlen : v.keys.length = v.vals.length) (n : Nat) (hn : n ≤ 140737488355328) (h2 : v.keys.length = 2) (hs : hasK v.keys startT = true) (he : hasK v.keys endT = true)
    (w : World) (hbel : Below B w0 w) (hB : B ≤ w.heap.size) : Calls Tryz.prog 37 #[.agg cs.toArray, .int .i64 (n : Nat)] w (CutR w (boundsA v.keys v.vals n)) := by
  have HS := Lib.hid fun w1 h1 h2 => has_any w0 B v cs hv startT w1 h1 h2
  have HE := Lib.hid fun w1 h1 h2 => has_any w0 B v cs hv endT w1 h1 h2
  have GS := Lib.hid fun x w1 h1 h2 => get_any w0 B v cs hv hlen x w1 h1 h2
  rw [hs] at HS
  rw [he] at HE
  have HBA := Lib.hid (boundsA_of (vs := v.vals) h2 hs he n)
  clear hs he hlen
  obtain ⟨k, h, t, la, ka, va, nl, cl, nk, ck, nv, cv, rfl⟩ := hv.shape
  have hnk : nk = 2 := by cases hv; exact h2
  subst hnk
  clear hv h2
  go_enter Tryz.func37, Tryz.ntmps37
  go_wp2_with fail
  have hb0 := below_alloc1 w (.cells #[.int .i64 k, .int .i64 h, .string t, .slice la nl cl, .slice ka 2 ck, .slice va nv cv] 26)
  have hat := at_alloc w (.cells #[.int .i64 k, .int .i64 h, .string t, .slice la nl cl, .slice ka 2 ck, .slice va nv cv] 26)
  have hs0 := size_alloc1 w (.cells #[.int .i64 k, .int .i64 h, .string t, .slice la nl cl, .slice ka 2 ck, .slice va nv cv] 26)
  refine (HS.out _ (hbel.trans (hb0.mono hB)) (by omega)).mono ?_
  generalize w.alloc _ = W at *
  rintro e w1 ⟨rfl, hw1⟩
  have hb1 : Below w.heap.size w w1 := hb0.trans (hw1.mono (by omega))
  have hs1 := hw1.size
  have y1 := (hw1.block w.heap.size (by omega)).trans hat
  obtain ⟨a0, a1, a2, a3, a4, a5⟩ := of_block6 y1
  go_wp2_with fail
  clear a0 a1 a2 a3 a4 a5
  refine (HE.out _ (hbel.trans (hb1.mono hB)) (by omega)).mono ?_
  rintro e w2 ⟨rfl, hw2⟩
  have hb2 : Below w.heap.size w w2 := hb1.trans (hw2.mono (by omega))
  have hs2 := hw2.size
  have y2 := (hw2.block w.heap.size (by omega)).trans y1
  clear hb0 hat hw1 y1 HS HE
  go_upto_region 3 with fail
  have hS : ∀ w', Below w2.heap.size w2 w' → w'.cell? ⟨w.heap.size, 0, none⟩ = some (.int .i64 k) ∧ w'.cell? ⟨w.heap.size, 1, none⟩ = some (.int .i64 h) ∧ w'.cell? ⟨w.heap.size, 2, none⟩ = some (.string t) ∧ w'.cell? ⟨w.heap.size, 3, none⟩ = some (.slice la nl cl) ∧ w'.cell? ⟨w.heap.size, 4, none⟩ = some (.slice ka 2 ck) ∧ w'.cell? ⟨w.heap.size, 5, none⟩ = some (.slice va nv cv) ∧ Below w2.heap.size w2 w' := by
    intro w' hw
    obtain ⟨a0, a1, a2, a3, a4, a5⟩ := of_block6 ((hw.block w.heap.size (by omega)).trans y2)
    exact ⟨a0, a1, a2, a3, a4, a5, hw⟩
  go_cut [7] (fun s7 wx => TwoAt w0 B w2 (getV v.keys v.vals ⟨#[115, 116, 97, 114, 116]⟩) (getV v.keys v.vals ⟨#[101, 110, 100]⟩) s7 wx)
  case first =>
    --[
    have G2 : Hid (∀ x w', Below w2.heap.size w2 w' → Calls Tryz.prog 25 #[.agg #[.int .i64 k, .int .i64 h, .string t, .slice la nl cl, .slice ka 2 ck, .slice va nv cv], .string x] w'
      fun e w'' => ∃ (k h : Int) (t : ByteArray) (la ka va : Option Addr) (nl cl nk ck nv cv : Nat), e = .returned (.agg #[.int .i64 k, .int .i64 h, .string t, .slice la nl cl, .slice ka nk ck, .slice va nv cv]) ∧
        RepV w0 B (getV v.keys v.vals x) [.int .i64 k, .int .i64 h, .string t, .slice la nl cl, .slice ka nk ck, .slice va nv cv] ∧ Below w2.heap.size w2 w'' ∧ Below w'.heap.size w' w'') :=
      Lib.hid fun x w' hw => (GS.out x w' (hbel.trans ((hb2.trans (hw.mono (by omega))).mono hB)) (by have := hw.size; omega)).mono fun e w'' ⟨k, h, t, la, ka, va, nl, cl, nk, ck, nv, cv, he, hr, hb⟩ => ⟨k, h, t, la, ka, va, nl, cl, nk, ck, nv, cv, he, hr, hw.trans (hb.mono hw.size), hb⟩
    have HSd := Lib.hid hS
    obtain ⟨a0, a1, a2, a3, a4, a5, hw⟩ := hS w2 (Below.refl _ _)
    clear hS GS y2 hb2 hb1 hw2
    have hlt : w.heap.size < w2.heap.size := by omega
    have hne : ¬ (w.heap.size = w2.heap.size) := by omega
    go_region_with (go_at_call 25; refine (G2.out _ _ (by first | assumption | exact Below.drew (by assumption) | exact keep_alloc (by assumption) (by omega) _ | exact keep_alloc (Below.drew (by assumption)) (Nat.le_refl _) _)).mono ?_; rintro e w6 ⟨k2, h2, t2, la2, ka2, va2, nl2, cl2, nk2, ck2, nv2, cv2, rfl, hR, hw6, hw6b⟩; have hs6 := hw6.size; have hs6b := hw6b.size; (try simp at hs6b); have hSx := HSd.out _ hw6; have hlt6 : w.heap.size < w6.heap.size := (by omega); have hne6 : ¬ (w.heap.size = w6.heap.size) := (by omega); go_split_ands; (try have hz := (hw6b.block _ (by simp)).trans (at_alloc _ _)); (try have hz := (hw6b.block _ (by omega)).trans hz); (try have ht6 := of_block12 hz); (try have hq6 := free_block12 hz); go_split_ands)
    all_goals (clear G2 HSd)
    all_goals go_wp2_with fail
    all_goals go_meet
    all_goals first
      | with_reducible exact TwoAt.made hw6 (by assumption) (by assumption)
      | with_reducible exact TwoAt.put hw6 hz (by omega) (by assumption) (by assumption)
    --]
  case rest =>
  obtain ⟨z, d0, d1, d2, d3, d4, d5, d6, d7, d8, d9, d10, d11, rfl, hz, hwc, hzc, hr1, hr2⟩ := hcut
  change RepV w0 B (getV v.keys v.vals startT) _ at hr1
  change RepV w0 B (getV v.keys v.vals endT) _ at hr2
  have hbc : Below w.heap.size w wc := hb2.trans (hwc.mono (by omega))
  obtain ⟨k1, h1, t1, la1, ka1, va1, nl1, cl1, nk1, ck1, nv1, cv1, e1⟩ := hr1.shape
  simp only [List.cons.injEq, and_true] at e1
  obtain ⟨rfl, rfl, rfl, rfl, rfl, rfl⟩ := e1
  obtain ⟨k2, h2, t2, la2, ka2, va2, nl2, cl2, nk2, ck2, nv2, cv2, e2⟩ := hr2.shape
  simp only [List.cons.injEq, and_true] at e2
  obtain ⟨rfl, rfl, rfl, rfl, rfl, rfl⟩ := e2
  clear hS y2 hw2 GS
  have hkc := of_block12 hzc
  obtain ⟨e0, e1, e2, e3, e4, e5, e6, e7, e8, e9, e10, e11⟩ := hkc
  have hzlt : z < wc.heap.size := by
    rcases Nat.lt_or_ge z wc.heap.size with h | h
    · exact h
    · rw [Array.getElem?_eq_none h] at hzc
      cases hzc
  have hzne : ¬ (z = wc.heap.size) := by omega
  clear hzc
  have K1 := hr1.kh
  have K2 := hr2.kh
  clear hr1 hr2
  generalize getV v.keys v.vals startT = v1 at *
  generalize getV v.keys v.vals endT = v2 at *
  have E1 := Lib.hid (⟨K1.1, K1.2.1⟩ : v1.kind = k1 ∧ v1.half = h1)
  have E2 := Lib.hid (⟨K2.1, K2.2.1⟩ : v2.kind = k2 ∧ v2.half = h2)
  have Hb1 := Lib.hid K1.2.2
  have Hb2 := Lib.hid K2.2.2
  clear K1 K2
  have Hbc := Lib.hid hbc; clear hbc
  clear hwc hz hb2 hb1 hs0 hs1 hs2 hbel hB
  go_wp2_with fail
  go_loopw [35] (fun i wr => BndLoop wc v1 v2 n i wr) (fun i _ => 2 - (intOf i).toNat)
  case atStart => exact ⟨0, 0, n, by omega, rfl, keep_alloc (Below.refl _ _) (Nat.le_refl _) _, at_alloc _ _, .inl ⟨rfl, rfl, rfl⟩⟩
  case round =>
    obtain ⟨m, a0, b0, hm, rfl, hb, hce, hcase⟩ := hrel
    have hsr := hb.size
    have hlt : wc.heap.size < wr.heap.size := by
      rcases Nat.lt_or_ge wc.heap.size wr.heap.size with h | h
      · exact h
      · rw [Array.getElem?_eq_none h] at hce
        cases hce
    rcases hcase with ⟨rfl, rfl, hbn⟩ | ⟨rfl, hA, hbn⟩ | ⟨rfl, hA, hB2⟩
    · rw [hbn] at hce
      clear hbn b0
      have hal := keep_alloc hb hb.size (.cells #[.int .i64 k1, .int .i64 h1, .string t1, .slice la1 nl1 cl1, .slice ka1 nk1 ck1, .slice va1 nv1 cv1] 26)
      have hce2 := (heap_alloc_old wr (.cells #[.int .i64 k1, .int .i64 h1, .string t1, .slice la1 nl1 cl1, .slice ka1 nk1 ck1, .slice va1 nv1 cv1] 26) hlt).trans hce
      have Hal := Lib.hid hal
      have Hce := Lib.hid hce2
      clear hal hce2 hb hce
      by_cases q0 : k1 = 0
      · have HB := Lib.hid (bnd_0 E1.out n 0 q0)
        subst q0
        go_wp2_with fail
        go_roundw
        case rel => exact ⟨1, 0, n, by omega, by go_num, Hal.out, Hce.out, .inr (.inl ⟨rfl, HB.out, rfl⟩)⟩
        case measure => simp [intOf]
      have q0b : (k1 == 0) = false := by simpa using q0
      by_cases q3 : k1 = 3
      · by_cases qt : h1.tmod 2 = 0
        · have HB := Lib.hid (bnd_at E1.out n 0 q3 qt)
          have Hw := Lib.hid fun w => whole_any k1 h1 Hb1.out t1 la1 ka1 va1 nl1 cl1 nk1 ck1 nv1 cv1 w
          rw [show wholeI k1 h1 = h1.tdiv 2 from if_pos ⟨q3, qt⟩, show wholeB k1 h1 = true from decide_eq_true ⟨q3, qt⟩] at Hw
          have hq := half_le h1
          have hq2 := Hb1.out
          generalize h1.tdiv 2 = x at *
          subst q3
          clear q0 qt
          go_wp2_with fail
          refine (Hw.out _).mono ?_
          rintro e w4 ⟨rfl, hw4⟩
          have hlt4 : wc.heap.size < w4.heap.size := by have := hw4.size; simp at this; omega
          have hb4 : Below wc.heap.size wc w4 := Hal.out.trans (hw4.mono (by simp; omega))
          have hz4 := (hw4.block wc.heap.size (by simp; omega)).trans Hce.out
          obtain ⟨g0, g1, g2, g3⟩ := free_block2 hz4
          have Hst := Lib.hid fun (v : Int) => (⟨hb4.setCell (Nat.le_refl _) _, by have := heap_setCell_same _ wc.heap.size 0 _ 107 (.int .i64 v) hz4; simpa using this⟩ : Below wc.heap.size wc (w4.setCell ⟨wc.heap.size, 0, none⟩ (.int .i64 v)) ∧ (w4.setCell ⟨wc.heap.size, 0, none⟩ (.int .i64 v)).heap[wc.heap.size]? = some (.cells #[.int .i64 v, .int .i64 (n : Nat)] 107))
          clear hw4 Hw hz4 hb4
          by_cases x0 : x < 0
          · have xw : wrap64 (x + (n : Int)) = x + n := by unfold wrap64; omega
            have xe := clamp_neg (n := n) x0
            clear hq hq2
            generalize clampN x n = c at *
            go_wp2_with fail
            go_roundw
            case rel => exact ⟨1, c, n, by omega, by go_num, (Hst.out _).1, (Hst.out _).2, .inr (.inl ⟨rfl, HB.out, rfl⟩)⟩
            case measure => simp [intOf]
          · have xe := clamp_pos (n := n) x0
            clear hq hq2
            generalize clampN x n = c at *
            go_wp2_with fail
            go_roundw
            case rel => exact ⟨1, c, n, by omega, by go_num, (Hst.out _).1, (Hst.out _).2, .inr (.inl ⟨rfl, HB.out, rfl⟩)⟩
            case measure => simp [intOf]
        · have HB := Lib.hid (bnd_sil E1.out n 0 q3 qt)
          have Hw := Lib.hid fun w => whole_any k1 h1 Hb1.out t1 la1 ka1 va1 nl1 cl1 nk1 ck1 nv1 cv1 w
          rw [show wholeI k1 h1 = 0 from if_neg (fun h => qt h.2), show wholeB k1 h1 = false from decide_eq_false (fun h => qt h.2)] at Hw
          have Hfin := Lib.hid (show boundsA v.keys v.vals n = .silent from by rw [HBA.out, HB.out]; cases bndA v2 n n <;> rfl)
          subst q3
          clear q0 qt
          go_wp2_with fail
          refine (Hw.out _).mono ?_
          rintro e w4 ⟨rfl, hw4⟩
          have hb4 : Below wc.heap.size wc w4 := Hal.out.trans (hw4.mono (by simp; omega))
          go_wp2_with fail
          go_ret3
          exact ⟨by rw [Hfin.out]; rfl, below_next Hbc.out hb4⟩
      · have HB := Lib.hid (bnd_rai E1.out n 0 q0 q3)
        have q3b : (k1 != 3) = true := by simpa using q3
        have Hfin := Lib.hid (show boundsA v.keys v.vals n = .raises from by rw [HBA.out, HB.out]; cases bndA v2 n n <;> rfl)
        clear q0 q3
        go_wp2_with fail
        go_ret3
        exact ⟨by rw [Hfin.out]; rfl, below_next Hbc.out Hal.out⟩
    · rw [hbn] at hce
      clear hbn b0
      have HA := Lib.hid hA; clear hA
      have hal := keep_alloc hb hb.size (.cells #[.int .i64 k2, .int .i64 h2, .string t2, .slice la2 nl2 cl2, .slice ka2 nk2 ck2, .slice va2 nv2 cv2] 26)
      have hce2 := (heap_alloc_old wr (.cells #[.int .i64 k2, .int .i64 h2, .string t2, .slice la2 nl2 cl2, .slice ka2 nk2 ck2, .slice va2 nv2 cv2] 26) hlt).trans hce
      have Hal := Lib.hid hal
      have Hce := Lib.hid hce2
      clear hal hce2 hb hce
      by_cases q0 : k2 = 0
      · have HB := Lib.hid (bnd_0 E2.out n n q0)
        subst q0
        go_wp2_with fail
        go_roundw
        case rel => exact ⟨2, a0, n, by omega, by go_num, Hal.out, Hce.out, .inr (.inr ⟨rfl, HA.out, HB.out⟩)⟩
        case measure => simp [intOf]
      have q0b : (k2 == 0) = false := by simpa using q0
      by_cases q3 : k2 = 3
      · by_cases qt : h2.tmod 2 = 0
        · have HB := Lib.hid (bnd_at E2.out n n q3 qt)
          have Hw := Lib.hid fun w => whole_any k2 h2 Hb2.out t2 la2 ka2 va2 nl2 cl2 nk2 ck2 nv2 cv2 w
          rw [show wholeI k2 h2 = h2.tdiv 2 from if_pos ⟨q3, qt⟩, show wholeB k2 h2 = true from decide_eq_true ⟨q3, qt⟩] at Hw
          have hq := half_le h2
          have hq2 := Hb2.out
          generalize h2.tdiv 2 = x at *
          subst q3
          clear q0 qt
          go_wp2_with fail
          refine (Hw.out _).mono ?_
          rintro e w4 ⟨rfl, hw4⟩
          have hlt4 : wc.heap.size < w4.heap.size := by have := hw4.size; simp at this; omega
          have hb4 : Below wc.heap.size wc w4 := Hal.out.trans (hw4.mono (by simp; omega))
          have hz4 := (hw4.block wc.heap.size (by simp; omega)).trans Hce.out
          obtain ⟨g0, g1, g2, g3⟩ := free_block2 hz4
          have Hst := Lib.hid fun (v : Int) => (⟨hb4.setCell (Nat.le_refl _) _, by have := heap_setCell_same _ wc.heap.size 1 _ 107 (.int .i64 v) hz4; simpa using this⟩ : Below wc.heap.size wc (w4.setCell ⟨wc.heap.size, 1, none⟩ (.int .i64 v)) ∧ (w4.setCell ⟨wc.heap.size, 1, none⟩ (.int .i64 v)).heap[wc.heap.size]? = some (.cells #[.int .i64 (a0 : Nat), .int .i64 v] 107))
          clear hw4 Hw hz4 hb4
          by_cases x0 : x < 0
          · have xw : wrap64 (x + (n : Int)) = x + n := by unfold wrap64; omega
            have xe := clamp_neg (n := n) x0
            clear hq hq2
            generalize clampN x n = c at *
            go_wp2_with fail
            go_roundw
            case rel => exact ⟨2, a0, c, by omega, by go_num, (Hst.out _).1, (Hst.out _).2, .inr (.inr ⟨rfl, HA.out, HB.out⟩)⟩
            case measure => simp [intOf]
          · have xe := clamp_pos (n := n) x0
            clear hq hq2
            generalize clampN x n = c at *
            go_wp2_with fail
            go_roundw
            case rel => exact ⟨2, a0, c, by omega, by go_num, (Hst.out _).1, (Hst.out _).2, .inr (.inr ⟨rfl, HA.out, HB.out⟩)⟩
            case measure => simp [intOf]
        · have HB := Lib.hid (bnd_sil E2.out n n q3 qt)
          have Hw := Lib.hid fun w => whole_any k2 h2 Hb2.out t2 la2 ka2 va2 nl2 cl2 nk2 ck2 nv2 cv2 w
          rw [show wholeI k2 h2 = 0 from if_neg (fun h => qt h.2), show wholeB k2 h2 = false from decide_eq_false (fun h => qt h.2)] at Hw
          have Hfin := Lib.hid (show boundsA v.keys v.vals n = .silent from by rw [HBA.out, HA.out, HB.out]; rfl)
          subst q3
          clear q0 qt
          go_wp2_with fail
          refine (Hw.out _).mono ?_
          rintro e w4 ⟨rfl, hw4⟩
          have hb4 : Below wc.heap.size wc w4 := Hal.out.trans (hw4.mono (by simp; omega))
          go_wp2_with fail
          go_ret3
          exact ⟨by rw [Hfin.out]; rfl, below_next Hbc.out hb4⟩
      · have HB := Lib.hid (bnd_rai E2.out n n q0 q3)
        have q3b : (k2 != 3) = true := by simpa using q3
        have Hfin := Lib.hid (show boundsA v.keys v.vals n = .raises from by rw [HBA.out, HA.out, HB.out]; rfl)
        clear q0 q3
        go_wp2_with fail
        go_ret3
        exact ⟨by rw [Hfin.out]; rfl, below_next Hbc.out Hal.out⟩
    · have Hfin := Lib.hid (show boundsA v.keys v.vals n = .fine a0 (if a0 ≤ b0 then b0 else a0) by rw [HBA.out, hA, hB2]; rfl)
      obtain ⟨g0, g1, g2, g3⟩ := free_block2 hce
      have Hb := Lib.hid hb
      clear hA hB2 hb hce
      go_wp2_with fail
      have xm : max (a0 : Int) (b0 : Int) = ((if a0 ≤ b0 then b0 else a0 : Nat) : Int) := by split <;> omega
      generalize (if a0 ≤ b0 then b0 else a0) = c0 at *
      go_region
      go_wp2_with fail
      go_ret3
      exact ⟨by rw [Hfin.out]; rfl, (below_next Hbc.out Hb.out).drew⟩

set_option maxHeartbeats 4000000 in
set_option maxRecDepth 100000 in
theorem bounds_any (w0 : World) (B : Nat) (v : V) (cs : List Value) (hv : RepV w0 B v cs) (hlen : v.keys.length = v.vals.length) (n : Nat) (hn : n ≤ 140737488355328) 
    (w : World) (hbel : Below B w0 w) (hB : B ≤ w.heap.size) : Calls Tryz.prog 37 #[.agg cs.toArray, .int .i64 (n : Nat)] w (CutR w (boundsA v.keys v.vals n)) := by
  by_cases h2 : v.keys.length = 2
  · cases hs : hasK v.keys startT with
    | true =>
      cases he : hasK v.keys endT with
      | true => exact bounds_has w0 B v cs hv hlen n hn h2 hs he w hbel hB
      | false =>
        have Hfin := Lib.hid (show boundsA v.keys v.vals n = .silent by unfold boundsA; rw [if_pos (.inr (.inr he))])
        have HS := Lib.hid fun w1 h1 h2 => has_any w0 B v cs hv startT w1 h1 h2
        have HE := Lib.hid fun w1 h1 h2 => has_any w0 B v cs hv endT w1 h1 h2
        rw [hs] at HS
        rw [he] at HE
        clear hs he hlen
        obtain ⟨k, h, t, la, ka, va, nl, cl, nk, ck, nv, cv, rfl⟩ := hv.shape
        have hnk : nk = 2 := by cases hv; exact h2
        subst hnk
        clear hv h2
        go_enter Tryz.func37, Tryz.ntmps37
        go_wp2_with fail
        have hb0 := below_alloc1 w (.cells #[.int .i64 k, .int .i64 h, .string t, .slice la nl cl, .slice ka 2 ck, .slice va nv cv] 26)
        have hat := at_alloc w (.cells #[.int .i64 k, .int .i64 h, .string t, .slice la nl cl, .slice ka 2 ck, .slice va nv cv] 26)
        have hs0 := size_alloc1 w (.cells #[.int .i64 k, .int .i64 h, .string t, .slice la nl cl, .slice ka 2 ck, .slice va nv cv] 26)
        refine (HS.out _ (hbel.trans (hb0.mono hB)) (by omega)).mono ?_
        generalize w.alloc _ = W at *
        rintro e w1 ⟨rfl, hw1⟩
        have hb1 : Below w.heap.size w w1 := hb0.trans (hw1.mono (by omega))
        have hs1 := hw1.size
        have y1 := (hw1.block w.heap.size (by omega)).trans hat
        obtain ⟨a0, a1, a2, a3, a4, a5⟩ := of_block6 y1
        go_wp2_with fail
        refine (HE.out _ (hbel.trans (hb1.mono hB)) (by omega)).mono ?_
        rintro e w2 ⟨rfl, hw2⟩
        have hb2 : Below w.heap.size w w2 := hb1.trans (hw2.mono (by omega))
        go_wp2_with fail
        go_ret3
        exact ⟨by rw [Hfin.out]; rfl, hb2⟩
    | false =>
      have Hfin := Lib.hid (show boundsA v.keys v.vals n = .silent by unfold boundsA; rw [if_pos (.inr (.inl hs))])
      have HS := Lib.hid fun w1 h1 h2 => has_any w0 B v cs hv startT w1 h1 h2
      rw [hs] at HS
      clear hs hlen
      obtain ⟨k, h, t, la, ka, va, nl, cl, nk, ck, nv, cv, rfl⟩ := hv.shape
      have hnk : nk = 2 := by cases hv; exact h2
      subst hnk
      clear hv h2
      go_enter Tryz.func37, Tryz.ntmps37
      go_wp2_with fail
      have hb0 := below_alloc1 w (.cells #[.int .i64 k, .int .i64 h, .string t, .slice la nl cl, .slice ka 2 ck, .slice va nv cv] 26)
      have hs0 := size_alloc1 w (.cells #[.int .i64 k, .int .i64 h, .string t, .slice la nl cl, .slice ka 2 ck, .slice va nv cv] 26)
      refine (HS.out _ (hbel.trans (hb0.mono hB)) (by omega)).mono ?_
      generalize w.alloc _ = W at *
      rintro e w1 ⟨rfl, hw1⟩
      have hb1 : Below w.heap.size w w1 := hb0.trans (hw1.mono (by omega))
      go_wp2_with fail
      go_ret3
      exact ⟨by rw [Hfin.out]; rfl, hb1⟩
  · have Hfin := Lib.hid (show boundsA v.keys v.vals n = .silent by unfold boundsA; rw [if_pos (.inl h2)])
    obtain ⟨k, h, t, la, ka, va, nl, cl, nk, ck, nv, cv, rfl⟩ := hv.shape
    have hnk : ((nk : Int) != 2) = true := by
      have : nk ≠ 2 := by
        intro e
        apply h2
        cases hv
        exact e
      rw [bne_iff_ne]
      omega
    have hb0 := below_alloc1 w (.cells #[.int .i64 k, .int .i64 h, .string t, .slice la nl cl, .slice ka nk ck, .slice va nv cv] 26)
    clear hv h2
    go_enter Tryz.func37, Tryz.ntmps37
    go_wp2_with fail
    go_ret3
    exact ⟨by rw [Hfin.out]; rfl, hb0⟩

end Go.Proofs.YtiphcojcdegnkaaGreatDoor
