/- spec.Ways. -/
/- Contracts of laws.array, laws.fits. -/
/- laws.FnGetPath. -/
/- What laws.FnSetOld needs besides the walk: a place's path leads to it; its path in memory; impl.SetPath at it; laws.given. -/
import Derived.Test.YtiphcojcdegnkaaGreatDoorM20
import Derived.Test.YtiphcojcdegnkaaGreatDoorM07
import Derived.Test.YtiphcojcdegnkaaGreatDoorM08
import Derived.Test.YtiphcojcdegnkaaGreatDoorM17
import Derived.Test.YtiphcojcdegnkaaGreatDoorM16
import Derived.Test.YtiphcojcdegnkaaGreatDoorM01
import Derived.Deep.RegionHeld3
import Derived.Deep.DeepCutAuto
import Derived.Deep.CutBlock
import Derived.Test.YtiphcojcdegnkaaGreatDoorM18
namespace Go.Proofs.YtiphcojcdegnkaaGreatDoor
open Go Go.RowKit Go.Maps Go.Deep

theorem info_path : (Tryz.prog.info? 23).map (fun i => (i.zero, i.size, i.bytes)) = some (some (.slice none 0 0), 1, 24) := by kernel_rfl

theorem flat_one {n : Nat} {C : Nat → Value} : ∀ i, i < n → (flat (fun i => [C i]) n)[i]? = some (C i) := by
  intro i hi
  have := flatS_get (s := 1) (C := fun i => [C i]) (n := n) (fun i _ => rfl) i 0 hi (by omega)
  simpa using this

/-- Paths, read: the row's own cells, and what the paths are. -/
def PathsAt (w : World) (v : Value) (l : List (List V)) : Prop :=
  ∃ (la : Option Addr) (lc : Nat) (C : Nat → Value), v = .slice la l.length lc ∧ l.length ≤ lc ∧ (0 < l.length → ∃ b, la = some ⟨b, 0, none⟩ ∧ b < w.heap.size ∧ ∀ i, i < l.length → w.cell? ⟨b, i, none⟩ = some (C i)) ∧ ∀ i (hi : i < l.length), PathS w (· < w.heap.size) l[i] (C i)
theorem PathsAt.below {w w' : World} {v : Value} {l : List (List V)} (h : PathsAt w v l) (hb : Below w.heap.size w w') : PathsAt w' v l := by
  obtain ⟨la, lc, C, e, hlc, hc, hp⟩ := h
  refine ⟨la, lc, C, e, hlc, fun h0 => ?_, fun i hi => (hp i hi).turn fun q hq => ⟨hb.block q hq, Nat.lt_of_lt_of_le hq hb.size⟩⟩
  obtain ⟨b, e, hbN, hcel⟩ := hc h0
  exact ⟨b, e, Nat.lt_of_lt_of_le hbN hb.size, fun i hi => (hb.cell hbN).trans (hcel i hi)⟩

def WaysLoop (W : World) (L : Nat) (C : Nat → List Value) (v i : Value) (wr : World) : Prop :=
  ∃ (n : Nat) (v' : Value), n ≤ L ∧ v' = v ∧ i = .int .i64 (n : Nat) ∧ Below W.heap.size W wr ∧ wr.ownsRow W.heap.size 23 1 v' n (flat (fun i => [(C i).headD .nilIface]) n)

theorem ways_fin {w0 W wr : World} {B : Nat} {C : Nat → List Value} {vv : Value} {l : List (List V × V)} (hb : Below W.heap.size W wr) (hown : wr.ownsRow W.heap.size 23 1 vv l.length (flat (fun i => [(C i).headD .nilIface]) l.length))
    (hs : ∀ i (hi : i < l.length), SpotS W w0 B (fun k => k < W.heap.size) l[i] (C i)) : PathsAt wr vv (l.map (·.1)) := by
  have hp : ∀ i (hi : i < (l.map (·.1)).length), PathS wr (· < wr.heap.size) (l.map (·.1))[i] ((C i).headD .nilIface) := by
    intro i hi
    have hi' : i < l.length := by simpa using hi
    obtain ⟨pv, cy, e, hp, _⟩ := hs i hi'
    rw [List.getElem_map, e]
    exact hp.turn fun q hq => ⟨hb.block q hq, Nat.lt_of_lt_of_le hq hb.size⟩
  rcases hown.2 with ⟨e, h0⟩ | ⟨g, cap, cur, e, hgb, hg, hnc, _⟩
  · exact ⟨none, 0, _, by rw [e, List.length_map, h0], by rw [List.length_map]; omega, fun h => by rw [List.length_map] at h; omega, hp⟩
  · refine ⟨some ⟨g, 0, none⟩, cap, _, by rw [List.length_map]; exact e, by rw [List.length_map]; exact hnc, fun _ => ⟨g, rfl, (Array.getElem?_eq_some_iff.1 hg).1, fun i hi => ?_⟩, hp⟩
    have hc := World.ownsRow.cells hown (g := g) (by rw [e]; rfl) i _ (flat_one (C := fun i => (C i).headD .nilIface) i (by simpa using hi))
    rw [addr_add] at hc
    exact hc

set_option maxHeartbeats 4000000 in
set_option maxRecDepth 100000 in
theorem ways_any (w0 : World) (B : Nat) (w : World) (v : V) (cy : List Value) (hr : RepV w0 B v cy) (g : Good v) (hb0 : Below B w0 w) (hB : B ≤ w.heap.size) (hz : sizeV v ≤ 400) :
    Calls Tryz.prog 11 #[.agg cy.toArray] w fun e w' => ∃ out, e = .returned out ∧ Below w.heap.size w w' ∧ PathsAt w' out ((spotsV [] v).map (·.1)) := by
  have Hr := Lib.hid hr
  obtain ⟨k, h, t, la, ka, va, nl, cl, nk, ck, nv, cv, rfl⟩ := hr.shape
  have hbW := below_alloc1 w (.cells #[.int .i64 k, .int .i64 h, .string t, .slice la nl cl, .slice ka nk ck, .slice va nv cv] 26)
  have hsW := size_alloc1 w (.cells #[.int .i64 k, .int .i64 h, .string t, .slice la nl cl, .slice ka nk ck, .slice va nv cv] 26)
  have hat := at_alloc w (.cells #[.int .i64 k, .int .i64 h, .string t, .slice la nl cl, .slice ka nk ck, .slice va nv cv] 26)
  clear hr
  go_enter Tryz.func11, Tryz.ntmps11
  go_wp2_with fail
  generalize w.alloc _ = W at *
  have hs0 : SpotS W w0 B (fun k => k < W.heap.size) ([], v) [.slice none 0 0, .int .i64 k, .int .i64 h, .string t, .slice la nl cl, .slice ka nk ck, .slice va nv cv] :=
    ⟨_, _, rfl, ⟨none, 0, rfl, Nat.zero_le _, fun h => by simp at h⟩, fun _ => rfl, Hr.out⟩
  refine (spots_any w0 B (sizeV v) v (Nat.le_refl _) g W [] _ _ hs0 (fun k hk => hk) (hb0.trans (hbW.mono hB)) (by omega) (by simp; omega) hz).mono ?_
  rintro e w2 ⟨ou, rfl, hb2, hat2⟩
  have hs2 := hb2.size
  have hw2 : Below w.heap.size w w2 := hbW.trans (hb2.mono (by omega))
  obtain ⟨xa, xc, C, rfl, _, hxc, hxs⟩ := hat2
  have Hxc := Lib.hid hxc
  have Hxs := Lib.hid hxs
  have hlen := spotsV_len [] v
  clear hxc hxs hs0 hat hbW
  have hpos := spotsV_pos [] v
  have Hfin := Lib.hid fun (wr : World) (vv : Value) (hb : Below w2.heap.size w2 wr) (hown : wr.ownsRow w2.heap.size 23 1 vv (spotsV [] v).length (flat (fun i => [(C i).headD .nilIface]) (spotsV [] v).length)) => ways_fin hb hown (fun i hi => (Hxs.out i hi).turn (S' := fun k => k < w2.heap.size) fun q hq => ⟨rfl, hq.2⟩)
  go_wp2_with fail
  go_loopw [3, 10] (fun v' i wr => WaysLoop w2 (spotsV [] v).length C v' i wr) (fun _ i _ => (spotsV [] v).length - (intOf i).toNat)
  case atStart => exact ⟨0, _, Nat.zero_le _, rfl, rfl, Below.refl _ _, World.ownsRow_nil _ _ _ _⟩
  case round =>
    obtain ⟨n, vv, hn, rfl, rfl, hb, hown⟩ := hrel
    by_cases hn' : n < (spotsV [] v).length
    · obtain ⟨b, rfl, ⟨_, hbN⟩, hcel⟩ := Hxc.out (by omega)
      have hn2 : n < (spotsV [] v).length := by omega
      have hsp := Hxs.out n hn2
      obtain ⟨qa, qn, qc, dk, dh, dt, dla, dka, dva, dnl, dcl, dnk, dck, dnv, dcv, hC⟩ := hsp.shape
      have hce := hcel n hn'
      rw [hC] at hce
      have hce' := hce.same (hb.block b hbN)
      obtain ⟨k0, k1, k2, k3, k4, k5, k6⟩ := cells7 hce'
      have u1 : (n : Int) < ((spotsV [] v).length : Int) := by omega
      have u2 : (0 : Int) ≤ (n : Int) := by omega
      obtain ⟨i0, hi, hz0, hz1, hz2⟩ := info_parts info_path
      have hhead : (C n).headD .nilIface = .slice qa qn qc := by rw [hC]; rfl
      obtain ⟨X1, hX1⟩ : ∃ X1, X1 = wr.alloc (.cells #[.slice qa qn qc, .int .i64 dk, .int .i64 dh, .string dt, .slice dla dnl dcl, .slice dka dnk dck, .slice dva dnv dcv] 54) := ⟨_, rfl⟩
      have hX1s : X1.heap.size = wr.heap.size + 1 := by rw [hX1]; simp
      have hbX1 : Below wr.heap.size wr X1 := by rw [hX1]; exact below_alloc1 _ _
      have HX1 := Lib.hid hX1
      clear hX1
      have hs := hb.size
      clear hcel hsp hce hce' hC
      obtain ⟨X, hX⟩ : ∃ X, X = X1.alloc (.cells #[.slice qa qn qc] 23) := ⟨_, rfl⟩
      have hXs : X.heap.size = wr.heap.size + 1 + 1 := by rw [hX]; simp [hX1s]
      have hbX : Below wr.heap.size wr X := hbX1.trans (by rw [hX]; exact (below_alloc1 X1 _).mono (by omega))
      have hnews : ∀ j u, [Value.slice qa qn qc][j]? = some u → X.cell? ((⟨wr.heap.size + 1, 0, none⟩ : Addr).add j) = some u := by
        rw [hX, ← hX1s]
        exact cells_new X1 [.slice qa qn qc] 23
      have HX : Hid ((wr.alloc (.cells #[.slice qa qn qc, .int .i64 dk, .int .i64 dh, .string dt, .slice dla dnl dcl, .slice dka dnk dck, .slice dva dnv dcv] 54)).alloc (.cells #[.slice qa qn qc] 23) = X) := by
        rw [← HX1.out]; exact Lib.hid hX.symm
      have hown2 := kept_row0 hown (below_grown2 hbX none)
      have hob := fun q hq => (World.ownsRow.lt hown q hq).1
      have hnext : ∀ v' w', w'.ownsRow w2.heap.size 23 1 v' (n + 1) (flat (fun i => [(C i).headD .nilIface]) n ++ [.slice qa qn qc]) → X.grownBy w' vv.ownBlock → WaysLoop w2 (spotsV [] v).length C v' (.int .i64 ((n : Int) + 1)) w' := by
        intro v' w' ho hg6
        refine ⟨n + 1, v', by omega, rfl, rfl, (hb.trans (hbX.mono hs)).grown hg6 (by omega) hob, ?_⟩
        have e : flat (fun i => [(C i).headD .nilIface]) (n + 1) = flat (fun i => [(C i).headD .nilIface]) n ++ [.slice qa qn qc] := by simp only [flat, hhead]
        rw [e]
        exact ho
      have Hnext := Lib.hid hnext
      have c1 : n + 1 ≤ maxLen := by unfold maxLen; omega
      have c2 : (n + 1) * 24 ≤ 140737488355328 := by omega
      have c3 : w2.heap.size ≤ X.heap.size := by omega
      have c4 : ∀ u ∈ [Value.slice qa qn qc], u.oneCell' = true := by simp [Value.oneCell']
      obtain ⟨va', vc', rfl⟩ := row_form hown
      clear hnext hown hob hX HX1 hbX1 hX1s hhead
      go_wp2_with (at_builtin; go_loud (rw [HX.out]; refine wpList_append_own_at _ rfl (.tmp 14) (.tmp 17) 39 rfl w2.heap.size 23 i0 _ 1 24 Tryz.underlying39 hi hz0 hz1 hz2 rfl (by decide) _ n (flat (fun i => [(C i).headD .nilIface]) n) rfl hown2 ⟨wr.heap.size + 1, 0, none⟩ 1 1 [.slice qa qn qc] rfl rfl hnews c4 c1 c2 c3 ?_; intro v6 w6 hown6 hg6 _ hat6; have Hloop := Lib.hid (Hnext.out v6 w6 hown6 hg6); obtain ⟨la', lc', rfl⟩ := row_form hown6; clear hown6 hg6 hat6))
      go_roundw
      case rel => exact Hloop.out
      case measure => simp [intOf]; omega
    · have en : n = (spotsV [] v).length := by omega
      have u1 : ¬ ((n : Int) < ((spotsV [] v).length : Int)) := by omega
      rw [en] at hown
      have hf := Hfin.out wr vv hb hown
      have Hf := Lib.hid hf
      have Hbf := Lib.hid (hw2.trans (hb.mono (by omega)))
      obtain ⟨va', vc', rfl⟩ := row_form hown
      clear hown hf Hfin
      go_wp2_with fail
      go_ret
      exact ⟨_, rfl, Hbf.out, Hf.out⟩

end Go.Proofs.YtiphcojcdegnkaaGreatDoor

namespace Go.Proofs.YtiphcojcdegnkaaGreatDoor
open Go Go.RowKit Go.Maps Go.Deep

set_option maxRecDepth 100000 in
theorem larray_any (a : Option Addr) (n c : Nat) (w : World) : Calls Tryz.prog 7 #[.slice a n c] w fun e w' =>
    e = .returned (.agg #[.int .i64 5, .int .i64 0, .string ⟨#[]⟩, .slice a n c, .slice none 0 0, .slice none 0 0]) ∧ Below w.heap.size w w' := by
  go_enter Tryz.func7, Tryz.ntmps7
  go_wp2_with fail
  refine bodyPost_ret (v := .agg #[.int .i64 5, .int .i64 0, .string ⟨#[]⟩, .slice a n c, .slice none 0 0, .slice none 0 0]) ?_ rfl ⟨rfl, below_alloc1 w _⟩
  exact results_cell_row (p := 2) (ty := 26) rfl _ _ w.heap.size 26 _ (0, 0) _ rfl (at_alloc w _) Tryz.underlying26 rfl (by kernel_rfl)

def FitsLoop (w : World) (l : List V) (i : Value) (wr : World) : Prop := ∃ n : Nat, n ≤ l.length ∧ i = .int .i64 (n : Nat) ∧ Below w.heap.size w wr ∧ (l.take n).all fitB = true

set_option maxHeartbeats 2000000 in
set_option maxRecDepth 100000 in
theorem fits_any (w : World) (l : List V) (la : Option Addr) (lc : Nat) (C : Nat → List Value) (hl : l.length * 104 ≤ 140737488351232)
    (cl : 0 < l.length → ∃ b o, la = some ⟨b, o, none⟩ ∧ b < w.heap.size ∧ ∀ i, i < l.length → CellsAt w b (o + i * 6) (C i)) (rl : ∀ i (hi : i < l.length), RepV w w.heap.size l[i] (C i)) (hTB : TabsB w w.heap.size) :
    Calls Tryz.prog 6 #[.slice la l.length lc] w (BoolP w (l.all fitB)) := by
  have Hcl := Lib.hid cl; clear cl
  go_enter Tryz.func6, Tryz.ntmps6
  go_wp2_with fail
  go_loopw [7] (fun i wr => FitsLoop w l i wr) (fun i _ => l.length - (intOf i).toNat)
  case atStart => exact ⟨0, Nat.zero_le _, rfl, Below.refl _ _, rfl⟩
  case round =>
    obtain ⟨n, hn, rfl, hb, hall⟩ := hrel
    by_cases hn' : n < l.length
    · obtain ⟨lb, lo, rfl, hlb, hcel⟩ := Hcl.out (by omega)
      have cc := (hcel n hn').below hb hlb
      have hr := (rl n hn').carry hb hb.size
      have hsn : (l.take (n + 1)).all fitB = fitB l[n] := by
        rw [List.take_succ_eq_append_getElem hn', List.all_append, hall]; simp
      have hno : fitB l[n] = false → l.all fitB = false := fun h => by
        rw [List.all_eq_false]
        exact ⟨_, List.getElem_mem hn', by simp [h]⟩
      have Hsn := Lib.hid hsn
      have Hno := Lib.hid hno
      obtain ⟨k', h', t', la2, ka2, va2, nl', cl', nk', ck', nv', cv', hC⟩ := hr.shape
      rw [hC] at cc hr
      have hal := below_alloc1 wr (.cells #[.int .i64 k', .int .i64 h', .string t', .slice la2 nl' cl', .slice ka2 nk' ck', .slice va2 nv' cv'] 26)
      have HF := Lib.hid (fit_any (wr.alloc (.cells #[.int .i64 k', .int .i64 h', .string t', .slice la2 nl' cl', .slice ka2 nk' ck', .slice va2 nv' cv'] 26)) l[n] _ (hr.carry hal hal.size) (hTB.carry (hb.trans (hal.mono hb.size)) (by have := hb.size; have := hal.size; omega)))
      obtain ⟨y0, y1, y2, y3, y4, y5⟩ := cells6 cc
      have u1 : (n : Int) < (l.length : Int) := by omega
      have u2 : (0 : Int) ≤ (n : Int) := by omega
      have Hb := Lib.hid (hb.trans (hal.mono hb.size))
      clear hcel cc hr hC hsn hno hall hal
      go_wp2_with fail
      refine HF.out.mono ?_
      rintro e w2 ⟨rfl, hw2⟩
      have hb3 : Below w.heap.size w w2 := Hb.out.trans (hw2.mono Hb.out.size)
      cases hf : fitB l[n] with
      | true =>
        have Hr := Lib.hid (Hsn.out.trans hf)
        clear hf hw2 HF
        go_wp2_with fail
        go_roundw
        case rel => exact ⟨n + 1, hn', by go_num, hb3, Hr.out⟩
        case measure => simp [intOf]; omega
      | false =>
        have Hr := Lib.hid (Hno.out hf)
        clear hf hw2 HF
        go_wp2_with fail
        go_ret
        exact ⟨by rw [Hr.out]; rfl, hb3⟩
    · have e : n = l.length := by omega
      have Hr := Lib.hid (show l.all fitB = true by rw [← hall, e, List.take_length])
      clear hall
      go_wp2_with fail
      go_ret
      exact ⟨by rw [Hr.out]; rfl, hb⟩

end Go.Proofs.YtiphcojcdegnkaaGreatDoor

namespace Go.Proofs.YtiphcojcdegnkaaGreatDoor
open Go Go.RowKit Go.Deep

theorem rep_array {w : World} {B : Nat} {p : List V} {pa : Option Addr} {pc : Nat} {C : Nat → List Value} (hpl : p.length * 104 ≤ 140737488351232)
    (cp : 0 < p.length → ∃ b o, pa = some ⟨b, o, none⟩ ∧ b < B ∧ ∀ i, i < p.length → CellsAt w b (o + i * 6) (C i)) (rp : ∀ i (hi : i < p.length), RepV w B p[i] (C i)) (hpc : p.length ≤ pc) :
    RepV w B (.mk 5 0 ⟨#[]⟩ p [] []) [.int .i64 5, .int .i64 0, .string ⟨#[]⟩, .slice pa p.length pc, .slice none 0 0, .slice none 0 0] :=
  .mk (ks := []) (vs := []) C (fun _ => []) (by decide) (by decide) (Nat.zero_le _) hpl (by simp) (by simp) (fun s hs => by simp at hs) cp rp (fun h => by simp at h) (fun h => by simp at h) (fun i hi => by simp at hi) hpc

theorem good_of_fits {v : V} {p : List V} (h : [v, .mk 5 0 ⟨#[]⟩ p [] []].all fitB = true) : Good v ∧ ∀ x ∈ p, Good x := by
  simp only [List.all_cons, List.all_nil, Bool.and_true, Bool.and_eq_true] at h
  refine ⟨fit_good h.1, fun x hx => ?_⟩
  obtain ⟨_, _, _, list, _, _, _⟩ := (fit_good h.2).all
  obtain ⟨i, hi, rfl⟩ := List.mem_iff_getElem.1 hx
  exact list i hi

/-- Two values that stand side by side. -/
theorem pair_cells {w : World} {b : Nat} {c0 c1 c2 c3 c4 c5 d0 d1 d2 d3 d4 d5 : Value} {t : TypeId} (h : w.heap[b]? = some (.cells #[c0, c1, c2, c3, c4, c5, d0, d1, d2, d3, d4, d5] t)) :
    CellsAt w b 0 [c0, c1, c2, c3, c4, c5] ∧ CellsAt w b 6 [d0, d1, d2, d3, d4, d5] := by
  refine ⟨fun j hj => ?_, fun j hj => ?_⟩
  · simp only [List.length_cons, List.length_nil] at hj
    match j, hj with
    | 0, _ | 1, _ | 2, _ | 3, _ | 4, _ | 5, _ => simp [World.cell?, h]
  · simp only [List.length_cons, List.length_nil] at hj
    match j, hj with
    | 0, _ | 1, _ | 2, _ | 3, _ | 4, _ | 5, _ => simp [World.cell?, h]

/-- laws.fits of two values. -/
theorem fits2_any (w : World) (a b : V) (ca cb : List Value) (ha : RepV w w.heap.size a ca) (hb : RepV w w.heap.size b cb) (z : Nat) (hz : ∀ j, j < 2 → CellsAt w z (j * 6) (if j = 0 then ca else cb)) (hzl : z < w.heap.size) (hTB : TabsB w w.heap.size) (c : Nat) :
    Calls Tryz.prog 6 #[.slice (some ⟨z, 0, none⟩) 2 c] w (BoolP w ([a, b].all fitB)) :=
  fits_any w [a, b] (some ⟨z, 0, none⟩) c (fun i => if i = 0 then ca else cb) (by simp) (fun _ => ⟨z, 0, rfl, hzl, fun i hi => by have := hz i (by simpa using hi); rw [Nat.zero_add]; exact this⟩)
    (fun i hi => by
      match i, hi with
      | 0, _ => exact ha
      | 1, _ => exact hb) hTB

set_option maxHeartbeats 4000000 in
set_option maxRecDepth 100000 in
theorem fnGetPath_any (w : World) (v : V) (cv : List Value) (hv : RepV w w.heap.size v cv) (p : List V) (pa : Option Addr) (pc : Nat) (C : Nat → List Value) (hpl : p.length * 104 ≤ 140737488351232)
    (cp : 0 < p.length → ∃ b o, pa = some ⟨b, o, none⟩ ∧ b < w.heap.size ∧ ∀ i, i < p.length → CellsAt w b (o + i * 6) (C i)) (rp : ∀ i (hi : i < p.length), RepV w w.heap.size p[i] (C i)) (hpc : p.length ≤ pc) (hTB : TabsB w w.heap.size) :
    Calls Tryz.prog 3 #[.agg cv.toArray, .slice pa p.length pc] w (Yes w) := by
  have hp := rep_array hpl cp rp hpc
  have Za := Lib.hid fun (w' : World) (h : Below w.heap.size w w') => zz1_any w' v cv (hv.carry h h.size)
  have Fi := Lib.hid fun (w' : World) (h : Below w.heap.size w w') z hz hzl c => fits2_any w' v (.mk 5 0 ⟨#[]⟩ p [] []) cv _ (hv.carry h h.size) (hp.carry h h.size) z hz hzl (hTB.carry h h.size) c
  have Gs := Lib.hid fun h => good_of_fits (v := v) (p := p) h
  have Sp := Lib.hid fun (gv : Good v) (gp : ∀ x ∈ p, Good x) (w' : World) (h : Below w.heap.size w w') => getPath_any w w.heap.size v cv hv p pa pc C hpl cp rp gv gp w' h h.size
  have Om := Lib.hid fun (gv : Good v) (gp : ∀ x ∈ p, Good x) (hns : pathA v p ≠ .silent) (w' : World) (h : Below w.heap.size w w') => implGet_any hv hp gv gp hns w' h h.size
  have Pg := Lib.hid fun (gv : Good v) => fun x => pathA_good (p := p) (x := x) gv
  generalize [v, .mk 5 0 ⟨#[]⟩ p [] []].all fitB = fb at *
  generalize pathA v p = an at *
  obtain ⟨k, h, t, la, ka, va, nl, cl, nk, ck, nv, cv, rfl⟩ := hv.shape
  clear hv hp hTB cp rp
  generalize p.length = n at *
  go_enter Tryz.func3, Tryz.ntmps3
  go_wp2_with fail
  have hbW := below_alloc1 w (.cells #[.int .i64 k, .int .i64 h, .string t, .slice la nl cl, .slice ka nk ck, .slice va nv cv] 26)
  have hx0 := at_alloc w (.cells #[.int .i64 k, .int .i64 h, .string t, .slice la nl cl, .slice ka nk ck, .slice va nv cv] 26)
  have hsW := size_alloc1 w (.cells #[.int .i64 k, .int .i64 h, .string t, .slice la nl cl, .slice ka nk ck, .slice va nv cv] 26)
  refine (Za.out _ hbW).mono ?_
  generalize w.alloc _ = W at *
  rintro e w1 ⟨⟨za, rfl⟩, hw1⟩
  have hs1 : w.heap.size + 1 ≤ w1.heap.size := by have := hw1.size; omega
  have y0 := (hw1.block w.heap.size (by omega)).trans hx0
  have hb1 : Below w.heap.size w w1 := hbW.trans (hw1.mono (by omega))
  clear hw1 hbW hx0 hsW
  cases za with
  | false =>
    go_wp2_with fail
    go_ret
    exact ⟨rfl, hb1⟩
  | true =>
  by_cases hbig : (n : Int) > 2147483647
  · go_wp2_with fail
    go_ret
    exact ⟨rfl, hb1⟩
  go_upto_region 3 with fail
  have hold : ∀ w', Below w1.heap.size w1 w' → (fun w' : World => w'.cell? ⟨w.heap.size, 0, none⟩ = some (.int .i64 k) ∧ w'.cell? ⟨w.heap.size, 1, none⟩ = some (.int .i64 h) ∧ w'.cell? ⟨w.heap.size, 2, none⟩ = some (.string t) ∧ w'.cell? ⟨w.heap.size, 3, none⟩ = some (.slice la nl cl) ∧ w'.cell? ⟨w.heap.size, 4, none⟩ = some (.slice ka nk ck) ∧ w'.cell? ⟨w.heap.size, 5, none⟩ = some (.slice va nv cv) ∧ Below w1.heap.size w1 w') w' := by
    intro w' hw
    obtain ⟨a0, a1, a2, a3, a4, a5⟩ := of_block6 ((hw.block w.heap.size (by omega)).trans y0)
    exact ⟨a0, a1, a2, a3, a4, a5, hw⟩
  have Hold := Lib.hid hold
  obtain ⟨a0, a1, a2, a3, a4, a5, hw⟩ := hold _ (Below.refl w1.heap.size w1)
  have Ar : Hid (∀ w', Below w1.heap.size w1 w' → Calls Tryz.prog 7 #[.slice pa n pc] w' fun e w'' => e = .returned (.agg #[.int .i64 5, .int .i64 0, .string ⟨#[]⟩, .slice pa n pc, .slice none 0 0, .slice none 0 0]) ∧ Below w1.heap.size w1 w'') :=
    Lib.hid fun w' hw => (larray_any pa n pc w').mono fun e w'' h => ⟨h.1, hw.trans (h.2.mono hw.size)⟩
  have Hb1 := Lib.hid hb1
  have Y0 := Lib.hid fun (_ : True) => y0
  go_cut [20] (fun s20 wx => s20 = .bool (!fb) ∧ Below w1.heap.size w1 wx)
  case first =>
    have Fi2 : Hid (∀ w' (c : Nat), Below w1.heap.size w1 w' → Calls Tryz.prog 6 #[.slice (some ⟨w'.heap.size, 0, none⟩) 2 c] (w'.alloc (.cells #[.int .i64 k, .int .i64 h, .string t, .slice la nl cl, .slice ka nk ck, .slice va nv cv, .int .i64 5, .int .i64 0, .string ⟨#[]⟩, .slice pa n pc, .slice none 0 0, .slice none 0 0] 26))
        fun e w'' => e = .returned (.bool fb) ∧ Below w1.heap.size w1 w'') :=
      Lib.hid fun w' c hw => (Fi.out (w'.alloc (.cells #[.int .i64 k, .int .i64 h, .string t, .slice la nl cl, .slice ka nk ck, .slice va nv cv, .int .i64 5, .int .i64 0, .string ⟨#[]⟩, .slice pa n pc, .slice none 0 0, .slice none 0 0] 26)) (keep_alloc (Hb1.out.trans (hw.mono Hb1.out.size)) (by have := hw.size; have := Hb1.out.size; omega) _) w'.heap.size
        (fun j hj => by
          have hc := pair_cells (at_alloc w' (.cells #[.int .i64 k, .int .i64 h, .string t, .slice la nl cl, .slice ka nk ck, .slice va nv cv, .int .i64 5, .int .i64 0, .string ⟨#[]⟩, .slice pa n pc, .slice none 0 0, .slice none 0 0] 26))
          match j, hj with
          | 0, _ => exact hc.1
          | 1, _ => exact hc.2) (by rw [size_alloc1]; omega) c).mono fun e w'' h => ⟨h.1, (keep_alloc hw hw.size _).trans (h.2.mono (by rw [size_alloc1]; have := hw.size; omega))⟩
    clear hold Za Fi Gs Sp Om Pg y0 hb1
    go_region_held3 (fun w' : World => w'.cell? ⟨w.heap.size, 0, none⟩ = some (.int .i64 k) ∧ w'.cell? ⟨w.heap.size, 1, none⟩ = some (.int .i64 h) ∧ w'.cell? ⟨w.heap.size, 2, none⟩ = some (.string t) ∧ w'.cell? ⟨w.heap.size, 3, none⟩ = some (.slice la nl cl) ∧ w'.cell? ⟨w.heap.size, 4, none⟩ = some (.slice ka nk ck) ∧ w'.cell? ⟨w.heap.size, 5, none⟩ = some (.slice va nv cv) ∧ Below w1.heap.size w1 w')
      (first | exact Hold.out _ (by assumption) | exact Hold.out _ (Below.drew (by assumption)) | exact Hold.out _ (keep_alloc (by assumption) (Below.size (by assumption)) _))
      (first
        | (go_at_call 7; go_split_ands; refine (Ar.out _ (by assumption)).mono ?_; rintro e w6 ⟨rfl, hw6⟩)
        | (go_at_call 6; go_split_ands; refine (Fi2.out _ _ (by assumption)).mono ?_; rintro e w7 ⟨rfl, hw7⟩))
    all_goals
      go_split_ands
      go_wp2_with fail
      go_meet
      exact ⟨rfl, by assumption⟩
  case rest =>
  obtain ⟨rfl, hwc⟩ := hcut
  have hsc := hwc.size
  have hbc : Below w.heap.size w wc := Hb1.out.trans (hwc.mono (by omega))
  have yc := (hwc.block w.heap.size (by omega)).trans (Y0.out trivial)
  clear hold Hold hb1 hw hwc Y0 Hb1 Ar Fi Za hbig y0 a0 a1 a2 a3 a4 a5
  cases fb with
  | false =>
    go_wp2_with fail
    go_ret
    exact ⟨rfl, hbc⟩
  | true =>
  obtain ⟨gv, gp⟩ := Gs.out rfl
  have Sp2 := Lib.hid (Sp.out gv gp)
  have Om2 := Lib.hid (Om.out gv gp)
  have Pg2 := Lib.hid (Pg.out gv)
  clear Gs Sp Om Pg gv gp
  obtain ⟨a0, a1, a2, a3, a4, a5⟩ := of_block6 yc
  go_wp2_with fail
  refine (Sp2.out _ hbc).mono ?_
  rintro e w4 ⟨k1, h1, t1, la1, ka1, va1, nl1, cl1, nk1, ck1, nv1, cv1, rfl, hP, hw4⟩
  have hs4 : w.heap.size + 1 ≤ w4.heap.size := by have := hw4.size; omega
  have z0 := (hw4.block w.heap.size (by omega)).trans yc
  have hb4 : Below w.heap.size w w4 := hbc.trans (hw4.mono (by omega))
  have HP : Hid (∀ v, an = .fine v → RepV w w.heap.size v [.int .i64 k1, .int .i64 h1, .string t1, .slice la1 nl1 cl1, .slice ka1 nk1 ck1, .slice va1 nv1 cv1]) := Lib.hid hP
  clear hP hw4 yc hbc a0 a1 a2 a3 a4 a5 Sp2 hsc
  have hv5 := at_alloc w4 (.cells #[.int .i64 k1, .int .i64 h1, .string t1, .slice la1 nl1 cl1, .slice ka1 nk1 ck1, .slice va1 nv1 cv1] 26)
  have hw5 := below_alloc1 w4 (.cells #[.int .i64 k1, .int .i64 h1, .string t1, .slice la1 nl1 cl1, .slice ka1 nk1 ck1, .slice va1 nv1 cv1] 26)
  have hs5 := size_alloc1 w4 (.cells #[.int .i64 k1, .int .i64 h1, .string t1, .slice la1 nl1 cl1, .slice ka1 nk1 ck1, .slice va1 nv1 cv1] 26)
  by_cases hsil : an.how = 2
  · rw [hsil]
    clear hv5 hs5 z0
    go_wp2_with fail
    go_ret
    exact ⟨rfl, below_next hb4 hw5⟩
  have hns : an ≠ .silent := fun e => hsil (by rw [e]; rfl)
  have t2 : (an.how == 2) = false := by simpa using hsil
  have Om3 := Lib.hid (Om2.out hns)
  clear Om2 hsil hns
  have HS := Lib.hid fun (w : World) (hR1 : ∀ v, an = .fine v → RepV w w.heap.size v [.int .i64 k1, .int .i64 h1, .string t1, .slice la1 nl1 cl1, .slice ka1 nk1 ck1, .slice va1 nv1 cv1]) (k h n : Int) (t : ByteArray) (la ka va : Option Addr) (nl cl nk ck nv cv : Nat) (hR : Got w an k h t la ka va nl cl nk ck nv cv n) => told_ans Pg2.out hR hR1
  generalize an.how = m at *
  go_upto_region 8 with fail
  generalize w4.alloc _ = W5 at *
  have v0 := (hw5.block w.heap.size (by omega)).trans z0
  have hb5 : Below w.heap.size w W5 := hb4.trans (hw5.mono (by omega))
  have hold : ∀ w', Below W5.heap.size W5 w' → (fun w' : World => w'.cell? ⟨w.heap.size, 0, none⟩ = some (.int .i64 k) ∧ w'.cell? ⟨w.heap.size, 1, none⟩ = some (.int .i64 h) ∧ w'.cell? ⟨w.heap.size, 2, none⟩ = some (.string t) ∧ w'.cell? ⟨w.heap.size, 3, none⟩ = some (.slice la nl cl) ∧ w'.cell? ⟨w.heap.size, 4, none⟩ = some (.slice ka nk ck) ∧ w'.cell? ⟨w.heap.size, 5, none⟩ = some (.slice va nv cv) ∧ w'.cell? ⟨w4.heap.size, 0, none⟩ = some (.int .i64 k1) ∧ w'.cell? ⟨w4.heap.size, 1, none⟩ = some (.int .i64 h1) ∧ w'.cell? ⟨w4.heap.size, 2, none⟩ = some (.string t1) ∧ w'.cell? ⟨w4.heap.size, 3, none⟩ = some (.slice la1 nl1 cl1) ∧ w'.cell? ⟨w4.heap.size, 4, none⟩ = some (.slice ka1 nk1 ck1) ∧ w'.cell? ⟨w4.heap.size, 5, none⟩ = some (.slice va1 nv1 cv1) ∧ Below W5.heap.size W5 w') w' := by
    intro w' hw
    obtain ⟨a0, a1, a2, a3, a4, a5⟩ := of_block6 ((hw.block w.heap.size (by omega)).trans v0)
    obtain ⟨c0, c1, c2, c3, c4, c5⟩ := of_block6 ((hw.block w4.heap.size (by omega)).trans hv5)
    exact ⟨a0, a1, a2, a3, a4, a5, c0, c1, c2, c3, c4, c5, hw⟩
  have Hold := Lib.hid hold
  obtain ⟨a0, a1, a2, a3, a4, a5, c0, c1, c2, c3, c4, c5, hw⟩ := hold _ (Below.refl W5.heap.size W5)
  have Ar5 : Hid (∀ w', Below W5.heap.size W5 w' → Calls Tryz.prog 7 #[.slice pa n pc] w' fun e w'' => e = .returned (.agg #[.int .i64 5, .int .i64 0, .string ⟨#[]⟩, .slice pa n pc, .slice none 0 0, .slice none 0 0]) ∧ Below W5.heap.size W5 w'') :=
    Lib.hid fun w' hw => (larray_any pa n pc w').mono fun e w'' h => ⟨h.1, hw.trans (h.2.mono hw.size)⟩
  have Om5 : Hid (∀ w', Below W5.heap.size W5 w' → Calls Tryz.prog 10 #[.agg #[.int .i64 k, .int .i64 h, .string t, .slice la nl cl, .slice ka nk ck, .slice va nv cv], .agg #[.int .i64 5, .int .i64 0, .string ⟨#[]⟩, .slice pa n pc, .slice none 0 0, .slice none 0 0]] w' (GotFrom W5 an)) :=
    Lib.hid fun w' hw => (Om3.out w' (hb5.trans (hw.mono hb5.size))).mono fun e w'' h => h.from hw
  have To5 : Hid (∀ (k h n : Int) (t : ByteArray) (la ka va : Option Addr) (nl cl nk ck nv cv : Nat) (w' : World), Got w' an k h t la ka va nl cl nk ck nv cv n → Below W5.heap.size W5 w' →
      Calls Tryz.prog 9 #[.agg #[.int .i64 k, .int .i64 h, .string t, .slice la nl cl, .slice ka nk ck, .slice va nv cv, .int .i64 n], .agg #[.int .i64 k1, .int .i64 h1, .string t1, .slice la1 nl1 cl1, .slice ka1 nk1 ck1, .slice va1 nv1 cv1], .int .i64 m] w' fun e w'' => e = .returned (.bool true) ∧ Below W5.heap.size W5 w'') :=
    Lib.hid fun k h n t la ka va nl cl nk ck nv cv w' hR hw => (HS.out w' (fun v hv => (HP.out v hv).carry (hb5.trans (hw.mono hb5.size)) (by have := hb5.size; have := hw.size; omega)) k h n t la ka va nl cl nk ck nv cv hR).mono fun e w'' h => ⟨h.1, hw.trans (h.2.mono hw.size)⟩
  have HB5 := Lib.hid hb5
  have h5 := Below.refl W5.heap.size W5
  clear HS hold hw v0 hb5 hv5 hw5 hs5 HP Om3 z0 hb4 hs4 Pg2
  go_region_held3 (fun w' : World => w'.cell? ⟨w.heap.size, 0, none⟩ = some (.int .i64 k) ∧ w'.cell? ⟨w.heap.size, 1, none⟩ = some (.int .i64 h) ∧ w'.cell? ⟨w.heap.size, 2, none⟩ = some (.string t) ∧ w'.cell? ⟨w.heap.size, 3, none⟩ = some (.slice la nl cl) ∧ w'.cell? ⟨w.heap.size, 4, none⟩ = some (.slice ka nk ck) ∧ w'.cell? ⟨w.heap.size, 5, none⟩ = some (.slice va nv cv) ∧ w'.cell? ⟨w4.heap.size, 0, none⟩ = some (.int .i64 k1) ∧ w'.cell? ⟨w4.heap.size, 1, none⟩ = some (.int .i64 h1) ∧ w'.cell? ⟨w4.heap.size, 2, none⟩ = some (.string t1) ∧ w'.cell? ⟨w4.heap.size, 3, none⟩ = some (.slice la1 nl1 cl1) ∧ w'.cell? ⟨w4.heap.size, 4, none⟩ = some (.slice ka1 nk1 ck1) ∧ w'.cell? ⟨w4.heap.size, 5, none⟩ = some (.slice va1 nv1 cv1) ∧ Below W5.heap.size W5 w')
    (first | exact Hold.out _ (by assumption) | exact Hold.out _ (Below.drew (by assumption)))
    (first
      | (go_at_call 7; go_split_ands; refine (Ar5.out _ (by assumption)).mono ?_; rintro e w6 ⟨rfl, hw6⟩)
      | (go_at_call 10; go_split_ands; refine (Om5.out _ (by assumption)).mono ?_; rintro e w6 ⟨k2, h2, t2, la2, ka2, va2, nl2, cl2, nk2, ck2, nv2, cv2, n2, rfl, hR, hw6⟩)
      | (go_at_call 9; go_split_ands; refine (To5.out _ _ _ _ _ _ _ _ _ _ _ _ _ _ (by assumption) (by assumption)).mono ?_; rintro e w7 ⟨rfl, hw7⟩))
  all_goals
    go_wp2_with fail
    go_split_ands
    go_ret
    exact ⟨rfl, HB5.out.trans (Below.mono (by assumption) HB5.out.size)⟩

end Go.Proofs.YtiphcojcdegnkaaGreatDoor

namespace Go.Proofs.YtiphcojcdegnkaaGreatDoor
open Go Go.RowKit Go.Deep

theorem way_path {v : V} {p : List V} {y : V} (h : WayTo v p y) : Good v → pathA v p = .fine y := by
  induction h with
  | here v => intro _; rfl
  | @elem k h t l ks vs p y i hi hw ih =>
    intro g
    obtain ⟨h5, _, _⟩ := g.kinds
    obtain rfl : k = 5 := h5.resolve_right fun e => by rw [e] at hi; simp at hi
    have gi : Good l[i] := by
      cases g with
      | mk shape half valid list rise vkeys vals => exact list i hi
    have e : stepA (.mk 5 h t l ks vs) (numV i) = .fine l[i] := by
      unfold numV
      rw [stepA_mk, if_neg (by omega), if_neg (by omega)]
      have e1 : nthA l (2 * (i : Int)) = l[i] := by
        unfold nthA
        have e2 : (2 * (i : Int)).tdiv 2 = i := by simp
        simp only [e2]
        rw [if_neg (show ¬ (i : Int) < 0 by omega), if_neg (show ¬ (i : Int) < 0 by omega)]
        simp [List.getD, hi]
      simp [indexA, V.kind, V.half, V.list, e1]
    simp only [pathA, e]
    exact ih gi
  | @key k h t l ks vs p y i hk hi hw ih =>
    intro g
    obtain ⟨_, h6, hlen⟩ := g.kinds
    obtain rfl : k = 6 := h6.resolve_right fun e => by rw [e] at hk; simp at hk
    have gi : Good vs[i] ∧ RiseK ks := by
      cases g with
      | mk shape half valid list rise vkeys vals => exact ⟨vals i hi, RiseK.of rise⟩
    have e : stepA (.mk 6 h t l ks vs) (strV ks[i]) = .fine vs[i] := by
      unfold strV
      rw [stepA_mk, if_neg (by omega), if_neg (by omega)]
      obtain ⟨e1, e2⟩ := hasK_at gi.2 hk
      have e3 : getV ks vs ks[i] = vs[i] := by
        unfold getV
        rw [if_pos e2, e1]
        simp [List.getD, hi]
      simp [indexA, V.kind, V.text, V.keys, V.vals, e3]
    simp only [pathA, e]
    exact ih gi.1

theorem rep_way {v : V} {p : List V} {y : V} (h : WayTo v p y) : ∀ {w : World} {B : Nat} {cs : List Value}, RepV w B v cs → ∀ k, strV k ∈ p → k.size ≤ 140737488351232 := by
  induction h with
  | here v => intro w B cs _ k hk; cases hk
  | @elem k h t l ks vs p y i hi hw ih =>
    intro w B cs hr k' hk
    cases hr with
    | mk C D _ _ _ _ _ _ _ _ rl _ _ _ =>
      rcases List.mem_cons.1 hk with e | hk
      · exact absurd e (by simp [numV, strV])
      · exact ih (rl i hi) k' hk
  | @key k h t l ks vs p y i hk hi hw ih =>
    intro w B cs hr k' hk'
    cases hr with
    | mk C D _ _ _ _ _ _ hs _ _ _ _ rv =>
      rcases List.mem_cons.1 hk' with e | hk'
      · rw [strV_inj e]; exact hs _ (List.getElem_mem hk)
      · exact ih (rv i hi) k' hk'

theorem key_rep {w : World} {B : Nat} {s : Stp} (hs : s.small) : RepV w B s.v (keyC s.v) := by
  cases s with
  | key k => exact .mk (l := []) (ks := []) (vs := []) (fun _ => []) (fun _ => []) (by decide) (by decide) hs (by simp) (by simp) (by simp) (fun s hs => by simp at hs) (fun h => by simp at h) (fun i hi => by simp at hi) (fun h => by simp at h) (fun h => by simp at h) (fun i hi => by simp at hi) (Nat.le_refl _)
  | idx n =>
    have hn : n ≤ 1000 := hs
    exact .mk (l := []) (ks := []) (vs := []) (fun _ => []) (fun _ => []) (by decide) (by omega) (Nat.zero_le _) (by simp) (by simp) (by simp) (fun s hs => by simp at hs) (fun h => by simp at h) (fun i hi => by simp at hi) (fun h => by simp at h) (fun h => by simp at h) (fun i hi => by simp at hi) (Nat.le_refl _)
theorem key_good {s : Stp} (hs : s.small) (hv : ∀ k, s = .key k → Good (strV k)) : Good s.v := by
  cases s with
  | key k => exact hv k rfl
  | idx n =>
    have hn : n ≤ 1000 := hs
    show Good (numV n)
    unfold numV
    refine .mk ?_ ?_ rfl (fun i hi => by simp at hi) (fun i hi => by simp at hi) (fun i hi => by simp at hi) (fun i hi => by simp at hi)
    · simp [shapeB, Lib.toList_data]
    · simp only [halfB, Bool.and_eq_true, decide_eq_true_eq, Bool.or_eq_true, beq_iff_eq]
      refine ⟨by omega, .inr (by omega)⟩
theorem way_good {v : V} {p : List V} {y : V} (h : WayTo v p y) : Good v → sizeV v ≤ 400 → Good y ∧ ∀ x ∈ p, Good x := by
  induction h with
  | here v => intro g _; exact ⟨g, fun x hx => by cases hx⟩
  | @elem k h t l ks vs p y i hi hw ih =>
    intro g hz
    have h1 := sizeL_get hi
    have h2 := sizeL_len l
    rw [sizeV] at hz
    have gi : Good l[i] := by
      cases g with
      | mk shape half valid list rise vkeys vals => exact list i hi
    refine ⟨(ih gi (by omega)).1, fun x hx => ?_⟩
    rcases List.mem_cons.1 hx with rfl | hx
    · have hs : halfB (2 * (i : Int)) = true := by
        simp only [halfB, Bool.and_eq_true, decide_eq_true_eq, Bool.or_eq_true, beq_iff_eq]
        refine ⟨by omega, .inr (by omega)⟩
      unfold numV
      exact .mk (by simp [shapeB, Lib.toList_data]) hs rfl (fun i hi => by simp at hi) (fun i hi => by simp at hi) (fun i hi => by simp at hi) (fun i hi => by simp at hi)
    · exact (ih gi (by omega)).2 x hx
  | @key k h t l ks vs p y i hk hi hw ih =>
    intro g hz
    have h1 := sizeL_get hi
    rw [sizeV] at hz
    have gi : Good vs[i] ∧ Lib.validD ks[i].data.toList = true := by
      cases g with
      | mk shape half valid list rise vkeys vals => exact ⟨vals i hi, vkeys i hk⟩
    refine ⟨(ih gi.1 (by omega)).1, fun x hx => ?_⟩
    rcases List.mem_cons.1 hx with rfl | hx
    · unfold strV
      exact .mk (by simp [shapeB, Lib.toList_data]) (by decide) gi.2 (fun i hi => by simp at hi) (fun i hi => by simp at hi) (fun i hi => by simp at hi) (fun i hi => by simp at hi)
    · exact (ih gi.1 (by omega)).2 x hx

theorem hole_not (v : V) : isHole (toJ v) = false := by
  obtain ⟨k, h, t, l, ks, vs⟩ := v
  unfold toJ
  repeat' split
  all_goals rfl

theorem setOld_set {w0 : World} {B : Nat} {v y : V} {p : List V} {cv cb cy : List Value} (hv : RepV w0 B v cv) (hp : RepV w0 B (.mk 5 0 ⟨#[]⟩ p [] []) cb) (hy : RepV w0 B y cy) (gv : Good v) (hz : sizeV v ≤ 400) (hw : WayTo v p y)
    (w : World) (hbel : Below B w0 w) (hB : B ≤ w.heap.size) : Calls Tryz.prog 13 #[.agg cv.toArray, .agg cb.toArray, .agg cy.toArray] w (ResQ w (.fine v)) := by
  obtain ⟨gy, gp⟩ := way_good hw gv hz
  obtain ⟨s, rfl, hs⟩ := stps_of hw
  have hsm : ∀ x ∈ s, x.small := by
    intro x hx
    cases x with
    | key k => exact rep_way hw hv k (List.mem_map.2 ⟨_, hx, rfl⟩)
    | idx n => exact Nat.le_of_lt (Nat.lt_of_lt_of_le (hs n hx) (by omega))
  refine implSet_walk hv hp hy (.fine v) (toGo_any w0 B v cv hv gv) (toGo_any w0 B _ cb hp (good_row gp)) (toGo_any w0 B y cy hy gy) ?_ w hbel hB
  intro w N M x q z hNM hM jx jq jz
  have h := zzSet_any hsm (toJ_slim gv hv.small) (fine_all s (toJ v) (toJ y) (hole_not y)) jx (by rw [toJ_5] at jq; exact jq) jz (fun k h1 h2 => by have := h2.1; omega) (fun k hk => by omega) (fun k hk => hk) (fun k hk => hk.2)
  rw [upd_way hw gv s rfl] at h
  refine h.mono ?_
  rintro e w' ⟨u, he, hb, h1, _⟩
  have hs' := hb.size
  refine ⟨u, he, subR_of (fun y hy => by cases hy; exact ⟨gv, hv.small⟩) (by intro e; cases e) ⟨hb, fun y hy => ?_, fun e => by cases e⟩⟩
  cases hy
  refine (h1 _ rfl).mono fun k hk => ?_
  rcases hk with hk | hk | hk
  · omega
  · have := hk.2; omega
  · exact hk.2

set_option maxRecDepth 100000 in
theorem given_any {w : World} {v : V} (gv : Good v) {k h n k1 h1 : Int} {t t1 : ByteArray} {la ka va la1 ka1 va1 : Option Addr} {nl cl nk ck nv cv nl1 cl1 nk1 ck1 nv1 cv1 : Nat}
    (hR : Got w (.fine v) k h t la ka va nl cl nk ck nv cv n) (hP : RepV w w.heap.size v [.int .i64 k1, .int .i64 h1, .string t1, .slice la1 nl1 cl1, .slice ka1 nk1 ck1, .slice va1 nv1 cv1]) :
    Calls Tryz.prog 12 #[.agg #[.int .i64 k, .int .i64 h, .string t, .slice la nl cl, .slice ka nk ck, .slice va nv cv, .int .i64 n], .agg #[.int .i64 k1, .int .i64 h1, .string t1, .slice la1 nl1 cl1, .slice ka1 nk1 ck1, .slice va1 nv1 cv1]] w (Yes w) := by
  have hT := Lib.hid fun (w' : World) (hb : Below w.heap.size w w') => told_ans (w := w') (an := .fine v) (fun x e => by cases e; exact gv) (k := k) (h := h) (n := n) (t := t) (la := la) (ka := ka) (va := va) (nl := nl) (cl := cl) (nk := nk) (ck := ck) (nv := nv) (cv := cv)
    ⟨fun x e => ⟨(hR.1 x e).1, (hR.1 x e).2.carry hb hb.size⟩, hR.2⟩ (fun x e => by cases e; exact hP.carry hb hb.size)
  clear hR hP
  go_enter Tryz.func12, Tryz.ntmps12
  go_wp2_with fail
  refine (hT.out _ (below_alloc2 w _ _)).mono ?_
  rintro e w1 ⟨rfl, hb⟩
  have hs := (below_alloc2 w (.cells #[.int .i64 k, .int .i64 h, .string t, .slice la nl cl, .slice ka nk ck, .slice va nv cv, .int .i64 n] 35) (.cells #[.int .i64 k1, .int .i64 h1, .string t1, .slice la1 nl1 cl1, .slice ka1 nk1 ck1, .slice va1 nv1 cv1] 26)).trans (hb.mono (by simp; omega))
  have Hs := Lib.hid hs
  clear hs hb
  go_wp2_with fail
  go_ret
  exact ⟨rfl, Hs.out⟩

end Go.Proofs.YtiphcojcdegnkaaGreatDoor
