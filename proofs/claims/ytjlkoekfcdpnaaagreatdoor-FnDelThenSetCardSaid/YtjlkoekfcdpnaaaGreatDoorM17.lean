/- Rows of places (spec.Spot), read. -/
/- spec.Ways. -/
/- Contracts of laws.array, laws.fits. -/
/- Contract of laws.given where the answer is what is wanted. -/
/- A path of keys and places in memory; what laws.given and laws.fits answer. -/
/- What laws.FnSetOld needs besides the walk: a place's path leads to it; its path in memory; impl.SetPath at it; laws.given. -/
/- Plain: setpath on values: what it makes, that it is good, and what stands at the path then; a part that was taken out first makes no difference. -/
/- Plain: what stands at a path with a key last may be taken out before it is set. -/
import Derived.Test.YtjlkoekfcdpnaaaGreatDoorM16
import Derived.Deep.RegionWith
import Derived.Test.YtjlkoekfcdpnaaaGreatDoorM12
import Derived.Test.YtjlkoekfcdpnaaaGreatDoorM14
import Derived.Test.YtjlkoekfcdpnaaaGreatDoorM11
import Derived.Test.YtjlkoekfcdpnaaaGreatDoorM10
import Derived.Test.YtjlkoekfcdpnaaaGreatDoorM05
import Derived.Test.YtjlkoekfcdpnaaaGreatDoorM07
import Derived.Test.YtjlkoekfcdpnaaaGreatDoorM08
namespace Go.Proofs.YtjlkoekfcdpnaaaGreatDoor
open Go Go.RowKit Go.Maps Go.Deep
/-- A place: its path lies in S, what stands there in w0 below B. -/
def SpotS (w w0 : World) (B : Nat) (S : Nat → Prop) (q : List V × V) (cs : List Value) : Prop :=
  ∃ pv cy, cs = pv :: cy ∧ PathS w S q.1 pv ∧ (q.1 = [] → pv = .slice none 0 0) ∧ RepV w0 B q.2 cy
theorem SpotS.turn {w w' w0 : World} {B : Nat} {S S' : Nat → Prop} {q : List V × V} {cs : List Value} (h : SpotS w w0 B S q cs) (hS : ∀ k, S k → w'.heap[k]? = w.heap[k]? ∧ S' k) : SpotS w' w0 B S' q cs := by
  obtain ⟨pv, cy, e, hp, h0, hr⟩ := h
  exact ⟨pv, cy, e, hp.turn hS, h0, hr⟩
theorem SpotS.seven {w w0 : World} {B : Nat} {S : Nat → Prop} {q : List V × V} {cs : List Value} (h : SpotS w w0 B S q cs) : cs.length = 7 := by
  obtain ⟨pv, cy, rfl, _, _, hr⟩ := h
  have := hr.toS.six
  simp [this]
theorem SpotS.one {w w0 : World} {B : Nat} {S : Nat → Prop} {q : List V × V} {cs : List Value} (h : SpotS w w0 B S q cs) : ∀ u ∈ cs, u.oneCell' = true := by
  obtain ⟨pv, cy, rfl, ⟨la, lc, rfl, _⟩, _, hr⟩ := h
  intro u hu
  rcases List.mem_cons.1 hu with rfl | hu
  · rfl
  · exact hr.toS.one u hu
theorem SpotS.shape {w w0 : World} {B : Nat} {S : Nat → Prop} {q : List V × V} {cs : List Value} (h : SpotS w w0 B S q cs) : ∃ (pa : Option Addr) (pn pc : Nat) (k h : Int) (t : ByteArray) (la ka va : Option Addr) (nl cl nk ck nv cv : Nat),
    cs = [.slice pa pn pc, .int .i64 k, .int .i64 h, .string t, .slice la nl cl, .slice ka nk ck, .slice va nv cv] := by
  obtain ⟨pv, cy, rfl, ⟨la, lc, rfl, _⟩, _, hr⟩ := h
  obtain ⟨k, h, t, la, ka, va, nl, cl, nk, ck, nv, cv, rfl⟩ := hr.shape
  exact ⟨_, _, _, _, _, _, _, _, _, _, _, _, _, _, _, rfl⟩
theorem flatS_len {s : Nat} {C : Nat → List Value} : ∀ {n : Nat}, (∀ i, i < n → (C i).length = s) → (flat C n).length = n * s
  | 0, _ => by simp [flat]
  | n + 1, h => by
    simp only [flat, List.length_append]
    rw [flatS_len (fun i hi => h i (by omega)), h n (by omega), Nat.succ_mul]
theorem flatS_get {s : Nat} {C : Nat → List Value} : ∀ {n : Nat}, (∀ i, i < n → (C i).length = s) → ∀ i j, i < n → j < s → (flat C n)[i * s + j]? = (C i)[j]?
  | 0, _, _, _, hi, _ => by omega
  | n + 1, h, i, j, hi, hj => by
    have hlen := flatS_len (C := C) (n := n) (fun i hi => h i (by omega))
    simp only [flat]
    by_cases e : i < n
    · have : i * s + j < n * s := by
        have : (i + 1) * s ≤ n * s := Nat.mul_le_mul_right _ (by omega)
        rw [Nat.succ_mul] at this
        omega
      rw [List.getElem?_append_left (by omega)]
      exact flatS_get (fun i hi => h i (by omega)) i j e hj
    · obtain rfl : i = n := by omega
      rw [List.getElem?_append_right (by omega), hlen]
      congr 1
      omega
/-- Places, read: the row's own cells, and what the paths lie in, below N. -/
def SpotsAt (w w0 : World) (B N : Nat) (R : Nat → Prop) (v : Value) (l : List (List V × V)) : Prop :=
  ∃ (la : Option Addr) (lc : Nat) (C : Nat → List Value), v = .slice la l.length lc ∧ l.length ≤ lc ∧ (0 < l.length → ∃ b, la = some ⟨b, 0, none⟩ ∧ (R b ∧ b < N) ∧ ∀ i, i < l.length → CellsAt w b (i * 7) (C i)) ∧ ∀ i (hi : i < l.length), SpotS w w0 B (fun k => R k ∧ k < N) l[i] (C i)
theorem SpotsAt.below {w w' w0 : World} {B N : Nat} {R : Nat → Prop} {v : Value} {l : List (List V × V)} (h : SpotsAt w w0 B N R v l) (hb : Below N w w') {N' : Nat} (hN : N ≤ N') : SpotsAt w' w0 B N' R v l := by
  obtain ⟨la, lc, C, e, hlc, hc, hr⟩ := h
  refine ⟨la, lc, C, e, hlc, fun h0 => ?_, fun i hi => (hr i hi).turn fun k hk => ⟨hb.block k hk.2, hk.1, by have : k < N := hk.2; omega⟩⟩
  obtain ⟨b, e, hbN, hcel⟩ := hc h0
  exact ⟨b, e, ⟨hbN.1, by have := hbN.2; omega⟩, fun i hi => (hcel i hi).below hb hbN.2⟩
end Go.Proofs.YtjlkoekfcdpnaaaGreatDoor

namespace Go.Proofs.YtjlkoekfcdpnaaaGreatDoor
open Go Go.RowKit Go.Maps Go.Deep
/-- Paths, read: the row's own cells, and what the paths are. -/
def PathsAt (w : World) (v : Value) (l : List (List V)) : Prop :=
  ∃ (la : Option Addr) (lc : Nat) (C : Nat → Value), v = .slice la l.length lc ∧ l.length ≤ lc ∧ (0 < l.length → ∃ b, la = some ⟨b, 0, none⟩ ∧ b < w.heap.size ∧ ∀ i, i < l.length → w.cell? ⟨b, i, none⟩ = some (C i)) ∧ ∀ i (hi : i < l.length), PathS w (· < w.heap.size) l[i] (C i)
theorem PathsAt.below {w w' : World} {v : Value} {l : List (List V)} (h : PathsAt w v l) (hb : Below w.heap.size w w') : PathsAt w' v l := by
  obtain ⟨la, lc, C, e, hlc, hc, hp⟩ := h
  refine ⟨la, lc, C, e, hlc, fun h0 => ?_, fun i hi => (hp i hi).turn fun q hq => ⟨hb.block q hq, Nat.lt_of_lt_of_le hq hb.size⟩⟩
  obtain ⟨b, e, hbN, hcel⟩ := hc h0
  exact ⟨b, e, Nat.lt_of_lt_of_le hbN hb.size, fun i hi => (hb.cell hbN).trans (hcel i hi)⟩
end Go.Proofs.YtjlkoekfcdpnaaaGreatDoor

namespace Go.Proofs.YtjlkoekfcdpnaaaGreatDoor
open Go Go.RowKit Go.Maps Go.Deep
set_option maxRecDepth 100000 in
theorem larray_any (a : Option Addr) (n c : Nat) (w : World) : Calls Tryz.prog 6 #[.slice a n c] w fun e w' =>
    e = .returned (.agg #[.int .i64 5, .int .i64 0, .string ⟨#[]⟩, .slice a n c, .slice none 0 0, .slice none 0 0]) ∧ Below w.heap.size w w' := by
  go_enter Tryz.func6, Tryz.ntmps6
  go_wp2_with fail
  refine bodyPost_ret (v := .agg #[.int .i64 5, .int .i64 0, .string ⟨#[]⟩, .slice a n c, .slice none 0 0, .slice none 0 0]) ?_ rfl ⟨rfl, below_alloc1 w _⟩
  exact results_cell_row (p := 2) (ty := 26) rfl _ _ w.heap.size 26 _ (0, 0) _ rfl (at_alloc w _) Tryz.underlying26 rfl (by kernel_rfl)
def FitsLoop (w : World) (l : List V) (i : Value) (wr : World) : Prop := ∃ n : Nat, n ≤ l.length ∧ i = .int .i64 (n : Nat) ∧ Below w.heap.size w wr ∧ (l.take n).all fitB = true
set_option maxHeartbeats 2000000 in
set_option maxRecDepth 100000 in
theorem fits_any (w : World) (l : List V) (la : Option Addr) (lc : Nat) (C : Nat → List Value) (hl : l.length * 104 ≤ 140737488351232)
    (cl : 0 < l.length → ∃ b o, la = some ⟨b, o, none⟩ ∧ b < w.heap.size ∧ ∀ i, i < l.length → CellsAt w b (o + i * 6) (C i)) (rl : ∀ i (hi : i < l.length), RepV w w.heap.size l[i] (C i)) (hTB : TabsB w w.heap.size) :
    Calls Tryz.prog 5 #[.slice la l.length lc] w (BoolP w (l.all fitB)) := by
  have Hcl := Lib.hid cl; clear cl
  go_enter Tryz.func5, Tryz.ntmps5
  go_wp2_with fail
  go_loopw [7] (fun i wr => FitsLoop w l i wr) (fun i _ => l.length - (intOf i).toNat)
  case atStart => exact ⟨0, Nat.zero_le _, rfl, Below.refl _ _, rfl⟩
  case round =>
    obtain ⟨n, hn, rfl, hb, hall⟩ := hrel
    by_cases hn' : n < l.length
    · obtain ⟨lb, lo, rfl, hlb, hcel⟩ := Hcl.out (by omega)
      have cc := (hcel n hn').below hb hlb
      have hr := (rl n hn').carry hb hb.size
      have hsn : (l.take (n + 1)).all fitB = fitB l[n] := by
        rw [List.take_succ_eq_append_getElem hn', List.all_append, hall]; simp
      have hno : fitB l[n] = false → l.all fitB = false := fun h => by
        rw [List.all_eq_false]
        exact ⟨_, List.getElem_mem hn', by simp [h]⟩
      have Hsn := Lib.hid hsn
      have Hno := Lib.hid hno
      obtain ⟨k', h', t', la2, ka2, va2, nl', cl', nk', ck', nv', cv', hC⟩ := hr.shape
      rw [hC] at cc hr
      have hal := below_alloc1 wr (.cells #[.int .i64 k', .int .i64 h', .string t', .slice la2 nl' cl', .slice ka2 nk' ck', .slice va2 nv' cv'] 26)
      have HF := Lib.hid (fit_any (wr.alloc (.cells #[.int .i64 k', .int .i64 h', .string t', .slice la2 nl' cl', .slice ka2 nk' ck', .slice va2 nv' cv'] 26)) l[n] _ (hr.carry hal hal.size) (hTB.carry (hb.trans (hal.mono hb.size)) (by have := hb.size; have := hal.size; omega)))
      obtain ⟨y0, y1, y2, y3, y4, y5⟩ := cells6 cc
      have u1 : (n : Int) < (l.length : Int) := by omega
      have u2 : (0 : Int) ≤ (n : Int) := by omega
      have Hb := Lib.hid (hb.trans (hal.mono hb.size))
      clear hcel cc hr hC hsn hno hall hal
      go_wp2_with fail
      refine HF.out.mono ?_
      rintro e w2 ⟨rfl, hw2⟩
      have hb3 : Below w.heap.size w w2 := Hb.out.trans (hw2.mono Hb.out.size)
      cases hf : fitB l[n] with
      | true =>
        have Hr := Lib.hid (Hsn.out.trans hf)
        clear hf hw2 HF
        go_wp2_with fail
        go_roundw
        case rel => exact ⟨n + 1, hn', by go_num, hb3, Hr.out⟩
        case measure => simp [intOf]; omega
      | false =>
        have Hr := Lib.hid (Hno.out hf)
        clear hf hw2 HF
        go_wp2_with fail
        go_ret
        exact ⟨by rw [Hr.out]; rfl, hb3⟩
    · have e : n = l.length := by omega
      have Hr := Lib.hid (show l.all fitB = true by rw [← hall, e, List.take_length])
      clear hall
      go_wp2_with fail
      go_ret
      exact ⟨by rw [Hr.out]; rfl, hb⟩
end Go.Proofs.YtjlkoekfcdpnaaaGreatDoor

namespace Go.Proofs.YtjlkoekfcdpnaaaGreatDoor
open Go Go.RowKit Go.Deep
set_option maxRecDepth 100000 in
theorem given_any {w : World} {v : V} (gv : Good v) {k h n k1 h1 : Int} {t t1 : ByteArray} {la ka va la1 ka1 va1 : Option Addr} {nl cl nk ck nv cv nl1 cl1 nk1 ck1 nv1 cv1 : Nat}
    (hR : Got w (.fine v) k h t la ka va nl cl nk ck nv cv n) (hP : RepV w w.heap.size v [.int .i64 k1, .int .i64 h1, .string t1, .slice la1 nl1 cl1, .slice ka1 nk1 ck1, .slice va1 nv1 cv1]) :
    Calls Tryz.prog 12 #[.agg #[.int .i64 k, .int .i64 h, .string t, .slice la nl cl, .slice ka nk ck, .slice va nv cv, .int .i64 n], .agg #[.int .i64 k1, .int .i64 h1, .string t1, .slice la1 nl1 cl1, .slice ka1 nk1 ck1, .slice va1 nv1 cv1]] w (Yes w) := by
  have hT := Lib.hid fun (w' : World) (hb : Below w.heap.size w w') => told_ans (w := w') (an := .fine v) (fun x e => by cases e; exact gv) (k := k) (h := h) (n := n) (t := t) (la := la) (ka := ka) (va := va) (nl := nl) (cl := cl) (nk := nk) (ck := ck) (nv := nv) (cv := cv)
    ⟨fun x e => ⟨(hR.1 x e).1, (hR.1 x e).2.carry hb hb.size⟩, hR.2⟩ (fun x e => by cases e; exact hP.carry hb hb.size)
  clear hR hP
  go_enter Tryz.func12, Tryz.ntmps12
  go_wp2_with fail
  refine (hT.out _ (below_alloc2 w _ _)).mono ?_
  rintro e w1 ⟨rfl, hb⟩
  have hs := (below_alloc2 w (.cells #[.int .i64 k, .int .i64 h, .string t, .slice la nl cl, .slice ka nk ck, .slice va nv cv, .int .i64 n] 32) (.cells #[.int .i64 k1, .int .i64 h1, .string t1, .slice la1 nl1 cl1, .slice ka1 nk1 ck1, .slice va1 nv1 cv1] 26)).trans (hb.mono (by simp; omega))
  have Hs := Lib.hid hs
  clear hs hb
  go_wp2_with fail
  go_ret
  exact ⟨rfl, Hs.out⟩
end Go.Proofs.YtjlkoekfcdpnaaaGreatDoor

namespace Go.Proofs.YtjlkoekfcdpnaaaGreatDoor
open Go Go.RowKit Go.Deep
theorem rep_array {w : World} {B : Nat} {p : List V} {pa : Option Addr} {pc : Nat} {C : Nat → List Value} (hpl : p.length * 104 ≤ 140737488351232)
    (cp : 0 < p.length → ∃ b o, pa = some ⟨b, o, none⟩ ∧ b < B ∧ ∀ i, i < p.length → CellsAt w b (o + i * 6) (C i)) (rp : ∀ i (hi : i < p.length), RepV w B p[i] (C i)) (hpc : p.length ≤ pc) :
    RepV w B (.mk 5 0 ⟨#[]⟩ p [] []) [.int .i64 5, .int .i64 0, .string ⟨#[]⟩, .slice pa p.length pc, .slice none 0 0, .slice none 0 0] :=
  .mk (ks := []) (vs := []) C (fun _ => []) (by decide) (by decide) (Nat.zero_le _) hpl (by simp) (by simp) (fun s hs => by simp at hs) cp rp (fun h => by simp at h) (fun h => by simp at h) (fun i hi => by simp at hi) hpc
theorem one_cells {w : World} {b : Nat} {c0 c1 c2 c3 c4 c5 : Value} {t : TypeId} (h : w.heap[b]? = some (.cells #[c0, c1, c2, c3, c4, c5] t)) : CellsAt w b 0 [c0, c1, c2, c3, c4, c5] := by
  intro j hj
  simp only [List.length_cons, List.length_nil] at hj
  match j, hj with
  | 0, _ | 1, _ | 2, _ | 3, _ | 4, _ | 5, _ => simp [World.cell?, h]
end Go.Proofs.YtjlkoekfcdpnaaaGreatDoor

namespace Go.Proofs.YtjlkoekfcdpnaaaGreatDoor
open Go Go.RowKit Go.Deep
theorem hole_not (v : V) : isHole (toJ v) = false := by
  obtain ⟨k, h, t, l, ks, vs⟩ := v
  unfold toJ
  repeat' split
  all_goals rfl
end Go.Proofs.YtjlkoekfcdpnaaaGreatDoor

namespace Go.Proofs.YtjlkoekfcdpnaaaGreatDoor
open Go Go.RowKit
def padV (l : List V) (i : Nat) (u : V) : List V := (l ++ List.replicate (i + 1 - l.length) nullV).set i u
def mapV (m : List (ByteArray × V)) : V := .mk 6 0 ⟨#[]⟩ [] (m.map (·.1)) (m.map (·.2))
def rowV (l : List V) : V := .mk 5 0 ⟨#[]⟩ l [] []
/-- The value v with x at the path; none: an error. -/
def setV : V → List Stp → V → Option V
  | _, [], x => some x
  | v, .key k :: p, x => if v.kind = 0 then (setV nullV p x).map fun u => mapV [(k, u)]
    else if v.kind = 6 then (setV ((getK (v.keys.zip v.vals) k).getD nullV) p x).map fun u => mapV (putK (v.keys.zip v.vals) k u)
    else none
  | v, .idx i :: p, x => if v.kind = 0 then (setV nullV p x).map fun u => rowV (padV [] i u)
    else if v.kind = 5 then (setV (v.list.getD i nullV) p x).map fun u => rowV (padV v.list i u)
    else none
theorem setV_key (kd h : Int) (t : ByteArray) (l : List V) (ks : List ByteArray) (vs : List V) (k : ByteArray) (p : List Stp) (x : V) : setV (.mk kd h t l ks vs) (.key k :: p) x = if kd = 0 then (setV nullV p x).map fun u => mapV [(k, u)]
    else if kd = 6 then (setV ((getK (ks.zip vs) k).getD nullV) p x).map fun u => mapV (putK (ks.zip vs) k u) else none := rfl
theorem setV_idx (kd h : Int) (t : ByteArray) (l : List V) (ks : List ByteArray) (vs : List V) (i : Nat) (p : List Stp) (x : V) : setV (.mk kd h t l ks vs) (.idx i :: p) x = if kd = 0 then (setV nullV p x).map fun u => rowV (padV [] i u)
    else if kd = 5 then (setV (l.getD i nullV) p x).map fun u => rowV (padV l i u) else none := rfl
theorem toJ_map (m : List (ByteArray × V)) : toJ (mapV m) = .obj (m.map fun p => (p.1, toJ p.2)) := by
  unfold mapV
  rw [toJ_6, toJM_eq]
  congr 1
  rw [List.map_map]
  induction m with
  | nil => rfl
  | cons a r ih => simp [ih]
theorem toJ_row (l : List V) : toJ (rowV l) = .arr (l.map toJ) := by
  unfold rowV
  rw [toJ_5, toJL_eq]
theorem toJ_nullV : toJ nullV = .null := toJ_0 _ _ _ _ _
theorem zip_toJ (ks : List ByteArray) (vs : List V) : toJM ks vs = (ks.zip vs).map fun p => (p.1, toJ p.2) := by
  rw [toJM_eq, List.zip_map_right]
  rfl
theorem padV_J (l : List V) (i : Nat) (u : V) : (padV l i u).map toJ = padJ (l.map toJ) i (toJ u) := by
  unfold padV padJ
  rw [List.map_set, List.map_append, List.map_replicate, List.length_map, toJ_nullV]
/-- As gojq.update sets. -/
theorem setV_J (x : V) : ∀ (s : List Stp) (v : V), Good v → updJ (toJ v) s (toJ x) = (setV v s x).map toJ
  | [], v, _ => rfl
  | .key k :: p, .mk kd h t l ks vs, g => by
    have hc : kd = 0 ∨ kd = 1 ∨ kd = 2 ∨ kd = 3 ∨ kd = 4 ∨ kd = 5 ∨ kd = 6 := by have := g.lens; simp only [V.kind] at this; omega
    rcases hc with rfl | rfl | rfl | rfl | rfl | rfl | rfl
    · rw [toJ_0]
      have e := setV_J x p nullV good_null
      rw [toJ_nullV] at e
      simp only [updJ, hole_not, Bool.false_eq_true, if_false, e, setV, V.kind, if_true, Option.map_map]
      all_goals (congr 1 <;> (try funext u) <;> simp [toJ_map])
    · rw [toJ_1]; simp [updJ, setV, V.kind]
    · rw [toJ_2]; simp [updJ, setV, V.kind]
    · by_cases e : h.tmod 2 = 0
      · rw [toJ_3i _ _ _ _ e]; simp [updJ, setV, V.kind]
      · rw [toJ_3f _ _ _ _ e]; simp [updJ, setV, V.kind]
    · rw [toJ_4]; simp [updJ, setV, V.kind]
    · rw [toJ_5]; simp [updJ, setV, V.kind]
    · rw [toJ_6, zip_toJ]
      have hg : getK ((ks.zip vs).map fun p => (p.1, toJ p.2)) k = (getK (ks.zip vs) k).map toJ := by
        unfold getK
        rw [List.find?_map, Option.map_map, Option.map_map]
        rfl
      have hput : ∀ u : V, (putK (ks.zip vs) k u).map (fun p => (p.1, toJ p.2)) = putK ((ks.zip vs).map fun p => (p.1, toJ p.2)) k (toJ u) := fun u => putK_map toJ _ _ _
      have hs : setV (.mk 6 h t l ks vs) (.key k :: p) x = (setV ((getK (ks.zip vs) k).getD nullV) p x).map fun u => mapV (putK (ks.zip vs) k u) := by simp [setV, V.kind, V.keys, V.vals]
      rw [hs, Option.map_map]
      cases hgk : getK (ks.zip vs) k with
      | none =>
        have e := setV_J x p nullV good_null
        rw [toJ_nullV] at e
        simp only [updJ, hg, hgk, Option.map_none, hole_not, Bool.false_eq_true, if_false, e, Option.getD_none, Option.map_map]
        all_goals (congr 1 <;> (try funext u) <;> simp [toJ_map, hput])
      | some y =>
        have gy : Good y := by
          have := getK_mem hgk
          exact (good_parts g).2.2 y (List.of_mem_zip this).2
        have e := setV_J x p y gy
        simp only [updJ, hg, hgk, Option.map_some, e, Option.getD_some, Option.map_map]
        all_goals (congr 1 <;> (try funext u) <;> simp [toJ_map, hput])
  | .idx i :: p, .mk kd h t l ks vs, g => by
    have hc : kd = 0 ∨ kd = 1 ∨ kd = 2 ∨ kd = 3 ∨ kd = 4 ∨ kd = 5 ∨ kd = 6 := by have := g.lens; simp only [V.kind] at this; omega
    rcases hc with rfl | rfl | rfl | rfl | rfl | rfl | rfl
    · rw [toJ_0]
      have e := setV_J x p nullV good_null
      rw [toJ_nullV] at e
      simp only [updJ, hole_not, Bool.false_eq_true, if_false, e, setV, V.kind, if_true, Option.map_map]
      all_goals (congr 1 <;> (try funext u) <;> simp [toJ_row, padV_J])
    · rw [toJ_1]; simp [updJ, setV, V.kind]
    · rw [toJ_2]; simp [updJ, setV, V.kind]
    · by_cases e : h.tmod 2 = 0
      · rw [toJ_3i _ _ _ _ e]; simp [updJ, setV, V.kind]
      · rw [toJ_3f _ _ _ _ e]; simp [updJ, setV, V.kind]
    · rw [toJ_4]; simp [updJ, setV, V.kind]
    · rw [toJ_5, toJL_eq]
      have hs : setV (.mk 5 h t l ks vs) (.idx i :: p) x = (setV (l.getD i nullV) p x).map fun u => rowV (padV l i u) := by simp [setV, V.kind, V.list]
      rw [hs, Option.map_map]
      by_cases hi : i < l.length
      · have gy : Good l[i] := (good_parts g).2.1 _ (List.getElem_mem hi)
        have e := setV_J x p l[i] gy
        have e1 : l.getD i nullV = l[i] := by simp [List.getD, hi]
        have e2 : (l.map toJ)[i]? = some (toJ l[i]) := by simp [hi]
        simp only [updJ, e2, e, e1, Option.map_map]
        all_goals (congr 1 <;> (try funext u) <;> simp [toJ_row, padV_J])
      · have e := setV_J x p nullV good_null
        rw [toJ_nullV] at e
        have e1 : l.getD i nullV = nullV := by simp [List.getD, hi]
        have e2 : (l.map toJ)[i]? = none := by simp [hi]
        simp only [updJ, e2, e, e1, hole_not, Bool.false_eq_true, if_false, Option.map_map]
        all_goals (congr 1 <;> (try funext u) <;> simp [toJ_row, padV_J])
    · rw [toJ_6]; simp [updJ, setV, V.kind]
theorem zip_rises {k h : Int} {t : ByteArray} {l : List V} {ks : List ByteArray} {vs : List V} (g : Good (.mk k h t l ks vs)) : RisesK (ks.zip vs) := by
  obtain ⟨hl, _, _⟩ := good_parts g
  cases g with
  | mk shape half valid list rise vkeys vals =>
    have h1 := keys_rise rise
    have hz : (ks.zip vs).map (·.1) = ks := List.map_fst_zip (by omega)
    rw [← hz, List.pairwise_map] at h1
    exact h1
theorem putK_rises {α : Type} {m : List (ByteArray × α)} (h : RisesK m) (k : ByteArray) (a : α) : RisesK (putK m k a) := by
  unfold putK
  have hf : RisesK (m.filter fun p => !(keyL p.1).sameKey (keyL k)) := h.filter _
  have hne : ∀ p ∈ m.filter (fun p => !(keyL p.1).sameKey (keyL k)), p.1 ≠ k := fun p hp e => by
    have := (List.mem_filter.1 hp).2
    rw [(keyL_same _ _).2 e] at this
    cases this
  revert hf hne
  generalize m.filter (fun p => !(keyL p.1).sameKey (keyL k)) = q
  intro hf hne
  induction q with
  | nil => simp [insK, RisesK]
  | cons y r ih =>
    obtain ⟨h1, h2⟩ := List.pairwise_cons.1 hf
    unfold insK
    split
    · rename_i hb
      refine List.pairwise_cons.2 ⟨fun z hz => ?_, hf⟩
      rcases List.mem_cons.1 hz with rfl | hz
      · exact hb
      · exact Go.WideShapes.before_trans hb (h1 z hz)
    · rename_i hb
      refine List.pairwise_cons.2 ⟨fun z hz => ?_, ih h2 fun p hp => hne p (List.mem_cons_of_mem _ hp)⟩
      rcases mem_insK.1 hz with rfl | hz
      · have hny := hne y (List.mem_cons_self ..)
        rcases Go.ChangeMaps.before_total (a := keyL k) (b := keyL y.1) ⟨_, rfl⟩ ⟨_, rfl⟩ (fun e => hny (keyL_inj e).symm) with e | e
        · exact absurd e hb
        · exact e
      · exact h1 z hz
theorem good_mapV {m : List (ByteArray × V)} (hr : RisesK m) (hk : ∀ p ∈ m, Lib.validD p.1.data.toList = true) (hv : ∀ p ∈ m, Good p.2) : Good (mapV m) := by
  unfold mapV
  refine .mk ?_ (by decide) (by decide) (fun i hi => by simp at hi) (pair_rise ?_) (fun i hi => ?_) (fun i hi => ?_)
  · simp [shapeB, Lib.toList_data]
  · rw [List.pairwise_map]
    refine hr.imp fun {a b} h => ?_
    have e : Op.bytesLess a.1.toList b.1.toList = (keyL a.1).before (keyL b.1) := by
      show _ = bytesBefore a.1.data.toList b.1.data.toList
      rw [before_eq, ByteArray.toList_eq, ByteArray.toList_eq]
    rw [e]
    exact h
  · have hi' : i < m.length := by simpa using hi
    have e : (m.map (·.1))[i] = m[i].1 := List.getElem_map ..
    rw [e]
    exact hk _ (List.getElem_mem hi')
  · have hi' : i < m.length := by simpa using hi
    have e : (m.map (·.2))[i] = m[i].2 := List.getElem_map ..
    rw [e]
    exact hv _ (List.getElem_mem hi')
theorem good_rowV {l : List V} (h : ∀ x ∈ l, Good x) : Good (rowV l) := good_row h
theorem mem_padV {l : List V} {i : Nat} {u y : V} (h : y ∈ padV l i u) : y = u ∨ y ∈ l ∨ y = nullV := by
  unfold padV at h
  rcases List.mem_or_eq_of_mem_set h with h | h
  · rcases List.mem_append.1 h with h | h
    · exact .inr (.inl h)
    · exact .inr (.inr (List.eq_of_mem_replicate h))
  · exact .inl h
theorem getElem_padV (l : List V) (i : Nat) (u : V) (hi : i < (padV l i u).length) : (padV l i u)[i] = u := List.getElem_set_self (l := l ++ List.replicate (i + 1 - l.length) nullV) hi
theorem padV_len (l : List V) (i : Nat) (u : V) : (padV l i u).length = max l.length (i + 1) := by
  unfold padV; simp; omega
/-- A value and the texts of a path are good: so is what is made. -/
theorem setV_good {x : V} (gx : Good x) : ∀ (s : List Stp) (v z : V), Good v → (∀ k, Stp.key k ∈ s → Lib.validD k.data.toList = true) → setV v s x = some z → Good z
  | [], v, z, _, _, h => by
    cases h
    exact gx
  | .key k :: p, .mk kd h t l ks vs, z, g, hk, hz => by
    obtain ⟨_, gl, gv⟩ := good_parts g
    have hk' : ∀ k, Stp.key k ∈ p → Lib.validD k.data.toList = true := fun k h => hk k (List.mem_cons_of_mem _ h)
    have hkk := hk k (List.mem_cons_self ..)
    rw [setV_key] at hz
    by_cases c0 : kd = 0
    · rw [if_pos c0] at hz
      obtain ⟨u, hu, rfl⟩ := Option.map_eq_some_iff.1 hz
      have gu := setV_good gx p nullV u good_null hk' hu
      exact good_mapV (by simp [RisesK]) (fun p hp => by obtain rfl : p = (k, u) := by simpa using hp
                                                         exact hkk) (fun p hp => by obtain rfl : p = (k, u) := by simpa using hp
                                                                                    exact gu)
    · rw [if_neg c0] at hz
      by_cases c1 : kd = 6
      · rw [if_pos c1] at hz
        obtain ⟨u, hu, rfl⟩ := Option.map_eq_some_iff.1 hz
        have gy : Good ((getK (ks.zip vs) k).getD nullV) := by
          cases hg : getK (ks.zip vs) k with
          | none => exact good_null
          | some y => exact gv y (List.of_mem_zip (getK_mem hg)).2
        have gu := setV_good gx p _ u gy hk' hu
        refine good_mapV (putK_rises (zip_rises g) k u) (fun p hp => ?_) (fun p hp => ?_)
        · rcases mem_putK.1 hp with rfl | ⟨hp, _⟩
          · exact hkk
          · obtain ⟨i, hi, e⟩ := List.mem_iff_getElem.1 (List.of_mem_zip hp).1
            cases g with
            | mk shape half valid list rise vkeys vals =>
              rw [← e]
              exact vkeys i hi
        · rcases mem_putK.1 hp with rfl | ⟨hp, _⟩
          · exact gu
          · exact gv _ (List.of_mem_zip hp).2
      · rw [if_neg c1] at hz
        cases hz
  | .idx i :: p, .mk kd h t l ks vs, z, g, hk, hz => by
    obtain ⟨_, gl, gv⟩ := good_parts g
    have hk' : ∀ k, Stp.key k ∈ p → Lib.validD k.data.toList = true := fun k h => hk k (List.mem_cons_of_mem _ h)
    rw [setV_idx] at hz
    by_cases c0 : kd = 0
    · rw [if_pos c0] at hz
      obtain ⟨u, hu, rfl⟩ := Option.map_eq_some_iff.1 hz
      have gu := setV_good gx p nullV u good_null hk' hu
      refine good_rowV fun y hy => ?_
      rcases mem_padV hy with rfl | hy | rfl
      · exact gu
      · cases hy
      · exact good_null
    · rw [if_neg c0] at hz
      by_cases c1 : kd = 5
      · rw [if_pos c1] at hz
        obtain ⟨u, hu, rfl⟩ := Option.map_eq_some_iff.1 hz
        have gy : Good (l.getD i nullV) := by
          by_cases hi : i < l.length
          · have e : l.getD i nullV = l[i] := by simp [List.getD, hi]
            rw [e]
            exact gl _ (List.getElem_mem hi)
          · have e : l.getD i nullV = nullV := by simp [List.getD, hi]
            rw [e]
            exact good_null
        have gu := setV_good gx p _ u gy hk' hu
        refine good_rowV fun y hy => ?_
        rcases mem_padV hy with rfl | hy | rfl
        · exact gu
        · exact gl y hy
        · exact good_null
      · rw [if_neg c1] at hz
        cases hz
theorem getV_map {m : List (ByteArray × V)} (hr : RisesK m) {k : ByteArray} {u : V} (hm : (k, u) ∈ m) : getV (m.map (·.1)) (m.map (·.2)) k = u := by
  obtain ⟨i, hi, e⟩ := List.mem_iff_getElem.1 hm
  have hrk : RiseK (m.map (·.1)) := by
    intro a b hab hb
    have hb' : b < m.length := by simpa using hb
    have h := List.pairwise_iff_getElem.1 hr a b (by omega) hb' hab
    simp only [List.getElem_map]
    rw [show Op.bytesLess m[a].1.toList m[b].1.toList = (keyL m[a].1).before (keyL m[b].1) by
      show _ = bytesBefore m[a].1.data.toList m[b].1.data.toList
      rw [before_eq, ByteArray.toList_eq, ByteArray.toList_eq]]
    exact h
  have hki : (m.map (·.1))[i]'(by simpa using hi) = k := by simp [e]
  obtain ⟨h1, h2⟩ := hasK_at hrk (j := i) (by simpa using hi)
  rw [hki] at h1 h2
  unfold getV
  rw [if_pos h2, h1]
  simp [List.getD, hi, e]
/-- What was set stands at its path. -/
theorem setV_get {x : V} (gx : Good x) : ∀ (s : List Stp) (v z : V), Good v → (∀ k, Stp.key k ∈ s → Lib.validD k.data.toList = true) → setV v s x = some z → pathA z (s.map Stp.v) = .fine x
  | [], v, z, _, _, h => by
    cases h
    rfl
  | .key k :: p, .mk kd h t l ks vs, z, g, hk, hz => by
    obtain ⟨_, gl, gv⟩ := good_parts g
    have hk' : ∀ k, Stp.key k ∈ p → Lib.validD k.data.toList = true := fun k h => hk k (List.mem_cons_of_mem _ h)
    have step : ∀ (m : List (ByteArray × V)) (u : V), RisesK m → (k, u) ∈ m → stepA (mapV m) (strV k) = .fine u := by
      intro m u hr hm
      unfold mapV strV
      rw [stepA_mk, if_neg (by omega), if_neg (by omega)]
      simp [indexA, V.kind, V.text, V.keys, V.vals, getV_map hr hm]
    rw [setV_key] at hz
    by_cases c0 : kd = 0
    · rw [if_pos c0] at hz
      obtain ⟨u, hu, rfl⟩ := Option.map_eq_some_iff.1 hz
      have e := step [(k, u)] u (by simp [RisesK]) (by simp)
      show pathA _ (strV k :: p.map Stp.v) = _
      simp only [pathA, e]
      exact setV_get gx p nullV u good_null hk' hu
    · rw [if_neg c0] at hz
      by_cases c1 : kd = 6
      · rw [if_pos c1] at hz
        obtain ⟨u, hu, rfl⟩ := Option.map_eq_some_iff.1 hz
        have gy : Good ((getK (ks.zip vs) k).getD nullV) := by
          cases hg : getK (ks.zip vs) k with
          | none => exact good_null
          | some y => exact gv y (List.of_mem_zip (getK_mem hg)).2
        have e := step (putK (ks.zip vs) k u) u (putK_rises (zip_rises g) k u) (mem_putK.2 (.inl rfl))
        show pathA _ (strV k :: p.map Stp.v) = _
        simp only [pathA, e]
        exact setV_get gx p _ u gy hk' hu
      · rw [if_neg c1] at hz
        cases hz
  | .idx i :: p, .mk kd h t l ks vs, z, g, hk, hz => by
    obtain ⟨_, gl, gv⟩ := good_parts g
    have hk' : ∀ k, Stp.key k ∈ p → Lib.validD k.data.toList = true := fun k h => hk k (List.mem_cons_of_mem _ h)
    have step : ∀ (l : List V) (u : V), stepA (rowV (padV l i u)) (numV i) = .fine u := by
      intro l u
      unfold rowV numV
      rw [stepA_mk, if_neg (by omega), if_neg (by omega)]
      have hlen : i < (padV l i u).length := by rw [padV_len]; omega
      have e1 : nthA (padV l i u) (2 * (i : Int)) = u := by
        unfold nthA
        have e2 : (2 * (i : Int)).tdiv 2 = i := by simp
        simp only [e2]
        rw [if_neg (show ¬ (i : Int) < 0 by omega), if_neg (show ¬ (i : Int) < 0 by omega)]
        simp [List.getD, hlen, getElem_padV]
      simp [indexA, V.kind, V.half, V.list, e1]
    rw [setV_idx] at hz
    by_cases c0 : kd = 0
    · rw [if_pos c0] at hz
      obtain ⟨u, hu, rfl⟩ := Option.map_eq_some_iff.1 hz
      show pathA _ (numV i :: p.map Stp.v) = _
      simp only [pathA, step]
      exact setV_get gx p nullV u good_null hk' hu
    · rw [if_neg c0] at hz
      by_cases c1 : kd = 5
      · rw [if_pos c1] at hz
        obtain ⟨u, hu, rfl⟩ := Option.map_eq_some_iff.1 hz
        have gy : Good (l.getD i nullV) := by
          by_cases hi : i < l.length
          · have e : l.getD i nullV = l[i] := by simp [List.getD, hi]
            rw [e]
            exact gl _ (List.getElem_mem hi)
          · have e : l.getD i nullV = nullV := by simp [List.getD, hi]
            rw [e]
            exact good_null
        show pathA _ (numV i :: p.map Stp.v) = _
        simp only [pathA, step]
        exact setV_get gx p _ u gy hk' hu
      · rw [if_neg c1] at hz
        cases hz
end Go.Proofs.YtjlkoekfcdpnaaaGreatDoor

namespace Go.Proofs.YtjlkoekfcdpnaaaGreatDoor
open Go Go.RowKit
theorem holL_put : ∀ (l : List V) (_ : ∀ x ∈ l, Good x) (i : Nat) (hi : i < l.length) (x : J) (r : V), Hol l[i] x r → HolL l ((toJL l).set i x) (l.set i r)
  | [], _, i, hi, _, _, _ => by simp at hi
  | v :: l, g, 0, _, x, r, h => by
    unfold toJL
    exact .keep h (holL_same l fun x hx => g x (List.mem_cons_of_mem _ hx))
  | v :: l, g, i + 1, hi, x, r, h => by
    unfold toJL
    exact .keep (hol_same v (g v (List.mem_cons_self ..))) (holL_put l (fun x hx => g x (List.mem_cons_of_mem _ hx)) i (by simpa using hi) x r (by simpa using h))
theorem holM_put : ∀ (ks : List ByteArray) (vs : List V) (_ : ks.length = vs.length) (_ : ∀ x ∈ vs, Good x) (i : Nat) (hk : i < ks.length) (hi : i < vs.length) (x : J) (r : V), Hol vs[i] x r → HolM ks vs ((toJM ks vs).set i (ks[i], x)) ks (vs.set i r)
  | [], _, _, _, i, hk, _, _, _, _ => by simp at hk
  | _ :: _, [], _, _, i, _, hi, _, _, _ => by simp at hi
  | k :: ks, v :: vs, hl, g, 0, _, _, x, r, h => by
    unfold toJM
    exact .keep h (holM_same ks vs (by simpa using hl) fun x hx => g x (List.mem_cons_of_mem _ hx))
  | k :: ks, v :: vs, hl, g, i + 1, hk, hi, x, r, h => by
    unfold toJM
    exact .keep (hol_same v (g v (List.mem_cons_self ..))) (holM_put ks vs (by simpa using hl) (fun x hx => g x (List.mem_cons_of_mem _ hx)) i (by simpa using hk) (by simpa using hi) x r (by simpa using h))
theorem holM_hole : ∀ (ks : List ByteArray) (vs : List V) (_ : ks.length = vs.length) (_ : ∀ x ∈ vs, Good x) (i : Nat) (hk : i < ks.length), HolM ks vs ((toJM ks vs).set i (ks[i], .hole)) (ks.eraseIdx i) (vs.eraseIdx i)
  | [], _, _, _, i, hk => by simp at hk
  | _ :: _, [], hl, _, i, _ => by simp at hl
  | k :: ks, v :: vs, hl, g, 0, _ => by
    unfold toJM
    exact .hole (holM_same ks vs (by simpa using hl) fun x hx => g x (List.mem_cons_of_mem _ hx))
  | k :: ks, v :: vs, hl, g, i + 1, hk => by
    unfold toJM
    exact .keep (hol_same v (g v (List.mem_cons_self ..))) (holM_hole ks vs (by simpa using hl) (fun x hx => g x (List.mem_cons_of_mem _ hx)) i (by simpa using hk))
theorem filter_erase {k : ByteArray} : ∀ (m : List (ByteArray × V)) (i : Nat) (hi : i < m.length), m[i].1 = k → (m.eraseIdx i).filter (fun p => !(keyL p.1).sameKey (keyL k)) = m.filter fun p => !(keyL p.1).sameKey (keyL k)
  | [], i, hi, _ => by simp at hi
  | y :: r, 0, _, h => by
    have h : y.1 = k := h
    rw [List.eraseIdx_cons_zero, List.filter_cons, (keyL_same _ _).2 h]
    simp
  | y :: r, i + 1, hi, h => by
    rw [List.eraseIdx_cons_succ, List.filter_cons, List.filter_cons, filter_erase r i (by simpa using hi) (by simpa using h)]
theorem filter_put {k : ByteArray} : ∀ (m : List (ByteArray × V)) (i : Nat) (hi : i < m.length) (u : V), m[i].1 = k → (m.set i (k, u)).filter (fun p => !(keyL p.1).sameKey (keyL k)) = m.filter fun p => !(keyL p.1).sameKey (keyL k)
  | [], i, hi, _, _ => by simp at hi
  | y :: r, 0, _, u, h => by
    have h : y.1 = k := h
    rw [List.set_cons_zero, List.filter_cons, List.filter_cons, (keyL_same _ _).2 h, (keyL_same _ _).2 rfl]
    simp
  | y :: r, i + 1, hi, u, h => by
    rw [List.set_cons_succ, List.filter_cons, List.filter_cons, filter_put r i (by simpa using hi) u (by simpa using h)]
theorem zip_erase : ∀ (ks : List ByteArray) (vs : List V) (i : Nat), ks.length = vs.length → (ks.eraseIdx i).zip (vs.eraseIdx i) = (ks.zip vs).eraseIdx i
  | [], vs, i, h => by simp
  | _ :: _, [], i, h => by simp at h
  | k :: ks, v :: vs, 0, h => by simp
  | k :: ks, v :: vs, i + 1, h => by simp [zip_erase ks vs i (by simpa using h)]
theorem zip_set : ∀ (ks : List ByteArray) (vs : List V) (i : Nat) (hk : i < ks.length) (u : V), ks.length = vs.length → ks.zip (vs.set i u) = (ks.zip vs).set i (ks[i], u)
  | [], vs, i, hk, _, h => by simp at hk
  | _ :: _, [], i, _, _, h => by simp at h
  | k :: ks, v :: vs, 0, _, u, h => by simp
  | k :: ks, v :: vs, i + 1, hk, u, h => by simp [zip_set ks vs i (by simpa using hk) u (by simpa using h)]
def LastKey : List Stp → Prop
  | [] => False
  | [.key _] => True
  | [.idx _] => False
  | _ :: p => LastKey p
theorem hol_nothing {v : V} {j : J} {s : List Stp} (g : Good v) (h : j = toJ v) : ∃ r, Hol v j r ∧ ∀ x, setV r s x = setV v s x := ⟨v, by rw [h]; exact hol_same v g, fun x => rfl⟩
theorem map_keys {h : Int} {t : ByteArray} {l : List V} {ks : List ByteArray} {vs : List V} (g : Good (.mk 6 h t l ks vs)) : l = [] ∧ h = 0 ∧ t.toList = [] := by
  cases g with
  | mk shape half valid list rise vkeys vals =>
    simp only [shapeB, Bool.and_eq_true, Bool.or_eq_true, decide_eq_true_eq, beq_iff_eq] at shape
    obtain ⟨⟨⟨⟨⟨⟨s1, s2⟩, s3⟩, s4⟩, s5⟩, s6⟩, s7⟩ := shape
    refine ⟨List.eq_nil_of_length_eq_zero (s5.resolve_left (by omega)), s3.resolve_left (by omega), s4.resolve_left (by omega)⟩
theorem del_then : ∀ (s : List Stp) (v : V) (j : J), LastKey s → Good v → updJ (toJ v) s .hole = some j → ∃ r, Hol v j r ∧ ∀ x, setV r s x = setV v s x
  | [], _, _, hs, _, _ => hs.elim
  | .key k :: p, .mk kd h t l ks vs, j, hs, g, hj => by
    obtain ⟨hlen, gl, gv⟩ := good_parts g
    have hc : kd = 0 ∨ kd = 1 ∨ kd = 2 ∨ kd = 3 ∨ kd = 4 ∨ kd = 5 ∨ kd = 6 := by have := g.lens; simp only [V.kind] at this; omega
    rcases hc with rfl | rfl | rfl | rfl | rfl | rfl | rfl
    · rw [toJ_0] at hj
      simp [updJ, isHole] at hj
      exact hol_nothing g (by rw [toJ_0]; exact hj.symm)
    · rw [toJ_1] at hj; simp [updJ] at hj
    · rw [toJ_2] at hj; simp [updJ] at hj
    · by_cases e : h.tmod 2 = 0
      · rw [toJ_3i _ _ _ _ e] at hj; simp [updJ] at hj
      · rw [toJ_3f _ _ _ _ e] at hj; simp [updJ] at hj
    · rw [toJ_4] at hj; simp [updJ] at hj
    · rw [toJ_5] at hj; simp [updJ] at hj
    · obtain ⟨rfl, _, _⟩ := map_keys g
      rw [toJ_6] at hj
      have hr := zip_rises g
      have hrj : RisesK (toJM ks vs) := by
        rw [zip_toJ]
        unfold RisesK
        rw [List.pairwise_map]
        exact hr
      have hg : getK (toJM ks vs) k = (getK (ks.zip vs) k).map toJ := by
        rw [zip_toJ]
        unfold getK
        rw [List.find?_map, Option.map_map, Option.map_map]
        rfl
      cases hgk : getK (ks.zip vs) k with
      | none =>
        simp only [updJ, hg, hgk, Option.map_none, isHole, if_true, Option.some.injEq] at hj
        exact hol_nothing g (by rw [toJ_6]; exact hj.symm)
      | some y =>
        obtain ⟨i, hi, he⟩ := List.mem_iff_getElem.1 (getK_mem hgk)
        have hik : i < ks.length := by rw [List.length_zip] at hi; omega
        have hiv : i < vs.length := by rw [List.length_zip] at hi; omega
        have hkk : ks[i] = k := by rw [List.getElem_zip] at he; exact congrArg Prod.fst he
        have hyy : vs[i] = y := by rw [List.getElem_zip] at he; exact congrArg Prod.snd he
        have him : i < (toJM ks vs).length := by rw [toJM_len _ _ hlen]; exact hik
        have hmk : (toJM ks vs)[i].1 = k := by rw [toJM_get _ _ hlen i hik]; exact hkk
        have hzk : (ks.zip vs)[i].1 = k := by rw [he]
        simp only [updJ, hg, hgk, Option.map_some] at hj
        obtain ⟨x, hx, rfl⟩ := Option.map_eq_some_iff.1 hj
        have hput : putK (toJM ks vs) k x = (toJM ks vs).set i (ks[i], x) := by
          rw [← hmk, putK_set hrj him, hmk, hkk]
        rw [hput]
        cases p with
        | nil =>
          simp only [updJ, Option.some.injEq] at hx
          subst hx
          refine ⟨.mk 6 h t [] (ks.eraseIdx i) (vs.eraseIdx i), .obj (holM_hole ks vs hlen gv i hik), fun z => ?_⟩
          rw [setV_key, if_neg (by omega), if_pos rfl, setV_key, if_neg (by omega), if_pos rfl]
          simp only [setV, Option.map_some]
          congr 2
          unfold putK
          rw [zip_erase ks vs i hlen, filter_erase _ i hi hzk]
        | cons s p =>
          have hs' : LastKey (s :: p) := by cases s <;> exact hs
          rw [← hyy] at hx
          obtain ⟨r, hr1, hr2⟩ := del_then (s :: p) vs[i] x hs' (gv _ (List.getElem_mem hiv)) hx
          refine ⟨.mk 6 h t [] ks (vs.set i r), .obj (holM_put ks vs hlen gv i hik hiv x r hr1), fun z => ?_⟩
          have e1 : getK (ks.zip (vs.set i r)) k = some r := by
            have hset := zip_set ks vs i hik r hlen
            refine getK_of ?_ ?_
            · have hp := rises_irrefl hr
              have h1 : ((ks.zip (vs.set i r)).map (·.1)) = (ks.zip vs).map (·.1) := by
                rw [List.map_fst_zip (by simp; omega), List.map_fst_zip (by omega)]
              have h2 : ((ks.zip vs).map (·.1)).Pairwise (· ≠ ·) := by rw [List.pairwise_map]; exact hp
              rw [← h1, List.pairwise_map] at h2
              exact h2
            · rw [hset, hkk]
              exact List.mem_of_getElem? (i := i) (List.getElem?_set_self (by simpa using hi))
          rw [setV_key, if_neg (by omega), if_pos rfl, setV_key, if_neg (by omega), if_pos rfl, e1, hgk, Option.getD_some, Option.getD_some, hr2 z, hyy]
          congr 1
          funext u
          congr 1
          unfold putK
          rw [zip_set ks vs i hik r hlen, hkk, filter_put _ i hi r hzk]
  | .idx i :: p, .mk kd h t l ks vs, j, hs, g, hj => by
    obtain ⟨hlen, gl, gv⟩ := good_parts g
    have hs' : LastKey p := by
      cases p with
      | nil => exact hs.elim
      | cons s p => exact hs
    have hc : kd = 0 ∨ kd = 1 ∨ kd = 2 ∨ kd = 3 ∨ kd = 4 ∨ kd = 5 ∨ kd = 6 := by have := g.lens; simp only [V.kind] at this; omega
    rcases hc with rfl | rfl | rfl | rfl | rfl | rfl | rfl
    · rw [toJ_0] at hj
      simp [updJ, isHole] at hj
      exact hol_nothing g (by rw [toJ_0]; exact hj.symm)
    · rw [toJ_1] at hj; simp [updJ] at hj
    · rw [toJ_2] at hj; simp [updJ] at hj
    · by_cases e : h.tmod 2 = 0
      · rw [toJ_3i _ _ _ _ e] at hj; simp [updJ] at hj
      · rw [toJ_3f _ _ _ _ e] at hj; simp [updJ] at hj
    · rw [toJ_4] at hj; simp [updJ] at hj
    · rw [toJ_5] at hj
      obtain ⟨_, h6, _⟩ := g.kinds
      obtain rfl := h6.resolve_left (by omega)
      obtain rfl : vs = [] := List.eq_nil_of_length_eq_zero (by simpa using hlen.symm)
      by_cases hi : i < l.length
      · have e2 : (toJL l)[i]? = some (toJ l[i]) := by rw [toJL_eq]; simp [hi]
        simp only [updJ, e2] at hj
        obtain ⟨x, hx, rfl⟩ := Option.map_eq_some_iff.1 hj
        rw [padJ_in (by rw [toJL_len]; exact hi)]
        obtain ⟨r, hr1, hr2⟩ := del_then p l[i] x hs' (gl _ (List.getElem_mem hi)) hx
        refine ⟨.mk 5 h t (l.set i r) [] [], .arr (holL_put l gl i hi x r hr1), fun z => ?_⟩
        have e1 : (l.set i r).getD i nullV = r := by simp [List.getD, hi]
        have e3 : l.getD i nullV = l[i] := by simp [List.getD, hi]
        rw [setV_idx, if_neg (by omega), if_pos rfl, setV_idx, if_neg (by omega), if_pos rfl, e1, e3, hr2 z]
        congr 1
        funext u
        congr 1
        unfold padV
        rw [List.length_set, ← List.set_append_left _ _ hi, List.set_set]
      · have e2 : (toJL l)[i]? = none := by rw [toJL_eq]; simp [hi]
        simp only [updJ, e2, isHole, if_true, Option.some.injEq] at hj
        exact hol_nothing g (by rw [toJ_5]; exact hj.symm)
    · rw [toJ_6] at hj; simp [updJ] at hj
end Go.Proofs.YtjlkoekfcdpnaaaGreatDoor
