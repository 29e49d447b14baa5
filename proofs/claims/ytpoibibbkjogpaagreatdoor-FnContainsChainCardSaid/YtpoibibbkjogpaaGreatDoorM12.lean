/- spec.within. -/
/- spec.spots. -/
import Derived.Test.YtpoibibbkjogpaaGreatDoorM11
namespace Go.Proofs.YtpoibibbkjogpaaGreatDoor
open Go Go.RowKit Go.Maps Go.Deep

theorem info_spot : (Tryz.prog.info? 73).map (fun i => (i.zero, i.size, i.bytes)) = some (some (.agg #[.slice none 0 0, .int .i64 0, .int .i64 0, .string ⟨#[]⟩, .slice none 0 0, .slice none 0 0, .slice none 0 0]), 7, 128) := by kernel_rfl

theorem Good.kind_le {k h : Int} {t : ByteArray} {l : List V} {ks : List ByteArray} {vs : List V} (g : Good (.mk k h t l ks vs)) : k ≤ 6 := by
  cases g with
  | mk shape half valid list rise vkeys vals =>
    simp only [shapeB, Bool.and_eq_true, decide_eq_true_eq] at shape
    exact shape.1.1.1.1.1.2

/-- Elements, read: the row's own cells and what they mean, below B. -/
def ElemsAt (w0 : World) (B : Nat) (a : Option Addr) (l : List V) : Prop :=
  ∃ D : Nat → List Value, (0 < l.length → ∃ b o, a = some ⟨b, o, none⟩ ∧ b < B ∧ ∀ i, i < l.length → CellsAt w0 b (o + i * 6) (D i)) ∧ ∀ i (hi : i < l.length), RepV w0 B l[i] (D i)
/-- spec.Each. -/
theorem each_any {w0 : World} {B : Nat} {v : V} {cy : List Value} (hr : RepV w0 B v cy) (g : Good v) (w : World) :
    Calls Tryz.prog 67 #[.agg cy.toArray] w fun e w' => ∃ a c x, e = .returned (.tuple #[.slice a (chV v).length c, .int .i64 x]) ∧ Below w.heap.size w w' ∧ ElemsAt w0 B a (chV v) := by
  cases hr with
  | @mk k h t l ks vs la ka va lc kc vc C D hk hh ht hl hks hvs hs cl rl ck cv rv hlc =>
    by_cases c5 : k = 5
    · rw [chV_list c5]
      subst c5
      refine (each_list h t la ka va l.length lc ks.length kc vs.length vc w).mono ?_
      rintro e w' ⟨rfl, hb⟩
      exact ⟨la, lc, 0, rfl, hb, C, cl, rl⟩
    · by_cases c6 : k = 6
      · rw [chV_vals c6]
        subst c6
        refine (each_map h t la ka va l.length lc ks.length kc vs.length vc w).mono ?_
        rintro e w' ⟨rfl, hb⟩
        exact ⟨va, vc, 0, rfl, hb, D, cv, rv⟩
      · rw [chV_nil c5 c6]
        have h7 := g.kind_le
        refine (each_none k h c5 c6 (by omega) t la ka va l.length lc ks.length kc vs.length vc w).mono ?_
        rintro e w' ⟨rfl, hb⟩
        exact ⟨none, 0, 1, rfl, hb, fun _ => [], fun h => by simp at h, fun i hi => by simp at hi⟩

/-- spec.Keys of a value. -/
theorem keys_rep {w0 w : World} {B : Nat} {v : V} {cy : List Value} (hr : RepV w0 B v cy) (hb : Below B w0 w) (hB : B ≤ w.heap.size) (hl : v.list.length ≤ 400) (hk : v.keys.length ≤ 400) :
    Calls Tryz.prog 68 #[.agg cy.toArray] w fun e w' => ∃ u, e = .returned u ∧ Below w.heap.size w w' ∧ RowK w' w.heap.size u (keysOf v.list v.keys) := by
  have hr' := hr.carry hb hB
  cases hr' with
  | @mk k h t l ks vs la ka va lc kc vc C D hk' hh ht hl' hks hvs hs cl rl ck cv rv hlc =>
    exact keys_row w k h t la ka va l.length lc kc vs.length vc ks hl hk ck

/-- One place more, by append. -/
theorem app_spot {X : World} {lo n g : Nat} {vv : Value} {VS cs : List Value} (hV : X.ownsRow lo 73 7 vv n VS)
    (hg : X.heap[g]? = some (.cells cs.toArray 73)) (h7 : cs.length = 7) (h1 : ∀ u ∈ cs, u.oneCell' = true) (hn : (n + 1) * 128 ≤ 140737488351232) (hlo : lo ≤ X.heap.size) :
    ∃ v1 w1, (Builtin.append_ #[70, 70] 70 #[vv, .slice (some ⟨g, 0, none⟩) 1 1]).run Tryz.prog X = .ok v1 w1 ∧
      w1.ownsRow lo 73 7 v1 (n + 1) (VS ++ cs) ∧ X.grownBy w1 vv.ownBlock ∧ (v1.ownBlock = vv.ownBlock ∨ v1.ownBlock = some X.heap.size) := by
  obtain ⟨i0, hi, hz0, hz1, hz2⟩ := info_parts info_spot
  obtain ⟨v1, w1, e1, h2, h3, _, h5⟩ := run_append_own_at (P := Tryz.prog) X lo 70 70 73 i0 _ 7 128 Tryz.underlying70 hi hz0 hz1 hz2 rfl (by decide) vv n VS hV
    ⟨g, 0, none⟩ 1 1 cs (by rw [h7]) (fun j u hu => World.news_of_block (cs := cs.toArray) hg j u (by simpa using hu)) h1 (by unfold maxLen; omega) (by omega) hlo
  exact ⟨v1, w1, e1, h2, h3, h5⟩

theorem keyC_shape (k : V) : ∃ (kk kh : Int) (kt : ByteArray), keyC k = [.int .i64 kk, .int .i64 kh, .string kt, .slice none 0 0, .slice none 0 0, .slice none 0 0] := ⟨_, _, _, rfl⟩

theorem kids_get {p : List V} {v : V} {n : Nat} (hn : n < (kidsV p v).length) (h1 : n < (keysOf v.list v.keys).length) (h2 : n < (chV v).length) : (kidsV p v)[n] = (p ++ [(keysOf v.list v.keys)[n]], (chV v)[n]) := by
  have e : (kidsV p v)[n]? = some (p ++ [(keysOf v.list v.keys)[n]], (chV v)[n]) := by
    unfold kidsV
    rw [List.getElem?_map, List.getElem?_eq_getElem (by rw [List.length_zip]; omega), List.getElem_zip]
    rfl
  exact (List.getElem?_eq_some_iff.1 e).2

def WithinLoop (W w0 : World) (B : Nat) (R : Nat → Prop) (l : List (List V × V)) (v i : Value) (wr : World) : Prop :=
  ∃ (n : Nat) (v' : Value), n ≤ l.length ∧ v' = v ∧ i = .int .i64 (n : Nat) ∧ Below W.heap.size W wr ∧ RowSp wr w0 B W.heap.size R v' (l.take n)

set_option maxHeartbeats 4000000 in
set_option maxRecDepth 100000 in
theorem within_any (w0 : World) (B : Nat) (w : World) (v : V) (p : List V) (cs : List Value) (hs : SpotS w w0 B (· < w.heap.size) (p, v) cs) (g : Good v) (hb0 : Below B w0 w) (hB : B ≤ w.heap.size) (hll : v.list.length ≤ 400) (hkl : v.keys.length ≤ 400) (hp : p.length ≤ 1000) :
    Calls Tryz.prog 47 #[.agg cs.toArray] w fun e w' => ∃ out, e = .returned out ∧ Below w.heap.size w w' ∧ SpotsAt w' w0 B w'.heap.size (w.heap.size ≤ ·) out (kidsV p v) := by
  obtain ⟨pv, cy, rfl, hpath, hp0, hr⟩ := hs
  obtain ⟨k, h, t, la, ka, va, nl, cl, nk, ck, nv, cv, rfl⟩ := hr.shape
  have hpath0 := hpath
  obtain ⟨pa, pc, rfl, hpc, _⟩ := hpath0
  obtain ⟨W, hW⟩ : ∃ W, W = w.alloc (.cells #[.slice pa p.length pc, .int .i64 k, .int .i64 h, .string t, .slice la nl cl, .slice ka nk ck, .slice va nv cv] 73) := ⟨_, rfl⟩
  have hWs : W.heap.size = w.heap.size + 1 := by rw [hW]; simp
  have hbW : Below w.heap.size w W := by rw [hW]; exact below_alloc1 _ _
  have hat : W.heap[w.heap.size]? = some (.cells #[.slice pa p.length pc, .int .i64 k, .int .i64 h, .string t, .slice la nl cl, .slice ka nk ck, .slice va nv cv] 73) := by rw [hW]; exact at_alloc _ _
  have Hat := Lib.hid fun (_ : True) => hat
  have Hr := Lib.hid hr
  have Hpath := Lib.hid hpath
  have hbB : Below B w0 W := hb0.trans (hbW.mono hB)
  clear hpath hr
  obtain ⟨a0, a1, a2, a3, a4, a5, a6⟩ := of_block7 hat
  go_enter Tryz.func47, Tryz.ntmps47
  go_wp2_with fail
  rw [← hW]
  refine (each_any Hr.out g W).mono ?_
  rintro e w2 ⟨ra, rc, rx, rfl, hb2, hel⟩
  have hs2 := hb2.size
  have hbB2 : Below B w0 w2 := hbB.trans (hb2.mono (by omega))
  clear hat a0 a1 a2 a3 a4 a5 a6
  obtain ⟨a0, a1, a2, a3, a4, a5, a6⟩ := of_block7 ((hb2.block w.heap.size (by omega)).trans (Hat.out trivial))
  go_wp2_with fail
  refine (keys_rep Hr.out hbB2 (by omega) hll hkl).mono ?_
  rintro e w3 ⟨u, rfl, hb3, hrk⟩
  have hs3 := hb3.size
  have hbW3 : Below W.heap.size W w3 := hb2.trans (hb3.mono hs2)
  have hbB3 : Below B w0 w3 := hbB.trans (hbW3.mono (by omega))
  have hat3 := ((hbW3.block w.heap.size (by omega)).trans (Hat.out trivial))
  have Hat3 := Lib.hid fun (_ : True) => hat3
  have hks := hrk.path
  obtain ⟨ua, uc, rfl⟩ := row_form hrk
  have Hks := Lib.hid hks
  have Hel := Lib.hid hel
  have hkl2 : (kidsV p v).length = (keysOf v.list v.keys).length := by
    unfold kidsV
    rw [List.length_map, List.length_zip, keys_len g, Nat.min_self]
  clear hat3 hrk hks hel a0 a1 a2 a3 a4 a5 a6
  have HW := Lib.hid hW; clear hW
  go_wp2_with fail
  go_loopw [3, 18] (fun v' i wr => WithinLoop w3 w0 B (w.heap.size ≤ ·) (kidsV p v) v' i wr) (fun _ i _ => (kidsV p v).length - (intOf i).toNat)
  case atStart => exact ⟨0, _, Nat.zero_le _, rfl, rfl, Below.refl _ _, RowSp.nil _ _ _ _ _⟩
  case round =>
    obtain ⟨n, vv, hn, rfl, rfl, hb, hrow⟩ := hrel
    have hs := hb.size
    by_cases hn' : n < (kidsV p v).length
    · have hk' : n < (keysOf v.list v.keys).length := by omega
      have hc' : n < (chV v).length := by rw [← keys_len g]; exact hk'
      obtain ⟨ua', uc', eu, _, huc⟩ := Hks.out
      injection eu with eu1 eu2 eu3
      subst eu1 eu3
      obtain ⟨ub, uo, rfl, hub, hucel⟩ := huc (by omega)
      obtain ⟨kk, kh, kt, hkc⟩ := keyC_shape (keysOf v.list v.keys)[n]
      have hcell := hucel n hk'
      rw [hkc] at hcell
      have hcell' := hcell.below hb hub.2
      obtain ⟨k0, k1, k2, k3, k4, k5⟩ := cells6 hcell'
      have u1 : (n : Int) < ((keysOf v.list v.keys).length : Int) := by omega
      have u2 : (0 : Int) ≤ (n : Int) := by omega
      have Hrow := Lib.hid hrow
      clear hrow hcell hcell' hucel huc
      obtain ⟨D, hdc, hdr⟩ := Hel.out
      obtain ⟨eb, eo, rfl, heb, hecel⟩ := hdc (by omega)
      obtain ⟨dk, dh, dt, dla, dka, dva, dnl, dcl, dnk, dck, dnv, dcv, hd⟩ := (hdr n hc').shape
      have hde := hecel n hc'
      rw [hd] at hde
      have hdrn := hdr n hc'
      rw [hd] at hdrn
      have u3 : (n : Int) < ((chV v).length : Int) := by omega
      clear hdc hdr hecel hd
      have Hde := Lib.hid hde
      have Hdrn := Lib.hid hdrn
      clear hde hdrn
      go_wp2_with fail
      obtain ⟨X, hX⟩ : ∃ X, X = wr.alloc (.cells #[.int .i64 kk, .int .i64 kh, .string kt, .slice none 0 0, .slice none 0 0, .slice none 0 0] 26) := ⟨_, rfl⟩
      rw [← hX]
      have hXs : X.heap.size = wr.heap.size + 1 := by rw [hX]; simp
      have hbX : Below wr.heap.size wr X := by rw [hX]; exact below_alloc1 _ _
      have hXk : X.heap[wr.heap.size]? = some (.cells #[.int .i64 kk, .int .i64 kh, .string kt, .slice none 0 0, .slice none 0 0, .slice none 0 0] 26) := by rw [hX]; exact at_alloc _ _
      clear hX
      have hb3X : Below w3.heap.size w3 X := hb.trans (hbX.mono hs)
      have hXsp := (hb3X.block w.heap.size (by omega)).trans (Hat3.out trivial)
      have Hsp := Lib.hid fun (_ : True) => hXsp
      have Hk := Lib.hid fun (_ : True) => hXk
      have hbBX : Below B w0 X := hbB3.trans (hb3X.mono (by omega))
      have Hel2 := Lib.hid (Hde.out.below hbBX heb)
      clear hXsp hXk k0 k1 k2 k3 k4 k5
      refine wp_region_any (by kernel_rfl) (wpAny_of_G (S := fun _ w' => ∀ q, q < X.heap.size → vv.ownBlock ≠ some q → w'.heap[q]? = X.heap[q]?) _ _ _ _ ?_)
      have hok : ∀ j : Nat, (fun _ => true) j = true → ∀ w' : World, (∀ q, q < X.heap.size → vv.ownBlock ≠ some q → w'.heap[q]? = X.heap[q]?) → ∀ q, q < X.heap.size → vv.ownBlock ≠ some q → w'.heap[q]? = X.heap[q]? := fun j _ w' hS => hS
      have hTS : ∀ w' : World, (∀ q, q < X.heap.size → vv.ownBlock ≠ some q → w'.heap[q]? = X.heap[q]?) → ∀ q, q < X.heap.size → vv.ownBlock ≠ some q → w'.heap[q]? = X.heap[q]? := fun w' h => h
      have hown0 : ∀ q, vv.ownBlock = some q → w3.heap.size ≤ q ∧ q < wr.heap.size := fun q hq => by
        obtain ⟨C, hown, _⟩ := Hrow.out
        exact World.ownsRow.lt hown q hq
      refine wpAnyG_take (i := 0) (v := vv) (T := fun w' => ∀ q, q < X.heap.size → vv.ownBlock ≠ some q → w'.heap[q]? = X.heap[q]?) (fun _ => true) rfl (by kernel_rfl) (by kernel_rfl) (by kernel_rfl) (fun _ _ _ h => h) hok hTS rfl ?_ (fun q hq _ => rfl) ?_
      · intro w' hw'
        go_simp
      simp only [Act.put]
      try simp only [List.setIfInBounds_toArray]
      refine wpAnyG_take (i := 1) (v := .agg #[.slice pa p.length pc, .int .i64 k, .int .i64 h, .string t, .slice la nl cl, .slice ka nk ck, .slice va nv cv]) (T := fun w' => ∀ q, q < X.heap.size → vv.ownBlock ≠ some q → w'.heap[q]? = X.heap[q]?) (fun _ => true) rfl (by kernel_rfl) (by kernel_rfl) (by kernel_rfl) (fun _ _ _ h => h) hok hTS rfl ?_ (fun q hq _ => rfl) ?_
      · intro w' hw'
        obtain ⟨y0, y1, y2, y3, y4, y5, y6⟩ := of_block7 ((hw' w.heap.size (by omega) (fun e => by have := hown0 _ e; omega)).trans (Hsp.out trivial))
        go_simp
      simp only [Act.put]
      try simp only [List.setIfInBounds_toArray, set_cs]
      refine wpAnyG_take (i := 2) (v := .agg #[.int .i64 kk, .int .i64 kh, .string kt, .slice none 0 0, .slice none 0 0, .slice none 0 0]) (T := fun w' => ∀ q, q < X.heap.size → vv.ownBlock ≠ some q → w'.heap[q]? = X.heap[q]?) (fun _ => true) rfl (by kernel_rfl) (by kernel_rfl) (by kernel_rfl) (fun _ _ _ h => h) hok hTS rfl ?_ (fun q hq _ => rfl) ?_
      · intro w' hw'
        obtain ⟨y0, y1, y2, y3, y4, y5⟩ := of_block6 ((hw' wr.heap.size (by omega) (fun e => by have := hown0 _ e; omega)).trans (Hk.out trivial))
        go_simp
      simp only [Act.put]
      try simp only [List.setIfInBounds_toArray, set_cs]
      refine wpAnyG_take (i := 3) (v := .slice (some ⟨eb, eo, none⟩) (chV v).length rc) (T := fun w' => ∀ q, q < X.heap.size → vv.ownBlock ≠ some q → w'.heap[q]? = X.heap[q]?) (fun _ => true) rfl (by kernel_rfl) (by kernel_rfl) (by kernel_rfl) (fun _ _ _ h => h) hok hTS rfl ?_ (fun q hq _ => rfl) ?_
      · intro w' hw'
        go_simp
      simp only [Act.put]
      try simp only [List.setIfInBounds_toArray, set_cs]
      refine wpAnyG_take (i := 4) (v := .int .i64 (n : Nat)) (T := fun w' => ∀ q, q < X.heap.size → vv.ownBlock ≠ some q → w'.heap[q]? = X.heap[q]?) (fun _ => true) rfl (by kernel_rfl) (by kernel_rfl) (by kernel_rfl) (fun _ _ _ h => h) hok hTS rfl ?_ (fun q hq _ => rfl) ?_
      · intro w' hw'
        go_simp
      simp only [Act.put]
      try simp only [List.setIfInBounds_toArray, set_cs]
      refine wpAnyG_take (i := 5) (v := .pointer (some ⟨eb, eo + n * 6, none⟩)) (T := fun w' => ∀ q, q < X.heap.size → vv.ownBlock ≠ some q → w'.heap[q]? = X.heap[q]?) (fun _ => true) rfl (by kernel_rfl) (by kernel_rfl) (by kernel_rfl) (fun _ _ _ h => h) hok hTS rfl ?_ (fun q hq _ => rfl) ?_
      · intro w' hw'
        go_simp
      simp only [Act.put]
      try simp only [List.setIfInBounds_toArray, set_cs]
      refine wpAnyG_take (i := 6) (v := .agg #[.int .i64 dk, .int .i64 dh, .string dt, .slice dla dnl dcl, .slice dka dnk dck, .slice dva dnv dcv]) (T := fun w' => ∀ q, q < X.heap.size → vv.ownBlock ≠ some q → w'.heap[q]? = X.heap[q]?) (fun _ => true) rfl (by kernel_rfl) (by kernel_rfl) (by kernel_rfl) (fun _ _ _ h => h) hok hTS rfl ?_ (fun q hq _ => rfl) ?_
      · intro w' hw'
        obtain ⟨y0, y1, y2, y3, y4, y5⟩ := cells6 (Hel2.out.same (hw' eb (by omega) (fun e => by have := hown0 _ e; omega)))
        go_simp
      simp only [Act.put]
      try simp only [List.setIfInBounds_toArray, set_cs]
      generalize hX0 : ({ X with drawn := X.drawn + 1 } : World) = X0
      have hXe : ∀ q, q < X.heap.size → X0.heap[q]? = X.heap[q]? := by subst hX0; exact fun q hq => rfl
      have hX0s : X0.heap.size = X.heap.size := by subst hX0; rfl
      have hXb : Below X.heap.size X X0 := by subst hX0; exact ⟨rfl, rfl, rfl, Nat.le_refl _, fun q hq => rfl⟩
      clear hX0
      have hb3X0 : Below w3.heap.size w3 X0 := hb3X.trans (hXb.mono (by omega))
      have hwX0 : Below w.heap.size w X0 := hbW.trans ((hbW3.trans (hb3X0.mono (by omega))).mono (by omega))
      refine wpAnyG_all (rs := [7]) (by kernel_rfl) (by simp) ?_
      intro i hi
      simp only [List.mem_cons, List.not_mem_nil, or_false] at hi
      subst hi
      refine wpOp_call (w := X0) rfl rfl (by go_simp) (below_any X0 p (.slice pa p.length pc) (Hpath.out.turn fun q hq => ⟨hwX0.block q hq, by have := hwX0.size; have : q < w.heap.size := hq; show q < X0.heap.size; omega⟩) hp0 hp kk kh kt (.int .i64 k) (.int .i64 h) (.string t) (.slice la nl cl) (.slice ka nk ck) (.slice va nv cv) dk dh dt dla dka dva dnl dcl dnk dck dnv dcv (keysOf v.list v.keys)[n] hkc ⟨_, _, _, rfl⟩) ?_
      rintro e w7 ⟨pv', rfl, hb7, hp7⟩
      have hb7s := hb7.size
      have hT7 : ∀ q, q < X.heap.size → vv.ownBlock ≠ some q → w7.heap[q]? = X.heap[q]? := fun q hq _ => (hb7.block q (by omega)).trans (hXe q hq)
      refine ⟨_, rfl, hT7, ?_⟩
      simp only [Act.put]
      try simp only [List.setIfInBounds_toArray, set_cs]
      have hpf := hp7
      obtain ⟨qa, qc, rfl, _, _⟩ := hpf
      obtain ⟨w8, hw8⟩ : ∃ w8, w8 = w7.alloc (.cells #[.slice qa (p ++ [(keysOf v.list v.keys)[n]]).length qc, .int .i64 dk, .int .i64 dh, .string dt, .slice dla dnl dcl, .slice dka dnk dck, .slice dva dnv dcv] 73) := ⟨_, rfl⟩
      have hw8s : w8.heap.size = w7.heap.size + 1 := by rw [hw8]; simp
      have hb8 : Below w7.heap.size w7 w8 := by rw [hw8]; exact below_alloc1 _ _
      have hat8 : w8.heap[w7.heap.size]? = some (.cells #[.slice qa (p ++ [(keysOf v.list v.keys)[n]]).length qc, .int .i64 dk, .int .i64 dh, .string dt, .slice dla dnl dcl, .slice dka dnk dck, .slice dva dnv dcv] 73) := by rw [hw8]; exact at_alloc _ _
      have hT8 : ∀ q, q < X.heap.size → vv.ownBlock ≠ some q → w8.heap[q]? = X.heap[q]? := fun q hq h => (hb8.block q (by omega)).trans (hT7 q hq h)
      refine wpAnyG_all (rs := [8]) (by kernel_rfl) (by simp) ?_
      intro i hi
      simp only [List.mem_cons, List.not_mem_nil, or_false] at hi
      subst hi
      refine wpOp_value (v := .slice (some ⟨w7.heap.size, 0, none⟩) 1 1) (w' := w8) rfl rfl (by rw [hw8]; go_simp) ⟨hT8, ?_⟩
      clear hw8
      simp only [Act.put]
      try simp only [List.setIfInBounds_toArray, set_cs]
      refine wpAnyG_all (rs := [9]) (by kernel_rfl) (by simp) ?_
      intro i hi
      simp only [List.mem_cons, List.not_mem_nil, or_false] at hi
      subst hi
      have hbr8 : Below wr.heap.size wr w8 := (hbX.trans (hXb.mono (by omega))).trans ((hb7.mono (by omega)).trans (hb8.mono (by omega)))
      obtain ⟨C, hown, hrC⟩ := Hrow.out.below hbr8
      have hkl400 : n ≤ 800 := by
        have : (keysOf v.list v.keys).length = v.list.length + v.keys.length := by unfold keysOf; simp
        omega
      have htl : ((kidsV p v).take n).length = n := by rw [List.length_take]; omega
      obtain ⟨v9, w9, e9, o9, g9, at9⟩ := app_spot (X := w8) hown (g := w7.heap.size) (cs := [.slice qa (p ++ [(keysOf v.list v.keys)[n]]).length qc, .int .i64 dk, .int .i64 dh, .string dt, .slice dla dnl dcl, .slice dka dnk dck, .slice dva dnv dcv]) hat8 rfl (by intro u hu; simp only [List.mem_cons, List.not_mem_nil, or_false] at hu; rcases hu with rfl | rfl | rfl | rfl | rfl | rfl | rfl <;> rfl) (by rw [htl]; omega) (by omega)
      have hT9 : ∀ q, q < X.heap.size → vv.ownBlock ≠ some q → w9.heap[q]? = X.heap[q]? := fun q hq h => (g9.block q (by omega) (fun e => h e.symm)).trans (hT8 q hq h)
      refine wpOp_value (v := v9) (w' := w9) rfl rfl (exec_append (s := .tmp 23) (x := .tmp 31) (t := 70) (v := vv) (y := .slice (some ⟨w7.heap.size, 0, none⟩) 1 1) rfl (by simp [Act.eval]) (by simp [Act.eval]) e9) ⟨hT9, ?_⟩
      simp only [Act.put]
      try simp only [List.setIfInBounds_toArray, set_cs]
      refine wpAnyG_all (rs := [10]) (by kernel_rfl) (by simp) ?_
      intro i hi
      simp only [List.mem_cons, List.not_mem_nil, or_false] at hi
      subst hi
      refine wpOp_value (v := v9) (w' := w9) rfl rfl (by go_simp) ⟨hT9, ?_⟩
      have hloop : WithinLoop w3 w0 B (w.heap.size ≤ ·) (kidsV p v) v9 (.int .i64 ((n : Int) + 1)) w9 := by
        have hb38 : Below w3.heap.size w3 w8 := hb.trans (hbr8.mono hs)
        have g9s := g9.size
        refine ⟨n + 1, v9, by omega, rfl, rfl, hb38.grown g9 (by omega) (fun q hq => (hown0 q hq).1), ?_⟩
        rw [List.take_succ_eq_append_getElem hn', kids_get hn' hk' hc']
        refine RowSp.push (D := fun _ => [.slice qa (p ++ [(keysOf v.list v.keys)[n]]).length qc, .int .i64 dk, .int .i64 dh, .string dt, .slice dla dnl dcl, .slice dka dnk dck, .slice dva dnv dcv]) hrC ?_ (by simpa [flat] using o9) g9 at9
        intro j hj
        have hj0 : j = 0 := by simpa using hj
        subst hj0
        exact ⟨_, _, rfl, hp7.turn fun q hq => ⟨hb8.block q hq.2, (by have := hq.1; have := hwX0.size; show w.heap.size ≤ q; omega), by have := hq.2; omega, fun e => by have := hown0 q e; have := hq.1; omega⟩, fun e => by simp at e, Hdrn.out⟩
      have Hloop := Lib.hid hloop
      obtain ⟨fa, fc, rfl⟩ := row_form o9
      clear hloop o9 g9 at9 e9 hown hrC
      refine wpAnyG_done (by kernel_rfl) ?_
      simp only [Act.put]
      try simp only [List.setIfInBounds_toArray, set_cs]
      go_wp2_with fail
      go_roundw
      case rel =>
        have hl := Hloop.out
        rw [htl] at hl
        exact hl
      case measure => simp [intOf]; omega
    · have en : n = (kidsV p v).length := by omega
      have u1 : ¬ ((n : Int) < ((keysOf v.list v.keys).length : Int)) := by omega
      have hfin : SpotsAt wr w0 B wr.heap.size (w.heap.size ≤ ·) vv (kidsV p v) := by
        have := hrow.at (fun k hk => by show w.heap.size ≤ k; omega)
        rwa [en, List.take_length] at this
      have hbf : Below w.heap.size w wr := hbW.trans ((hbW3.trans (hb.mono (by omega))).mono (by omega))
      have Hfin := Lib.hid hfin
      have Hbf := Lib.hid hbf
      obtain ⟨fa, fc, C, rfl, _⟩ := hfin
      clear hrow hbf hb
      go_wp2_with fail
      go_ret
      have hf := Hfin.out
      rw [hkl2] at hf
      exact ⟨_, rfl, Hbf.out, hf⟩

end Go.Proofs.YtpoibibbkjogpaaGreatDoor

namespace Go.Proofs.YtpoibibbkjogpaaGreatDoor
open Go Go.RowKit Go.Maps Go.Deep

theorem Good.kid {v : V} (g : Good v) {i : Nat} (hi : i < (chV v).length) : Good (chV v)[i] := by
  cases g with
  | @mk k h t l ks vs shape half valid list rise vkeys vals =>
    by_cases c5 : k = 5
    · simp only [chV_list c5] at hi ⊢
      exact list i hi
    · by_cases c6 : k = 6
      · simp only [chV_vals c6] at hi ⊢
        exact vals i hi
      · simp only [chV_nil c5 c6] at hi
        exact absurd hi (by simp)
theorem size_kid {v : V} {i : Nat} (hi : i < (chV v).length) : sizeV (chV v)[i] < sizeV v := by
  obtain ⟨k, h, t, l, ks, vs⟩ := v
  by_cases c5 : k = 5
  · simp only [chV_list c5] at hi ⊢
    have := sizeL_get hi
    rw [sizeV]; omega
  · by_cases c6 : k = 6
    · simp only [chV_vals c6] at hi ⊢
      have := sizeL_get hi
      rw [sizeV]; omega
    · simp only [chV_nil c5 c6] at hi
      exact absurd hi (by simp)
theorem size_lens {v : V} (g : Good v) : v.list.length ≤ sizeV v ∧ v.keys.length ≤ sizeV v := by
  obtain ⟨k, h, t, l, ks, vs⟩ := v
  have h1 := sizeL_len l
  have h2 := sizeL_len vs
  have h3 := g.kinds.2.2
  rw [sizeV]
  show l.length ≤ _ ∧ ks.length ≤ _
  omega
theorem flatMap_take_le {α β : Type} (f : α → List β) (l : List α) (n : Nat) : ((l.take n).flatMap f).length ≤ (l.flatMap f).length := by
  have : l.flatMap f = (l.take n).flatMap f ++ (l.drop n).flatMap f := by rw [← List.flatMap_append, List.take_append_drop]
  rw [this, List.length_append]
  omega
theorem flat_cells {w : World} {b m s : Nat} {C : Nat → List Value} (hs : 0 < s) (h7 : ∀ i, i < m → (C i).length = s) (hc : ∀ i, i < m → CellsAt w b (i * s) (C i)) (j : Nat) (u : Value) (hu : (flat C m)[j]? = some u) : w.cell? ((⟨b, 0, none⟩ : Addr).add j) = some u := by
  have hj : j < m * s := by
    have := (List.getElem?_eq_some_iff.1 hu).1
    rwa [flatS_len h7] at this
  have hm : j / s < m := Nat.div_lt_of_lt_mul (by rwa [Nat.mul_comm])
  have hr : j % s < s := Nat.mod_lt _ hs
  have hjj : j / s * s + j % s = j := by rw [Nat.mul_comm]; exact Nat.div_add_mod j s
  have := flatS_get h7 (j / s) (j % s) hm hr
  rw [hjj, hu] at this
  obtain ⟨hl, he⟩ := List.getElem?_eq_some_iff.1 this.symm
  have hh := hc (j / s) hm (j % s) hl
  rw [he] at hh
  have e : (⟨b, 0, none⟩ : Addr).add j = ⟨b, j / s * s + j % s, none⟩ := by
    rw [hjj]
    unfold Addr.add
    split
    · simp_all
    · simp
  rw [e]
  exact hh

theorem own_block {b n c q : Nat} (e : (Value.slice (some ⟨b, 0, none⟩) n c).ownBlock = some q) : b = q := Option.some.inj e
theorem cells7 {w : World} {b o : Nat} {c0 c1 c2 c3 c4 c5 c6 : Value} (h : CellsAt w b o [c0, c1, c2, c3, c4, c5, c6]) :
    w.cell? ⟨b, o, none⟩ = some c0 ∧ w.cell? ⟨b, o + 1, none⟩ = some c1 ∧ w.cell? ⟨b, o + 2, none⟩ = some c2 ∧ w.cell? ⟨b, o + 3, none⟩ = some c3 ∧ w.cell? ⟨b, o + 4, none⟩ = some c4 ∧ w.cell? ⟨b, o + 5, none⟩ = some c5 ∧ w.cell? ⟨b, o + 6, none⟩ = some c6 :=
  ⟨h 0 (by simp), h 1 (by simp), h 2 (by simp), h 3 (by simp), h 4 (by simp), h 5 (by simp), h 6 (by simp)⟩
theorem flatS_one {m : Nat} {C : Nat → List Value} (h1 : ∀ i, i < m → ∀ u ∈ C i, u.oneCell' = true) : ∀ u ∈ flat C m, u.oneCell' = true := by
  induction m with
  | zero => intro u hu; simp [flat] at hu
  | succ m ih =>
    intro u hu
    simp only [flat, List.mem_append] at hu
    rcases hu with hu | hu
    · exact ih (fun i hi => h1 i (by omega)) u hu
    · exact h1 m (by omega) u hu

/-- What spots has gathered after n of the places below. -/
def outN (p : List V) (v : V) (n : Nat) : List (List V × V) := (p, v) :: ((kidsV p v).take n).flatMap fun q => spotsV q.1 q.2
theorem outN_succ {p : List V} {v : V} {n : Nat} (hn : n < (kidsV p v).length) {kp : List V} {kc : V} (hk : (kidsV p v)[n] = (kp, kc)) : outN p v (n + 1) = outN p v n ++ spotsV kp kc := by
  unfold outN
  rw [List.take_succ_eq_append_getElem hn, List.flatMap_append, hk]
  simp
theorem outN_all {p : List V} {v : V} (g : Good v) : outN p v (kidsV p v).length = spotsV p v := by
  unfold outN
  rw [List.take_length, spotsV_kids g]
theorem outN_len (p : List V) {v : V} (g : Good v) (n : Nat) : (outN p v n).length ≤ sizeV v := by
  have h := flatMap_take_le (fun q => spotsV q.1 q.2) (kidsV p v) n
  have h2 := spotsV_len p v
  rw [spotsV_kids g] at h2
  unfold outN
  simp only [List.length_cons] at h2 ⊢
  omega
theorem spotsV_pos (p : List V) (v : V) : 0 < (spotsV p v).length := by
  obtain ⟨k, h, t, l, ks, vs⟩ := v
  unfold spotsV
  simp
def SpotsLoop (W w0 : World) (B g0 N3 : Nat) (R : Nat → Prop) (p : List V) (x : V) (v i : Value) (wr : World) : Prop :=
  ∃ (n : Nat) (v' : Value), n ≤ (kidsV p x).length ∧ v' = v ∧ i = .int .i64 (n : Nat) ∧ Below g0 W wr ∧ RowSp wr w0 B g0 R v' (outN p x n) ∧ N3 ≤ wr.heap.size ∧ (∀ g, v'.ownBlock = some g → g = g0 ∨ N3 ≤ g) ∧ (∀ q, q < N3 → q ≠ g0 → wr.heap[q]? = W.heap[q]?)

set_option maxHeartbeats 4000000 in
set_option maxRecDepth 100000 in
theorem spots_any (w0 : World) (B : Nat) : ∀ (m : Nat) (v : V), sizeV v ≤ m → Good v → ∀ (w : World) (p : List V) (cs : List Value) (S : Nat → Prop), SpotS w w0 B S (p, v) cs → (∀ k, S k → k < w.heap.size) → Below B w0 w → B ≤ w.heap.size → p.length + sizeV v ≤ 1000 → sizeV v ≤ 400 →
    Calls Tryz.prog 35 #[.agg cs.toArray] w fun e w' => ∃ out, e = .returned out ∧ Below w.heap.size w w' ∧ SpotsAt w' w0 B w'.heap.size (fun k => S k ∨ w.heap.size ≤ k) out (spotsV p v)
  | 0, v, hm, _ => by have := sizeV_pos v; omega
  | m + 1, v, hm, g => by
    intro w p cs S hs hS hb0 hB hpl hz
    have IH := Lib.hid (spots_any w0 B m)
    have hs' := hs
    obtain ⟨pv, cy, rfl, hpath, hp0, hr⟩ := hs'
    obtain ⟨k, h, t, la, ka, va, nl, cl, nk, ck, nv, cv, rfl⟩ := hr.shape
    obtain ⟨pa, pc, rfl, hpc, _⟩ := hpath
    obtain ⟨W, hW⟩ : ∃ W, W = w.alloc (.cells #[.slice pa p.length pc, .int .i64 k, .int .i64 h, .string t, .slice la nl cl, .slice ka nk ck, .slice va nv cv] 73) := ⟨_, rfl⟩
    have hWs : W.heap.size = w.heap.size + 1 := by rw [hW]; simp
    have hbW : Below w.heap.size w W := by rw [hW]; exact below_alloc1 _ _
    have hat : W.heap[w.heap.size]? = some (.cells #[.slice pa p.length pc, .int .i64 k, .int .i64 h, .string t, .slice la nl cl, .slice ka nk ck, .slice va nv cv] 73) := by rw [hW]; exact at_alloc _ _
    have Hat := Lib.hid fun (_ : True) => hat
    have Hs := Lib.hid hs
    have HS := Lib.hid hS
    obtain ⟨a0, a1, a2, a3, a4, a5, a6⟩ := of_block7 hat
    clear hs hS hr
    go_enter Tryz.func35, Tryz.ntmps35
    go_wp2_with fail
    rw [← hW]
    obtain ⟨W1, hW1⟩ : ∃ W1, W1 = W.alloc (.cells #[.slice pa p.length pc, .int .i64 k, .int .i64 h, .string t, .slice la nl cl, .slice ka nk ck, .slice va nv cv] 73) := ⟨_, rfl⟩
    have hW1s : W1.heap.size = W.heap.size + 1 := by rw [hW1]; simp
    have hbW1 : Below W.heap.size W W1 := by rw [hW1]; exact below_alloc1 _ _
    have hw1 : Below w.heap.size w W1 := hbW.trans (hbW1.mono (by omega))
    have hrow1 : RowSp W1 w0 B (w.heap.size + 1) (fun k => S k ∨ w.heap.size ≤ k) (.slice (some ⟨w.heap.size + 1, 0, none⟩) 1 1) [(p, v)] := by
      refine ⟨fun _ => [.slice pa p.length pc, .int .i64 k, .int .i64 h, .string t, .slice la nl cl, .slice ka nk ck, .slice va nv cv], ?_, fun i hi => ?_⟩
      · have := World.ownsRow_lit (base := w.heap.size + 1) (e := 73) (size := 7) W #[.slice pa p.length pc, .int .i64 k, .int .i64 h, .string t, .slice la nl cl, .slice ka nk ck, .slice va nv cv] 1 (by omega) (by decide) rfl
        rw [← hW1, hWs] at this
        exact this
      · have hi0 : i = 0 := by simpa using hi
        subst hi0
        exact Hs.out.turn fun q hq => ⟨hw1.block q (HS.out q hq), .inl hq, by have := HS.out q hq; omega, fun e => by have := own_block e; have := HS.out q hq; omega⟩
    have hs1 : SpotS W1 w0 B (· < W1.heap.size) (p, v) [.slice pa p.length pc, .int .i64 k, .int .i64 h, .string t, .slice la nl cl, .slice ka nk ck, .slice va nv cv] := Hs.out.turn fun q hq => ⟨hw1.block q (HS.out q hq), by show q < W1.heap.size; have := HS.out q hq; omega⟩
    rw [← hW1]
    clear hW1
    have hl := size_lens g
    refine (within_any w0 B W1 v p _ hs1 g (hb0.trans (hw1.mono hB)) (by omega) (by omega) (by omega) (by omega)).mono ?_
    rintro e w3 ⟨ko, rfl, hb3, hks⟩
    have hs3 := hb3.size
    have hrow3 := hrow1.below hb3
    have hw3 : Below w.heap.size w w3 := hw1.trans (hb3.mono (by omega))
    clear hrow1 hs1 hat a0 a1 a2 a3 a4 a5 a6
    obtain ⟨xa, xc, C, rfl, _, hxc, hxs⟩ := hks
    have Hxc := Lib.hid hxc
    have Hxs := Lib.hid hxs
    clear hxc hxs
    have HW := Lib.hid hW; clear hW
    go_wp2_with fail
    go_loopw [3, 11] (fun v' i wr => SpotsLoop w3 w0 B (w.heap.size + 1) w3.heap.size (fun k => S k ∨ w.heap.size ≤ k) p v v' i wr) (fun _ i _ => (kidsV p v).length - (intOf i).toNat)
    case atStart => exact ⟨0, _, Nat.zero_le _, rfl, rfl, Below.refl _ _, hrow3, Nat.le_refl _, fun g e => .inl (own_block e).symm, fun _ _ _ => rfl⟩
    case round =>
      obtain ⟨n, vv, hn, rfl, rfl, hb, hrow, hN, hob, hsame⟩ := hrel
      by_cases hn' : n < (kidsV p v).length
      · obtain ⟨b, rfl, ⟨hbR, hbN⟩, hcel⟩ := Hxc.out (by omega)
        have hbR : W1.heap.size ≤ b := hbR
        have hk1 : n < (keysOf v.list v.keys).length := by
          have : (kidsV p v).length = (keysOf v.list v.keys).length := by
            unfold kidsV
            rw [List.length_map, List.length_zip, keys_len g, Nat.min_self]
          omega
        have hk2 : n < (chV v).length := by rw [← keys_len g]; exact hk1
        have hn800 : n < 1000 := by
          have e : (keysOf v.list v.keys).length = v.list.length + v.keys.length := by unfold keysOf; simp
          omega
        have hkid := kids_get hn' hk1 hk2
        have gk := g.kid hk2
        have zk := size_kid hk2
        have hpk : (p ++ [(keysOf v.list v.keys)[n]]).length = p.length + 1 := by simp
        have hsp := Hxs.out n hn'
        rw [hkid] at hsp
        generalize p ++ [(keysOf v.list v.keys)[n]] = kp at *
        generalize (chV v)[n] = kc at *
        have hce := hcel n hn'
        obtain ⟨qa, qn, qc, dk, dh, dt, dla, dka, dva, dnl, dcl, dnk, dck, dnv, dcv, hC⟩ := hsp.shape
        rw [hC] at hce hsp
        have hce' := hce.same (hsame b hbN (by omega))
        obtain ⟨k0, k1, k2, k3, k4, k5, k6⟩ := cells7 hce'
        have u1 : (n : Int) < ((kidsV p v).length : Int) := by omega
        have u2 : (0 : Int) ≤ (n : Int) := by omega
        have Hrow := Lib.hid hrow
        have Hsp := Lib.hid hsp
        have Hob := Lib.hid hob
        have Hsame := Lib.hid hsame
        clear hrow hsp hob hsame hce hce' hcel hC hrow3
        obtain ⟨X, hX⟩ : ∃ X, X = wr.alloc (.cells #[.slice qa qn qc, .int .i64 dk, .int .i64 dh, .string dt, .slice dla dnl dcl, .slice dka dnk dck, .slice dva dnv dcv] 73) := ⟨_, rfl⟩
        have hXs : X.heap.size = wr.heap.size + 1 := by rw [hX]; simp
        have hbX : Below wr.heap.size wr X := by rw [hX]; exact below_alloc1 _ _
        have HX := Lib.hid hX
        clear hX
        go_wp2_with fail
        rw [← HX.out]
        clear k0 k1 k2 k3 k4 k5 k6
        have hspX : SpotS X w0 B (fun k => W1.heap.size ≤ k ∧ k < w3.heap.size) (kp, kc) _ := Hsp.out.turn fun q hq => ⟨(hbX.block q (by have := hq.2; omega)).trans (Hsame.out q hq.2 (by have : W1.heap.size ≤ q := hq.1; omega)), hq⟩
        refine (IH.out kc (by omega) gk X kp _ _ hspX (fun k hk => by have := hk.2; omega) (hb0.trans ((hw3.mono hB).trans ((hb.mono (by omega)).trans (hbX.mono (by omega))))) (by omega) (by omega) (by omega)).mono ?_
        rintro e w5 ⟨ou, rfl, hb5, hat5⟩
        have hb5s := hb5.size
        obtain ⟨ya, yc, D, rfl, hyc, hyd, hys⟩ := hat5
        obtain ⟨yb, rfl, ⟨_, hybN⟩, hycel⟩ := hyd (spotsV_pos kp kc)
        have hbr5 : Below wr.heap.size wr w5 := hbX.trans (hb5.mono (by omega))
        obtain ⟨CC, hown, hrC⟩ := Hrow.out.below hbr5
        have hsucc := outN_succ hn' hkid
        have hlen1 := outN_len p g (n + 1)
        rw [hsucc, List.length_append] at hlen1
        obtain ⟨i0, hi, hz0, hz1, hz2⟩ := info_parts info_spot
        have hnext : ∀ v6 w6, w6.ownsRow (w.heap.size + 1) 73 7 v6 ((outN p v n).length + (spotsV kp kc).length) (flat CC (outN p v n).length ++ flat D (spotsV kp kc).length) → w5.grownBy w6 vv.ownBlock → (v6.ownBlock = vv.ownBlock ∨ v6.ownBlock = some w5.heap.size) →
            SpotsLoop w3 w0 B (w.heap.size + 1) w3.heap.size (fun k => S k ∨ w.heap.size ≤ k) p v v6 (.int .i64 ((n : Int) + 1)) w6 := by
          intro v6 w6 ho hg6 hat6
          have hg6s := hg6.size
          have hlt := fun q hq => World.ownsRow.lt hown q hq
          refine ⟨n + 1, v6, by omega, rfl, rfl, (hb.trans (hbr5.mono (by omega))).grown hg6 (by omega) (fun q hq => (hlt q hq).1), ?_, by omega, ?_, ?_⟩
          · rw [hsucc]
            refine RowSp.push hrC (fun i hi => (hys i hi).turn fun q hq => ⟨rfl, ?_, hq.2, fun e => ?_⟩) ho hg6 hat6
            · rcases hq.1 with ⟨h1, _⟩ | h1
              · have : W1.heap.size ≤ q := h1
                exact .inr (by omega)
              · exact .inr (by omega)
            · have h2 : q < wr.heap.size := by
                obtain ⟨C2, ho2, _⟩ := Hrow.out
                exact (World.ownsRow.lt ho2 q e).2
              rcases hq.1 with ⟨h1, h3⟩ | h1
              · have : W1.heap.size ≤ q := h1
                rcases Hob.out q e with h4 | h4 <;> omega
              · have : X.heap.size ≤ q := h1
                omega
          · intro gq hgq
            rcases hat6 with e | e
            · exact Hob.out gq (by rw [← e]; exact hgq)
            · rw [e] at hgq
              cases hgq
              exact .inr (by omega)
          · intro q hq hne
            have h1 : w6.heap[q]? = w5.heap[q]? := hg6.block q (by omega) (fun e => by
              rcases Hob.out q e.symm with h4 | h4 <;> omega)
            rw [h1, hbr5.block q (by omega)]
            exact Hsame.out q hq hne
        have Hnext := Lib.hid hnext
        have hnews := flat_cells (w := w5) (b := yb) (m := (spotsV kp kc).length) (by decide) (fun i hi => (hys i hi).seven) hycel
        have hlen7 : (flat D (spotsV kp kc).length).length = (spotsV kp kc).length * 7 := flatS_len (fun i hi => (hys i hi).seven)
        have hone := flatS_one (m := (spotsV kp kc).length) (C := D) (fun i hi => (hys i hi).one)
        have c1 : (outN p v n).length + (spotsV kp kc).length ≤ maxLen := by unfold maxLen; omega
        have c2 : ((outN p v n).length + (spotsV kp kc).length) * 128 ≤ 140737488355328 := by omega
        have c3 : w.heap.size + 1 ≤ w5.heap.size := by omega
        clear hnext hrC hys hycel hyd hsucc hspX hb5 hbr5
        go_wp2_with (at_builtin; go_loud (refine wpList_append_own_at _ rfl (.tmp 15) (.tmp 17) 70 rfl (w.heap.size + 1) 73 i0 _ 7 128 Tryz.underlying70 hi hz0 hz1 hz2 rfl (by decide) vv (outN p v n).length (flat CC (outN p v n).length) rfl hown ⟨yb, 0, none⟩ (spotsV kp kc).length yc (flat D (spotsV kp kc).length) rfl hlen7 hnews hone c1 c2 c3 ?_; intro v6 w6 hown6 hg6 _ hat6; have Hloop := Lib.hid (Hnext.out v6 w6 hown6 hg6 hat6); obtain ⟨la', lc', rfl⟩ := row_form hown6; clear hown6 hg6 hat6))
        go_roundw
        case rel => exact Hloop.out
        case measure => simp [intOf]; omega
      · have en : n = (kidsV p v).length := by omega
        rw [en, outN_all g] at hrow
        have hfin : SpotsAt wr w0 B wr.heap.size (fun k => S k ∨ w.heap.size ≤ k) vv (spotsV p v) := hrow.at (fun k hk => .inr (by omega))
        have hbf : Below w.heap.size w wr := hw3.trans (hb.mono (by omega))
        have Hfin := Lib.hid hfin
        have Hbf := Lib.hid hbf
        have u1 : ¬ ((n : Int) < ((kidsV p v).length : Int)) := by omega
        obtain ⟨fa, fc, C', rfl, _⟩ := hfin
        clear hrow hbf hb hrow3
        go_wp2_with fail
        go_ret
        exact ⟨_, rfl, Hbf.out, Hfin.out⟩

end Go.Proofs.YtpoibibbkjogpaaGreatDoor
