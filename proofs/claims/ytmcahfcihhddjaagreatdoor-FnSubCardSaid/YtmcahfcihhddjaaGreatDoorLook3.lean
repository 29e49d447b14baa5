/- Contracts of spec.Fit, laws.fit, laws.zzFits1, spec.Vague. -/
import Derived.Test.YtmcahfcihhddjaaGreatDoorLook2
import Derived.Test.YtmcahfcihhddjaaGreatDoorWld
namespace Go.Proofs.YtmcahfcihhddjaaGreatDoor
open Go Go.RowKit

theorem TabsB.carry {w w' : World} {B : Nat} (h : TabsB w B) (hb : Below B w w') {B' : Nat} (hB : B ≤ B') : TabsB w' B' :=
  ⟨h.at hb, by have := h.2.1; omega, by have := h.2.2; omega⟩

theorem heap_alloc_old (w : World) (o : Obj) {k : Nat} (h : k < w.heap.size) : (w.alloc o).heap[k]? = w.heap[k]? := Below.heap_alloc w o k h
theorem below_alloc (w : World) (o : Obj) : Below w.heap.size w (w.alloc o) := (Below.refl _ _).alloc (Nat.le_refl _) o

set_option maxRecDepth 100000 in
theorem fit_any (w : World) (v : V) (cs : List Value) (hv : RepV w w.heap.size v cs) (hTB : TabsB w w.heap.size) :
    Calls Tryz.prog 12 #[.agg cs.toArray] w fun e w' => e = .returned (.bool (fitB v)) ∧ Below w.heap.size w w' := by
  obtain ⟨c0, c1, c2, c3, c4, c5, rfl⟩ := hv.six
  go_enter Tryz.func12, Tryz.ntmps12
  go_wp2_with fail
  have hb1 : Below w.heap.size w ((w.alloc (.cells #[c0, c1, c2, c3, c4, c5] 26)).alloc (.cells #[.int .i64 0, .int .i64 0, .bool false] 46)) :=
    ((Below.refl _ _).alloc (Nat.le_refl _) _).alloc (by simp) _
  have hl0 : LkAt ((w.alloc (.cells #[c0, c1, c2, c3, c4, c5] 26)).alloc (.cells #[.int .i64 0, .int .i64 0, .bool false] 46)) (w.heap.size + 1) ⟨0, 0, false⟩ := at_alloc2 _ _ _
  refine (value_any w w.heap.size v _ hv hTB _ _ _ 0 hb1 (by omega) hl0).mono ?_
  rintro e w2 ⟨rfl, hl, hg⟩
  have c2 := hl.c2
  have hb2 := hb1.trans (grown_below hg (B := w.heap.size) (by omega) (by simp; omega))
  go_wp2_with fail
  go_ret
  exact ⟨rfl, hb2⟩

set_option maxRecDepth 100000 in
theorem fit2_any (w : World) (v v' : V) (cs cs' : List Value) (hv : RepV w w.heap.size v cs) (hv' : RepV w w.heap.size v' cs') (hTB : TabsB w w.heap.size) :
    Calls Tryz.prog 6 #[.agg cs.toArray, .agg cs'.toArray] w fun e w' => e = .returned (.bool (fitB v && fitB v')) ∧ Below w.heap.size w w' := by
  obtain ⟨c0, c1, c2, c3, c4, c5, rfl⟩ := hv.six
  obtain ⟨d0, d1, d2, d3, d4, d5, rfl⟩ := hv'.six
  go_enter Tryz.func6, Tryz.ntmps6
  go_wp2_with fail
  have hb1 : Below w.heap.size w ((w.alloc (.cells #[c0, c1, c2, c3, c4, c5] 26)).alloc (.cells #[d0, d1, d2, d3, d4, d5] 26)) :=
    ((Below.refl _ _).alloc (Nat.le_refl _) _).alloc (by simp) _
  refine (fit_any _ v _ (hv.carry hb1 hb1.size) (hTB.carry hb1 hb1.size)).mono ?_
  rintro e w2 ⟨rfl, hb2⟩
  have hb3 := hb1.trans (hb2.mono hb1.size)
  have e0 := of_block6 ((hb2.block (w.heap.size + 1) (by simp)).trans (at_alloc2 _ _ _))
  obtain ⟨e0, e1, e2, e3, e4, e5⟩ := e0
  cases hfv : fitB v
  · have Hfv := Lib.hid hfv; clear hfv
    go_wp2_with fail
    go_ret
    exact ⟨by simp [Hfv.out], hb3⟩
  · have Hfv := Lib.hid hfv; clear hfv
    go_wp2_with fail
    refine (fit_any w2 v' _ (hv'.carry hb3 hb3.size) (hTB.carry hb3 hb3.size)).mono ?_
    rintro e w4 ⟨rfl, hb4⟩
    go_wp2_with fail
    go_ret
    exact ⟨by simp [Hfv.out], hb3.trans (hb4.mono hb3.size)⟩

def SomeBool (w : World) (e : Ending) (w' : World) : Prop := (∃ b : Bool, e = .returned (.bool b)) ∧ Below w.heap.size w w'

set_option maxRecDepth 100000 in
theorem zz2_any (w : World) (ks : List ByteArray) (ka : Option Addr) (kc : Nat) (hl : ks.length * 16 ≤ 140737488351232)
    (ck : 0 < ks.length → ∃ b o, ka = some ⟨b, o, none⟩ ∧ ∀ i (hi : i < ks.length), w.cell? ⟨b, o + i, none⟩ = some (.string ks[i])) :
    Calls Tryz.prog 11 #[.slice ka ks.length kc] w (SomeBool w) := by
  have Hck := Lib.hid ck; clear ck
  go_enter Tryz.func11, Tryz.ntmps11
  go_wp2_with fail
  · go_ret
    exact ⟨⟨_, rfl⟩, Below.refl _ _⟩
  · go_loop [10] (fun i => ∃ n : Nat, n ≤ ks.length ∧ i = .int .i64 (n : Nat)) (fun i => ks.length - (intOf i).toNat)
    case atStart => exact ⟨0, Nat.zero_le _, rfl⟩
    case round =>
      obtain ⟨n, hn, rfl⟩ := hrel
      by_cases hn' : n < ks.length
      · obtain ⟨b, o, rfl, hc⟩ := Hck.out (by omega)
        have c0 := hc n hn'
        generalize ks[n] = kn at c0
        clear hc
        go_wp2_with fail
        · go_ret
          exact ⟨⟨_, rfl⟩, Below.refl _ _⟩
        · go_round
          case rel => exact ⟨n + 1, by omega, by go_num⟩
          case measure => simp [intOf]; omega
      · go_wp2_with fail
        go_ret
        exact ⟨⟨_, rfl⟩, Below.refl _ _⟩

set_option maxRecDepth 100000 in
theorem zz1_any (w : World) (v : V) (cs : List Value) (hv : RepV w w.heap.size v cs) :
    Calls Tryz.prog 5 #[.agg cs.toArray] w (SomeBool w) := by
  cases hv with
  | @mk k hf t l ks vs la ka va lc kc vc C D hk hh ht hl hks hvs hs cl rl ck cv rv =>
  have hz := zz2_any (w.alloc (.cells #[.int .i64 k, .int .i64 hf, .string t, .slice la l.length lc, .slice ka ks.length kc, .slice va vs.length vc] 26)) ks ka kc hks (fun h0 => by
    obtain ⟨b, o, e, hb, hc⟩ := ck h0
    exact ⟨b, o, e, fun i hi => ((below_alloc1 w _).cell (p := ⟨b, o + i, none⟩) hb).trans (hc i hi)⟩)
  have HZ := Lib.hid hz; clear hz
  clear cl rl ck cv rv hs
  go_enter Tryz.func5, Tryz.ntmps5
  go_wp2_with fail
  · refine bodyPost_ret (results_tmp rfl _ _ _) rfl ⟨⟨_, rfl⟩, below_alloc1 _ _⟩
  · refine bodyPost_ret (results_tmp rfl _ _ _) rfl ⟨⟨_, rfl⟩, below_alloc1 _ _⟩
  · refine HZ.out.mono ?_
    rintro e w2 ⟨⟨bb, rfl⟩, hb2⟩
    have hb3 := below_next (below_alloc1 w _) hb2
    obtain ⟨e0, e1, e2, e3, e4, e5⟩ := of_block6 ((hb2.block w.heap.size (by simp)).trans (at_alloc _ _))
    cases bb
    · go_wp2_with fail
      refine bodyPost_ret (results_tmp rfl _ _ _) rfl ⟨⟨_, rfl⟩, hb3⟩
    · go_wp2_with fail
      all_goals refine bodyPost_ret (results_tmp rfl _ _ _) rfl ⟨⟨_, rfl⟩, by assumption⟩

def VagueLoop (W : World) (len : Nat) (i : Value) (wr : World) : Prop := ∃ n : Nat, n ≤ len ∧ i = .int .i64 (n : Nat) ∧ Below W.heap.size W wr

set_option maxHeartbeats 4000000 in
set_option maxRecDepth 100000 in
theorem vague_any (w0 : World) (B : Nat) (v : V) (cs : List Value) (hv : RepV w0 B v cs) : Good v → ∀ (w : World), Below B w0 w → B ≤ w.heap.size →
    Calls Tryz.prog 13 #[.agg cs.toArray] w fun e w' => e = .returned (.bool false) ∧ Below w.heap.size w w' := by
  induction hv with
  | @mk k hf t l ks vs la ka va lc kc vc C D hk hh ht hl hks hvs hs cl rl ck cv rv ihl ihv =>
  intro hgood w hbel hB
  obtain ⟨hshape, gl, gv⟩ : shapeB k hf t l.length ks.length vs.length = true ∧ (∀ i (hi : i < l.length), Good l[i]) ∧ (∀ i (hi : i < vs.length), Good vs[i]) := by
    cases hgood with
    | mk a _ _ b _ _ c => exact ⟨a, b, c⟩
  have hk7 : (k == 7) = false := by simp [shapeB] at hshape ⊢; omega
  have Hih := Lib.hid (fun i hi => ihl i hi (gl i hi)); clear ihl gl
  have Hiv := Lib.hid (fun i hi => ihv i hi (gv i hi)); clear ihv gv
  have Hcl := Lib.hid cl; clear cl
  have Hcv := Lib.hid cv; clear cv
  clear ck hs hgood hshape
  obtain ⟨W, hW⟩ : ∃ W, W = w.alloc (.cells #[.int .i64 k, .int .i64 hf, .string t, .slice la l.length lc, .slice ka ks.length kc, .slice va vs.length vc] 26) := ⟨_, rfl⟩
  have hWs : W.heap.size = w.heap.size + 1 := by rw [hW]; simp
  have hbW : Below w.heap.size w W := by rw [hW]; exact below_alloc1 _ _
  have hat : W.heap[w.heap.size]? = some (.cells #[.int .i64 k, .int .i64 hf, .string t, .slice la l.length lc, .slice ka ks.length kc, .slice va vs.length vc] 26) := by rw [hW]; exact at_alloc _ _
  have boxes : ∀ wx, Below W.heap.size W wx → wx.cell? ⟨w.heap.size, 0, none⟩ = some (.int .i64 k) ∧ wx.cell? ⟨w.heap.size, 1, none⟩ = some (.int .i64 hf) ∧ wx.cell? ⟨w.heap.size, 2, none⟩ = some (.string t) ∧ wx.cell? ⟨w.heap.size, 3, none⟩ = some (.slice la l.length lc) ∧ wx.cell? ⟨w.heap.size, 4, none⟩ = some (.slice ka ks.length kc) ∧ wx.cell? ⟨w.heap.size, 5, none⟩ = some (.slice va vs.length vc) :=
    fun wx hx => of_block6 ((hx.block w.heap.size (by omega)).trans hat)
  have Hbox := Lib.hid boxes; clear boxes
  have key : ∀ wx, Below W.heap.size W wx → Below B w0 wx ∧ Below w.heap.size w wx := fun wx hx => ⟨(hbel.trans (hbW.mono hB)).trans (hx.mono (by omega)), hbW.trans (hx.mono (by omega))⟩
  have Hkey := Lib.hid key; clear key
  have HWs := Lib.hid hWs; clear hWs
  clear hat hbW hbel
  go_enter Tryz.func13, Tryz.ntmps13
  go_wp2_with fail
  rw [← hW]
  have HW := Lib.hid hW; clear hW
  go_loopw [10] (fun i wr => VagueLoop W l.length i wr) (fun i _ => l.length - (intOf i).toNat)
  case atStart => exact ⟨0, Nat.zero_le _, rfl, Below.refl _ _⟩
  case round =>
    obtain ⟨n, hn, rfl, hb⟩ := hrel
    obtain ⟨x0, x1, x2, x3, x4, x5⟩ := Hbox.out _ hb
    by_cases hn' : n < l.length
    · obtain ⟨lb, lo, rfl, hlb, hcel⟩ := Hcl.out (by omega)
      obtain ⟨hb0, hb1⟩ := Hkey.out _ hb
      have cc := (hcel n hn').below hb0 hlb
      have hb2 : Below W.heap.size W (wr.alloc (.cells (C n).toArray 26)) := hb.alloc hb.size _
      have ih := Hih.out n hn' _ (Hkey.out _ hb2).1 (by have := (Hkey.out _ hb2).2.size; omega)
      obtain ⟨k', h', t', la', ka', va', nl', cl', nk', ck', nv', cv', hCn⟩ := (rl n hn').shape
      rw [hCn] at cc ih hb2
      obtain ⟨y0, y1, y2, y3, y4, y5⟩ := cells6 cc
      have HI := Lib.hid ih
      clear ih hCn cc hcel hb0
      go_wp2_with fail
      refine HI.out.mono ?_
      rintro e w2 ⟨rfl, hb3⟩
      go_wp2_with fail
      go_roundw
      case rel => exact ⟨n + 1, by omega, by go_num, hb2.trans (hb3.mono hb2.size)⟩
      case measure => simp [intOf]; omega
    · clear Hih Hcl x0 x1 x2 x3 x4 x5
      obtain ⟨wo, hwo⟩ : ∃ wo, wo = wr := ⟨_, rfl⟩
      rw [← hwo] at hb ⊢
      clear hwo
      obtain ⟨x0, x1, x2, x3, x4, x5⟩ := Hbox.out _ hb
      go_wp2_with fail
      clear x0 x1 x2 x3 x4 x5
      go_loopw [20] (fun i wr => VagueLoop W vs.length i wr) (fun i _ => vs.length - (intOf i).toNat)
      case atStart => exact ⟨0, Nat.zero_le _, rfl, hb⟩
      case round =>
        clear hb hn hn'
        obtain ⟨n, hn, rfl, hb⟩ := hrel
        obtain ⟨x0, x1, x2, x3, x4, x5⟩ := Hbox.out _ hb
        by_cases hn' : n < vs.length
        · obtain ⟨lb, lo, rfl, hlb, hcel⟩ := Hcv.out (by omega)
          obtain ⟨hb0, hb1⟩ := Hkey.out _ hb
          have cc := (hcel n hn').below hb0 hlb
          have hb2 : Below W.heap.size W (wr.alloc (.cells (D n).toArray 26)) := hb.alloc hb.size _
          have ih := Hiv.out n hn' _ (Hkey.out _ hb2).1 (by have := (Hkey.out _ hb2).2.size; omega)
          obtain ⟨k', h', t', la', ka', va', nl', cl', nk', ck', nv', cv', hCn⟩ := (rv n hn').shape
          rw [hCn] at cc ih hb2
          obtain ⟨y0, y1, y2, y3, y4, y5⟩ := cells6 cc
          have HI := Lib.hid ih
          clear ih hCn cc hcel hb0
          go_wp2_with fail
          refine HI.out.mono ?_
          rintro e w2 ⟨rfl, hb3⟩
          go_wp2_with fail
          go_roundw
          case rel => exact ⟨n + 1, by omega, by go_num, hb2.trans (hb3.mono hb2.size)⟩
          case measure => simp [intOf]; omega
        · go_wp2_with fail
          refine bodyPost_ret (results_tmp rfl _ _ _) rfl ⟨rfl, (Hkey.out _ hb).2⟩

end Go.Proofs.YtmcahfcihhddjaaGreatDoor
