/- Contract of spec.looker.value. -/
/- Contracts of spec.Fit, laws.fit, laws.zzFits1, spec.Vague. -/
/- Contracts of spec.sign, texts, keys, lists, Cmp, Same, at values that read. -/
/- Floats that are integers or halves (below 2^53): what they read as, how they compare, that sums and differences of them are exact. No program in sight. -/
import Derived.Test.YtpaebanmaboaiaaGreatDoorM03
import Derived.Test.YtpaebanmaboaiaaGreatDoorM01
import Derived.Deep.DeepCutAuto
import Derived.Deep.CutBlock
import Derived.WalkLawsBesides
import GoSem.Core.Float
namespace Go.Proofs.YtpaebanmaboaiaaGreatDoor
open Go Go.RowKit
/-- wx is w with the argument's box laid, and what has turned since: new blocks, and block b. -/
def BoxG (w : World) (b : Nat) (cs : List Value) (wx : World) : Prop := (w.alloc (.cells cs.toArray 26)).grownBy wx (some b)
theorem BoxG.next {w wx wy : World} {b : Nat} {cs : List Value} (h : BoxG w b cs wx) (hg : wx.grownBy wy (some b)) : BoxG w b cs wy := World.grownBy.trans h hg
theorem BoxG.all {w wx : World} {b : Nat} {cs : List Value} (h : BoxG w b cs wx) : w.grownBy wx (some b) := (World.grownBy_alloc w _ (some b)).trans h
theorem BoxG.cells {w wx : World} {b : Nat} {c0 c1 c2 c3 c4 c5 : Value} (hg : BoxG w b [c0, c1, c2, c3, c4, c5] wx) (hb : b < w.heap.size) :
    wx.cell? ⟨w.heap.size, 0, none⟩ = some c0 ∧ wx.cell? ⟨w.heap.size, 1, none⟩ = some c1 ∧ wx.cell? ⟨w.heap.size, 2, none⟩ = some c2 ∧ wx.cell? ⟨w.heap.size, 3, none⟩ = some c3 ∧ wx.cell? ⟨w.heap.size, 4, none⟩ = some c4 ∧ wx.cell? ⟨w.heap.size, 5, none⟩ = some c5 := by
  have h := hg.block w.heap.size (by simp) (by simp; omega)
  have e : (w.alloc (.cells [c0, c1, c2, c3, c4, c5].toArray 26)).heap[w.heap.size]? = some (.cells [c0, c1, c2, c3, c4, c5].toArray 26) := by
    show (w.heap.push _)[w.heap.size]? = _
    simp
  rw [e] at h
  simp [World.cell?, h]
theorem RepV.six {w : World} {B : Nat} {v : V} {cs : List Value} (h : RepV w B v cs) : ∃ c0 c1 c2 c3 c4 c5, cs = [c0, c1, c2, c3, c4, c5] := by
  cases h
  exact ⟨_, _, _, _, _, _, rfl⟩
theorem want_as (w : World) (b : Nat) (s : Lk) (ok ok' : Bool) (e : ok = ok') (h : LkAt w b s) : Calls Tryz.prog 29 #[.pointer (some ⟨b, 0, none⟩), .bool ok] w fun e w' =>
    e = .returned (.tuple #[]) ∧ LkAt w' b (s.want ok') ∧ w.grownBy w' (some b) := by subst e; exact want_any w b s ok h
theorem lookL_bad (l : List V) (deep : Int) (s : Lk) (h : s.bad = true) : lookL l deep s = s := by cases l <;> simp [lookL, h]
theorem lookM_bad (p : Option ByteArray) (ks : List ByteArray) (vs : List V) (deep : Int) (s : Lk) (h : s.bad = true) : lookM p ks vs deep s = s := by cases ks <;> cases vs <;> simp [lookM, h]
def TabsB (w : World) (B : Nat) : Prop := Tabs w ∧ 0 < B ∧ 1 < B
theorem TabsB.at {w0 w : World} {B : Nat} (h : TabsB w0 B) (hb : Below B w0 w) : Tabs w := h.1.carry hb h.2.1 h.2.2
def LoopL (w0 : World) (b : Nat) (cs : List Value) (l : List V) (deep : Int) (fin : Lk) (i : Value) (wr : World) : Prop :=
  ∃ n s, n ≤ l.length ∧ i = .int .i64 (n : Nat) ∧ LkAt wr b s ∧ BoxG w0 b cs wr ∧ lookL (l.drop n) deep s = fin
def prevOf (ks : List ByteArray) (n : Nat) : Option ByteArray := if n = 0 then none else ks[n - 1]?
def LoopM (w0 : World) (b : Nat) (cs : List Value) (ks : List ByteArray) (vs : List V) (deep : Int) (fin : Lk) (i : Value) (wr : World) : Prop :=
  ∃ n s, n ≤ ks.length ∧ i = .int .i64 (n : Nat) ∧ LkAt wr b s ∧ BoxG w0 b cs wr ∧ (s.bad = true ∨ ks.length = vs.length) ∧ lookM (prevOf ks n) (ks.drop n) (vs.drop n) deep s = fin
set_option maxHeartbeats 16000000 in
set_option maxRecDepth 100000 in
theorem value_any (w0 : World) (B : Nat) (v : V) (cs : List Value) (hv : RepV w0 B v cs) (hTB : TabsB w0 B) : ∀ (w : World) (b : Nat) (s : Lk) (deep : Int), Below B w0 w → B ≤ b → LkAt w b s →
   Calls Tryz.prog 16 #[.pointer (some ⟨b, 0, none⟩), .agg cs.toArray, .int .i64 deep] w fun e w' =>
    e = .returned (.tuple #[]) ∧ LkAt w' b (lookV v deep s) ∧ w.grownBy w' (some b) := by
  induction hv with
  | @mk k hf t l ks vs la ka va lc kc vc C D hk hh ht hl hks hvs hs cl rl ck cv rv _ ihl ihv =>
  intro w b s deep hbel hB h
  have hblt := h.lt
  have hBw : B ≤ w.heap.size := by omega
  have key : ∀ wx, w.grownBy wx (some b) → Below B w0 wx := fun wx hg => hbel.trans (grown_below hg hB hBw)
  have Hih := Lib.hid ihl; clear ihl
  have Hiv := Lib.hid ihv; clear ihv
  have Hcl := Lib.hid cl; clear cl
  have Hck := Lib.hid ck; clear ck
  have Hcv := Lib.hid cv; clear cv
  have Hkey := Lib.hid key; clear key
  have Hfin := Lib.hid (show lookV (.mk k hf t l ks vs) deep s = _ from by rw [lookV])
  go_enter Tryz.func16, Tryz.ntmps16
  go_wp2_with fail
  refine (part_any _ b s deep (h.grown (World.grownBy_alloc w _ none) (by simp))).mono ?_
  rintro e wx ⟨rfl, h1, hg1⟩
  obtain ⟨BX, hBX⟩ : ∃ BX, [Value.int .i64 k, .int .i64 hf, .string t, .slice la l.length lc, .slice ka ks.length kc, .slice va vs.length vc] = BX := ⟨_, rfl⟩
  have G1 : BoxG w b BX wx := by subst hBX; exact hg1
  clear hg1
  have HBX := Lib.hid hBX; clear hBX
  have boxes : ∀ wx, BoxG w b BX wx → wx.cell? ⟨w.heap.size, 0, none⟩ = some (.int .i64 k) ∧ wx.cell? ⟨w.heap.size, 1, none⟩ = some (.int .i64 hf) ∧ wx.cell? ⟨w.heap.size, 2, none⟩ = some (.string t) ∧ wx.cell? ⟨w.heap.size, 3, none⟩ = some (.slice la l.length lc) ∧ wx.cell? ⟨w.heap.size, 4, none⟩ = some (.slice ka ks.length kc) ∧ wx.cell? ⟨w.heap.size, 5, none⟩ = some (.slice va vs.length vc) := by
    intro wx hx
    rw [← HBX.out] at hx
    exact hx.cells hblt
  have Hbox := Lib.hid boxes; clear boxes
  obtain ⟨x0, x1, x2, x3, x4, x5⟩ := Hbox.out _ G1
  by_cases hbad : (s.part deep).bad = true
  · go_wp2_with fail
    refine bodyPost_ret (results_none rfl _ _ _) rfl ⟨rfl, ?_, G1.all⟩
    rw [Hfin.out, if_pos hbad]; exact h1
  · generalize hs1 : s.part deep = s1 at *
    have Hs1 := Lib.hid hs1; clear hs1
    go_upto_region 2 with fail
    go_cut [1] (fun _ wy => LkAt wy b (s1.want (shapeB k hf t l.length ks.length vs.length)) ∧ wx.grownBy wy (some b))
    case first =>
      clear Hih Hiv Hcl Hck Hcv Hkey Hfin Hs1 G1 HBX Hbox hTB hs hl hks hvs ht hk hh hbel h
      go_wp2_with (go_at_call 29; refine (want_as _ b _ _ (shapeB k hf t l.length ks.length vs.length) (by first | (simp [shapeB, *]; done) | (simp [shapeB, *]; omega) | (simp [shapeB, *]; rw [Bool.eq_iff_iff]; simp; omega)) h1).mono ?_; rintro e w' ⟨rfl, hl, hg⟩)
      all_goals (go_meet; exact ⟨by assumption, by assumption⟩)
    case rest =>
      obtain ⟨h2, hg2⟩ := hcut
      have G2 := G1.next hg2
      clear hg2 G1 x0 x1 x2 x3 x4 x5
      obtain ⟨x0, x1, x2, x3, x4, x5⟩ := Hbox.out _ G2
      generalize hs2 : s1.want (shapeB k hf t l.length ks.length vs.length) = s2 at *
      have Hs2 := Lib.hid hs2; clear hs2
      go_upto_region 3 with fail
      go_cut [] (fun wy => LkAt wy b (s2.want (halfB hf)) ∧ wc.grownBy wy (some b))
      case first =>
        clear Hih Hiv Hcl Hck Hcv Hkey Hfin Hs1 Hs2 G2 HBX Hbox hTB hs hl hks hvs ht hk hh hbel h
        go_wp2_with (go_at_call 29; refine (want_as _ b _ _ (halfB hf) (by first | (simp [halfB, *]; done) | (simp [halfB, *]; omega)) h2).mono ?_; rintro e w' ⟨rfl, hl, hg⟩)
        all_goals (go_meet; exact ⟨by assumption, by assumption⟩)
      case rest =>
        obtain ⟨h3, hg3⟩ := hcut
        have G3 := G2.next hg3
        clear hg3 G2 x0 x1 x2 x3 x4 x5
        obtain ⟨x0, x1, x2, x3, x4, x5⟩ := Hbox.out _ G3
        go_wp2_with fail
        refine (str_any _ b _ t h3 (hTB.at (Hkey.out _ G3.all)) (by have := hTB.2.1; omega) (by have := hTB.2.2; omega) ht).mono ?_
        rintro e wd ⟨rfl, h4, hg4⟩
        have G4 := G3.next hg4
        clear x0 x1 x2 x3 x4 x5 hbel h h1 h2 h3 G3 hg4
        generalize hs4 : (s2.want (halfB hf)).str t = s4 at *
        have Hs4 := Lib.hid hs4; clear hs4
        go_upto_block 0 with fail
        go_cut [6] (fun _ wy => LkAt wy b (lookL l deep s4) ∧ BoxG w b BX wy)
        case first =>
          clear Hiv Hck Hcv Hs1 Hs2 Hs4 Hfin HBX hk hh ht hks hvs
          go_wp2_with fail
          go_loopw [6] (fun i wr => LoopL w b BX l deep (lookL l deep s4) i wr) (fun i _ => l.length - (intOf i).toNat)
          case atStart => exact ⟨0, s4, Nat.zero_le _, rfl, h4, G4, rfl⟩
          case round =>
            obtain ⟨n, s5, hn, rfl, h5, G5, hfin⟩ := hrel
            have Hfin5 := Lib.hid hfin; clear hfin
            clear h4 G4
            obtain ⟨x0, x1, x2, x3, x4, x5⟩ := Hbox.out _ G5
            have hc2 := h5.c2
            by_cases hn' : n < l.length
            · by_cases hb5 : s5.bad = true
              · go_wp2_with fail
                go_meet
                exact ⟨by rw [← Hfin5.out, lookL_bad _ _ _ hb5]; exact h5, G5⟩
              · rw [Bool.not_eq_true] at hb5
                obtain ⟨lb, lo, rfl, hlb, hcel⟩ := Hcl.out (by omega)
                have hb0 : Below B w0 wr := Hkey.out _ G5.all
                have cc := (hcel n hn').below hb0 hlb
                have ih := Hih.out n hn' wr b s5 (wrap64 (deep + 1)) hb0 hB h5
                obtain ⟨c0, c1, c2, c3, c4, c5, hCn⟩ := (rl n hn').six
                rw [hCn] at cc ih
                obtain ⟨y0, y1, y2, y3, y4, y5⟩ := cells6 cc
                have HI := Lib.hid ih
                clear ih hCn cc hcel hb0
                go_wp2_with fail
                refine HI.out.mono ?_
                rintro e w2 ⟨rfl, h6, hg6⟩
                go_wp2_with fail
                go_roundw
                case rel => exact ⟨n + 1, _, by omega, by go_num, h6, G5.next hg6, by rw [← Hfin5.out, List.drop_eq_getElem_cons hn', lookL, if_neg (by simp [hb5])]⟩
                case measure => simp [intOf]; omega
            · go_wp2_with fail
              go_meet
              have e : n = l.length := by omega
              exact ⟨by rw [← Hfin5.out, e, List.drop_length, lookL]; exact h5, G5⟩
        case rest =>
          obtain ⟨h5, G5⟩ := hcut
          have hlen : (lookL l deep s4).bad = true ∨ ks.length = vs.length := by
            by_cases hsh : ks.length = vs.length
            · exact .inr hsh
            · left
              have e2 : s2.bad = true := by rw [← Hs2.out]; simp [Lk.want, shapeB, hsh]
              have e4 : s4.bad = true := by rw [← Hs4.out]; simp [Lk.want, Lk.str, e2]
              rw [lookL_bad _ _ _ e4]; exact e4
          generalize hs6 : lookL l deep s4 = s6 at *
          have Hs6 := Lib.hid hs6; clear hs6
          have Hlen := Lib.hid hlen; clear hlen
          clear h4 G4
          clear Hih Hcl
          go_wp2_with fail
          go_loopw [7] (fun i wr => LoopM w b BX ks vs deep (lookM none ks vs deep s6) i wr) (fun i _ => ks.length - (intOf i).toNat)
          case atStart => exact ⟨0, s6, Nat.zero_le _, rfl, h5, G5, Hlen.out, rfl⟩
          case round =>
            obtain ⟨n, s7, hn, rfl, h7, G7, hle, hfin⟩ := hrel
            have Hfin7 := Lib.hid hfin; clear hfin
            clear h5 G5
            obtain ⟨x0, x1, x2, x3, x4, x5⟩ := Hbox.out _ G7
            have hc2 := h7.c2
            by_cases hn' : n < ks.length
            · by_cases hb7 : s7.bad = true
              · go_wp2_with fail
                refine bodyPost_end (results_none rfl _ _ _) rfl ⟨rfl, ?_, G7.all⟩
                rw [Hfin.out, if_neg hbad, ← Hfin7.out, lookM_bad _ _ _ _ _ hb7]
                exact h7
              · rw [Bool.not_eq_true] at hb7
                have hle' : ks.length = vs.length := by rcases hle with e | e; (rw [hb7] at e; cases e); exact e
                have hnv : n < vs.length := by omega
                have Hle := Lib.hid hle'; clear hle' hle
                obtain ⟨kb, ko, rfl, hkb, hkc⟩ := Hck.out (by omega)
                obtain ⟨lb, lo, rfl, hlb, hcel⟩ := Hcv.out (by omega)
                have hb0 : Below B w0 wr := Hkey.out _ G7.all
                have kc0 : ∀ wy, Below B w0 wy → wy.cell? ⟨kb, ko + n, none⟩ = some (.string ks[n]) := fun wy hy => (hy.cell (p := ⟨kb, ko + n, none⟩) hkb).trans (hkc n hn')
                have kcN := Lib.hid kc0; clear kc0
                have k1 := kcN.out _ hb0
                have hs1n : ks[n].size ≤ 140737488351232 := hs _ (List.getElem_mem hn')
                obtain ⟨kn, hkn⟩ : ∃ kn, ks[n] = kn := ⟨_, rfl⟩
                rw [hkn] at k1 hs1n
                have Hkn := Lib.hid hkn; clear hkn
                go_wp2_with fail
                refine (str_any _ b _ kn h7 (hTB.at hb0) (by have := hTB.2.1; omega) (by have := hTB.2.2; omega) hs1n).mono ?_
                rintro e w8 ⟨rfl, h8, hg8⟩
                have G8 := G7.next hg8
                clear x0 x1 x2 x3 x4 x5 k1 hb0 hg8
                obtain ⟨x0, x1, x2, x3, x4, x5⟩ := Hbox.out _ G8
                go_upto_region 13 with fail
                go_cut [] (fun wy => LkAt wy b ((s7.str kn).want (riseB (prevOf ks n) kn)) ∧ w8.grownBy wy (some b))
                case first =>
                  have hb8 : Below B w0 w8 := Hkey.out _ G8.all
                  have k8 := kcN.out _ hb8
                  rw [Hkn.out] at k8
                  have h8d : LkAt w8.drew b (s7.str kn) := h8
                  by_cases hn0 : n = 0
                  · subst hn0
                    clear Hiv Hck Hcv Hs1 Hs2 Hs4 Hs6 Hfin HBX hk hh ht hks hvs kcN Hle Hfin7 hs hl hkc hcel rl hb8
                    rw [show ((0 : Nat) : Int) = 0 from rfl]
                    refine wp_region_tail 17 (by kernel_rfl) (by kernel_rfl) ?_
                    simp only [List.take_succ_cons, List.take_zero, List.drop_succ_cons, List.drop_zero]
                    repeat (go_big_quiet_step (fail))
                    refine wpQuiet_nil ?_
                    go_wp2_with fail
                    refine (want_as _ b _ _ (riseB (prevOf ks 0) kn) (by simp [riseB, prevOf]) h8d).mono ?_
                    rintro e w9 ⟨rfl, h9, hg9⟩
                    go_wp2_with fail
                    go_meet
                    exact ⟨h9, ⟨hg9.os, hg9.tape, hg9.output, hg9.size, hg9.block⟩⟩
                  · obtain ⟨pk, hpk⟩ : ∃ pk, ks[n - 1] = pk := ⟨_, rfl⟩
                    have k9 : w8.cell? ⟨kb, ko + (n - 1), none⟩ = some (.string pk) := by
                      rw [← hpk]
                      exact (hb8.cell (p := ⟨kb, ko + (n - 1), none⟩) hkb).trans (hkc (n - 1) (by omega))
                    have hpr : prevOf ks n = some pk := by rw [prevOf, if_neg hn0, List.getElem?_eq_getElem (by omega), hpk]
                    have Hpr := Lib.hid hpr; clear hpr hpk
                    have t0 : ((n : Int) == 0) = false := by simp; omega
                    have t1 : (0 : Int) ≤ (n : Int) - 1 := by omega
                    have t2 : (n : Int) - 1 < (ks.length : Int) := by omega
                    have t3 : (n : Int) < (ks.length : Int) := by omega
                    clear Hiv Hck Hcv Hs1 Hs2 Hs4 Hs6 Hfin HBX hk hh ht hvs kcN Hle Hfin7 hs hl hkc hcel rl hb8
                    refine wp_region_tail 17 (by kernel_rfl) (by kernel_rfl) ?_
                    simp only [List.take_succ_cons, List.take_zero, List.drop_succ_cons, List.drop_zero]
                    repeat (go_big_quiet_step (fail))
                    refine wpQuiet_nil ?_
                    go_wp2_with fail
                    refine (want_as _ b _ _ (riseB (prevOf ks n) kn) (by rw [Hpr.out]; rfl) h8d).mono ?_
                    rintro e w9 ⟨rfl, h9, hg9⟩
                    go_wp2_with fail
                    go_meet
                    exact ⟨h9, ⟨hg9.os, hg9.tape, hg9.output, hg9.size, hg9.block⟩⟩
                case rest =>
                  obtain ⟨h9, hg9⟩ := hcut
                  have G9 := G8.next hg9
                  clear h8 G8 hg9 x0 x1 x2 x3 x4 x5
                  obtain ⟨x0, x1, x2, x3, x4, x5⟩ := Hbox.out _ G9
                  have hb9 : Below B w0 wc := Hkey.out _ G9.all
                  have cc := (hcel n hnv).below hb9 hlb
                  have ih := Hiv.out n hnv wc b ((s7.str kn).want (riseB (prevOf ks n) kn)) (wrap64 (deep + 1)) hb9 hB h9
                  obtain ⟨c0, c1, c2, c3, c4, c5, hCn⟩ := (rv n hnv).six
                  rw [hCn] at cc ih
                  obtain ⟨y0, y1, y2, y3, y4, y5⟩ := cells6 cc
                  have HI := Lib.hid ih
                  clear ih hCn cc hcel hb9
                  go_wp2_with fail
                  refine HI.out.mono ?_
                  rintro e w2 ⟨rfl, h10, hg10⟩
                  go_wp2_with fail
                  go_roundw
                  case rel => exact ⟨n + 1, _, by omega, by go_num, h10, G9.next hg10, .inr Hle.out, by
                    rw [← Hfin7.out, List.drop_eq_getElem_cons hn', List.drop_eq_getElem_cons hnv, lookM, if_neg (by simp [hb7]), Hkn.out]
                    congr 1
                    simp [prevOf, hn', Hkn.out]⟩
                  case measure => simp [intOf]; omega
            · go_wp2_with fail
              refine bodyPost_end (results_none rfl _ _ _) rfl ⟨rfl, ?_, G7.all⟩
              have e : n = ks.length := by omega
              rw [Hfin.out, if_neg hbad, ← Hfin7.out, e, List.drop_length, lookM]
              exact h7
end Go.Proofs.YtpaebanmaboaiaaGreatDoor

namespace Go.Proofs.YtpaebanmaboaiaaGreatDoor
open Go Go.RowKit
theorem TabsB.carry {w w' : World} {B : Nat} (h : TabsB w B) (hb : Below B w w') {B' : Nat} (hB : B ≤ B') : TabsB w' B' :=
  ⟨h.at hb, by have := h.2.1; omega, by have := h.2.2; omega⟩
theorem heap_alloc_old (w : World) (o : Obj) {k : Nat} (h : k < w.heap.size) : (w.alloc o).heap[k]? = w.heap[k]? := Below.heap_alloc w o k h
set_option maxRecDepth 100000 in
theorem fit_any (w : World) (v : V) (cs : List Value) (hv : RepV w w.heap.size v cs) (hTB : TabsB w w.heap.size) :
    Calls Tryz.prog 5 #[.agg cs.toArray] w fun e w' => e = .returned (.bool (fitB v)) ∧ Below w.heap.size w w' := by
  obtain ⟨c0, c1, c2, c3, c4, c5, rfl⟩ := hv.six
  go_enter Tryz.func5, Tryz.ntmps5
  go_wp2_with fail
  have hb1 : Below w.heap.size w ((w.alloc (.cells #[c0, c1, c2, c3, c4, c5] 26)).alloc (.cells #[.int .i64 0, .int .i64 0, .bool false] 36)) :=
    ((Below.refl _ _).alloc (Nat.le_refl _) _).alloc (by simp) _
  have hl0 : LkAt ((w.alloc (.cells #[c0, c1, c2, c3, c4, c5] 26)).alloc (.cells #[.int .i64 0, .int .i64 0, .bool false] 36)) (w.heap.size + 1) ⟨0, 0, false⟩ := at_alloc2 _ _ _
  refine (value_any w w.heap.size v _ hv hTB _ _ _ 0 hb1 (by omega) hl0).mono ?_
  rintro e w2 ⟨rfl, hl, hg⟩
  have c2 := hl.c2
  have hb2 := hb1.trans (grown_below hg (B := w.heap.size) (by omega) (by simp; omega))
  go_wp2_with fail
  go_ret
  exact ⟨rfl, hb2⟩
def SomeBool (w : World) (e : Ending) (w' : World) : Prop := (∃ b : Bool, e = .returned (.bool b)) ∧ Below w.heap.size w w'
set_option maxRecDepth 100000 in
theorem zz2_any (w : World) (ks : List ByteArray) (ka : Option Addr) (kc : Nat) (hl : ks.length * 16 ≤ 140737488351232)
    (ck : 0 < ks.length → ∃ b o, ka = some ⟨b, o, none⟩ ∧ ∀ i (hi : i < ks.length), w.cell? ⟨b, o + i, none⟩ = some (.string ks[i])) :
    Calls Tryz.prog 15 #[.slice ka ks.length kc] w (SomeBool w) := by
  have Hck := Lib.hid ck; clear ck
  go_enter Tryz.func15, Tryz.ntmps15
  go_wp2_with fail
  · go_ret
    exact ⟨⟨_, rfl⟩, Below.refl _ _⟩
  · go_loop [10] (fun i => ∃ n : Nat, n ≤ ks.length ∧ i = .int .i64 (n : Nat)) (fun i => ks.length - (intOf i).toNat)
    case atStart => exact ⟨0, Nat.zero_le _, rfl⟩
    case round =>
      obtain ⟨n, hn, rfl⟩ := hrel
      by_cases hn' : n < ks.length
      · obtain ⟨b, o, rfl, hc⟩ := Hck.out (by omega)
        have c0 := hc n hn'
        generalize ks[n] = kn at c0
        clear hc
        go_wp2_with fail
        · go_ret
          exact ⟨⟨_, rfl⟩, Below.refl _ _⟩
        · go_round
          case rel => exact ⟨n + 1, by omega, by go_num⟩
          case measure => simp [intOf]; omega
      · go_wp2_with fail
        go_ret
        exact ⟨⟨_, rfl⟩, Below.refl _ _⟩
set_option maxRecDepth 100000 in
theorem zz1_any (w : World) (v : V) (cs : List Value) (hv : RepV w w.heap.size v cs) :
    Calls Tryz.prog 4 #[.agg cs.toArray] w (SomeBool w) := by
  cases hv with
  | @mk k hf t l ks vs la ka va lc kc vc C D hk hh ht hl hks hvs hs cl rl ck cv rv =>
  have hz := zz2_any (w.alloc (.cells #[.int .i64 k, .int .i64 hf, .string t, .slice la l.length lc, .slice ka ks.length kc, .slice va vs.length vc] 26)) ks ka kc hks (fun h0 => by
    obtain ⟨b, o, e, hb, hc⟩ := ck h0
    exact ⟨b, o, e, fun i hi => ((below_alloc1 w _).cell (p := ⟨b, o + i, none⟩) hb).trans (hc i hi)⟩)
  have HZ := Lib.hid hz; clear hz
  clear cl rl ck cv rv hs
  go_enter Tryz.func4, Tryz.ntmps4
  go_wp2_with fail
  · refine bodyPost_ret (results_tmp rfl _ _ _) rfl ⟨⟨_, rfl⟩, below_alloc1 _ _⟩
  · refine bodyPost_ret (results_tmp rfl _ _ _) rfl ⟨⟨_, rfl⟩, below_alloc1 _ _⟩
  · refine HZ.out.mono ?_
    rintro e w2 ⟨⟨bb, rfl⟩, hb2⟩
    have hb3 := below_next (below_alloc1 w _) hb2
    obtain ⟨e0, e1, e2, e3, e4, e5⟩ := of_block6 ((hb2.block w.heap.size (by simp)).trans (at_alloc _ _))
    cases bb
    · go_wp2_with fail
      refine bodyPost_ret (results_tmp rfl _ _ _) rfl ⟨⟨_, rfl⟩, hb3⟩
    · go_wp2_with fail
      all_goals refine bodyPost_ret (results_tmp rfl _ _ _) rfl ⟨⟨_, rfl⟩, by assumption⟩
end Go.Proofs.YtpaebanmaboaiaaGreatDoor

namespace Go.Proofs.YtpaebanmaboaiaaGreatDoor
open Go Go.RowKit
theorem sign_any (n : Int) (w : World) : Calls Tryz.prog 56 #[.int .i64 n] w fun e w' => e = .returned (.int .i64 (signI n)) ∧ w' = w := by
  by_cases h : n < 0
  · go_enter Tryz.func56, Tryz.ntmps56
    go_wp2_with fail
    go_ret
    exact ⟨by simp [signI, h], rfl⟩
  · by_cases h' : 0 < n
    · go_enter Tryz.func56, Tryz.ntmps56
      go_wp2_with fail
      go_ret
      exact ⟨by simp [signI, h, h'], rfl⟩
    · go_enter Tryz.func56, Tryz.ntmps56
      go_wp2_with fail
      go_ret
      exact ⟨by unfold signI; rw [if_neg (by omega), if_neg (by omega)]; rfl, rfl⟩
theorem texts_any (a b : ByteArray) (w : World) : Calls Tryz.prog 57 #[.string a, .string b] w fun e w' => e = .returned (.int .i64 (textsC a b)) ∧ w' = w := by
  have hsw : Op.bytesLess a.toList b.toList = false → (a.toList == b.toList) = !Op.bytesLess b.toList a.toList := by
    intro h
    by_cases e : a.toList = b.toList
    · rw [e, bLess_eq]; simp [List.lt_irrefl]
    · have : (a.toList == b.toList) = false := by simpa using e
      rw [this]
      rw [bLess_eq] at h ⊢
      simp only [decide_eq_false_iff_not] at h
      symm
      rw [Bool.not_eq_false', decide_eq_true_eq]
      exact Decidable.byContradiction fun h2 => e (List.le_antisymm (List.not_lt.1 h2) (List.not_lt.1 h))
  cases h : Op.bytesLess a.toList b.toList
  · have hs := hsw h
    cases h' : Op.bytesLess b.toList a.toList
    · have hc : textsC a b = 0 := by unfold textsC; rw [h, h']; rfl
      rw [h'] at hs
      have Hc := Lib.hid hc
      clear hc hsw
      go_enter Tryz.func57, Tryz.ntmps57
      go_wp2_with fail
      go_ret
      exact ⟨by rw [Hc.out]; rfl, rfl⟩
    · have hc : textsC a b = 1 := by unfold textsC; rw [h, h']; rfl
      rw [h'] at hs
      have Hc := Lib.hid hc
      clear hc hsw
      go_enter Tryz.func57, Tryz.ntmps57
      go_wp2_with fail
      go_ret
      exact ⟨by rw [Hc.out]; rfl, rfl⟩
  · have hc : textsC a b = -1 := by unfold textsC; rw [h]; rfl
    have Hc := Lib.hid hc
    clear hc hsw
    go_enter Tryz.func57, Tryz.ntmps57
    go_wp2_with fail
    go_ret
    exact ⟨by rw [Hc.out]; rfl, rfl⟩
def TwoLoop (w : World) (n1 n2 : Nat) (rest : Nat → Int) (fin : Int) (i : Value) (wr : World) : Prop :=
  ∃ n : Nat, n ≤ n1 ∧ n ≤ n2 ∧ i = .int .i64 (n : Nat) ∧ Below w.heap.size w wr ∧ rest n = fin
def IntP (w : World) (c : Int) (e : Ending) (w' : World) : Prop := e = .returned (.int .i64 c) ∧ Below w.heap.size w w'
set_option maxHeartbeats 1000000 in
set_option maxRecDepth 100000 in
theorem keys_any (w : World) (ks ks' : List ByteArray) (ka ka' : Option Addr) (kc kc' : Nat) (hl : ks.length * 16 ≤ 140737488351232) (hl' : ks'.length * 16 ≤ 140737488351232)
    (ck : 0 < ks.length → ∃ b o, ka = some ⟨b, o, none⟩ ∧ b < w.heap.size ∧ ∀ i (hi : i < ks.length), w.cell? ⟨b, o + i, none⟩ = some (.string ks[i]))
    (ck' : 0 < ks'.length → ∃ b o, ka' = some ⟨b, o, none⟩ ∧ b < w.heap.size ∧ ∀ i (hi : i < ks'.length), w.cell? ⟨b, o + i, none⟩ = some (.string ks'[i])) :
    Calls Tryz.prog 59 #[.slice ka ks.length kc, .slice ka' ks'.length kc'] w (IntP w (keysC ks ks')) := by
  have Hck := Lib.hid ck; clear ck
  have Hck' := Lib.hid ck'; clear ck'
  go_enter Tryz.func59, Tryz.ntmps59
  go_wp2_with fail
  go_loopw [5] (fun i wr => TwoLoop w ks.length ks'.length (fun n => keysC (ks.drop n) (ks'.drop n)) (keysC ks ks') i wr) (fun i _ => ks.length - (intOf i).toNat)
  case atStart => exact ⟨0, Nat.zero_le _, Nat.zero_le _, rfl, Below.refl _ _, rfl⟩
  case round =>
    obtain ⟨n, hn, hn', rfl, hb, hfin⟩ := hrel
    have Hfin := Lib.hid hfin; clear hfin
    by_cases h1 : n < ks.length
    · by_cases h2 : n < ks'.length
      · obtain ⟨b1, o1, rfl, hb1, c1⟩ := Hck.out (by omega)
        obtain ⟨b2, o2, rfl, hb2, c2⟩ := Hck'.out (by omega)
        have y1 : wr.cell? ⟨b1, o1 + n, none⟩ = some (.string ks[n]) := (hb.cell (p := ⟨b1, o1 + n, none⟩) hb1).trans (c1 n h1)
        have y2 : wr.cell? ⟨b2, o2 + n, none⟩ = some (.string ks'[n]) := (hb.cell (p := ⟨b2, o2 + n, none⟩) hb2).trans (c2 n h2)
        have hd := keysC_drop ks ks' n h1 h2
        have Hd := Lib.hid (Hfin.out.symm.trans hd); clear hd
        have t1 : (n : Int) < (ks.length : Int) := by omega
        have t2 : (n : Int) < (ks'.length : Int) := by omega
        have t3 : (0 : Int) ≤ (n : Int) := by omega
        clear c1 c2
        generalize ks[n] = x at y1 Hd
        generalize ks'[n] = y at y2 Hd
        go_wp2_with fail
        refine wp_region_tail 8 (by kernel_rfl) (by kernel_rfl) ?_
        simp only [List.take_succ_cons, List.take_zero, List.drop_succ_cons, List.drop_zero]
        repeat (go_big_quiet_step (fail))
        refine wpQuiet_nil ?_
        clear t1 t2 t3
        go_wp2_with fail
        refine (texts_any _ _ _).mono ?_
        rintro e w2 ⟨rfl, rfl⟩
        generalize textsC x y = c at Hd
        by_cases hc : c = 0
        · have Hd2 := Lib.hid (Hd.out.trans (if_pos hc)); clear Hd
          subst hc
          go_wp2_with fail
          go_roundw
          case rel => exact ⟨n + 1, by omega, by omega, by go_num, hb.drew, Hd2.out.symm⟩
          case measure => simp [intOf]; omega
        · have Hd2 := Lib.hid (Hd.out.trans (if_neg hc)); clear Hd
          have tc : (c != 0) = true := by simpa using hc
          clear hc
          go_wp2_with fail
          go_ret
          exact ⟨by rw [Hd2.out]; rfl, hb.drew⟩
      · have hd := keysC_end ks ks' n (by omega) hn hn'
        have Hd := Lib.hid (Hfin.out.symm.trans hd); clear hd
        go_wp2_with fail
        go_ret
        exact ⟨by rw [Hd.out]; rfl, hb⟩
    · have hd := keysC_end ks ks' n (by omega) hn hn'
      have Hd := Lib.hid (Hfin.out.symm.trans hd); clear hd
      go_wp2_with fail
      go_ret
      exact ⟨by rw [Hd.out]; rfl, hb⟩
def CmpOK (w0 : World) (B : Nat) (a b : V) (ca cb : List Value) : Prop :=
  ∀ w, Below B w0 w → B ≤ w.heap.size → Calls Tryz.prog 48 #[.agg ca.toArray, .agg cb.toArray] w (IntP w (cmpV a b))
set_option maxHeartbeats 2000000 in
set_option maxRecDepth 100000 in
theorem lists_of (w0 : World) (B : Nat) (l l' : List V) (la la' : Option Addr) (lc lc' : Nat) (C C' : Nat → List Value) (hl : l.length * 104 ≤ 140737488351232) (hl' : l'.length * 104 ≤ 140737488351232)
    (cl : 0 < l.length → ∃ b o, la = some ⟨b, o, none⟩ ∧ b < B ∧ ∀ i, i < l.length → CellsAt w0 b (o + i * 6) (C i)) (rl : ∀ i (hi : i < l.length), RepV w0 B l[i] (C i))
    (cl' : 0 < l'.length → ∃ b o, la' = some ⟨b, o, none⟩ ∧ b < B ∧ ∀ i, i < l'.length → CellsAt w0 b (o + i * 6) (C' i)) (rl' : ∀ i (hi : i < l'.length), RepV w0 B l'[i] (C' i))
    (ih : ∀ i (hi : i < l.length) j (hj : j < l'.length), CmpOK w0 B l[i] l'[j] (C i) (C' j)) (w : World) (hbel : Below B w0 w) (hB : B ≤ w.heap.size) :
    Calls Tryz.prog 58 #[.slice la l.length lc, .slice la' l'.length lc'] w (IntP w (cmpL l l')) := by
  have Hcl := Lib.hid cl; clear cl
  have Hcl' := Lib.hid cl'; clear cl'
  have Hih := Lib.hid ih; clear ih
  have Hbel := Lib.hid hbel; clear hbel
  go_enter Tryz.func58, Tryz.ntmps58
  go_wp2_with fail
  go_loopw [5] (fun i wr => TwoLoop w l.length l'.length (fun n => cmpL (l.drop n) (l'.drop n)) (cmpL l l') i wr) (fun i _ => l.length - (intOf i).toNat)
  case atStart => exact ⟨0, Nat.zero_le _, Nat.zero_le _, rfl, Below.refl _ _, rfl⟩
  case round =>
    obtain ⟨n, hn, hn', rfl, hb, hfin⟩ := hrel
    have Hfin := Lib.hid hfin; clear hfin
    by_cases h1 : n < l.length
    · by_cases h2 : n < l'.length
      · obtain ⟨b1, o1, rfl, hb1, c1⟩ := Hcl.out (by omega)
        obtain ⟨b2, o2, rfl, hb2, c2⟩ := Hcl'.out (by omega)
        have hb0 : Below B w0 wr := Hbel.out.trans (hb.mono hB)
        have cc := (c1 n h1).below hb0 hb1
        have cc' := (c2 n h2).below hb0 hb2
        have ih := Hih.out n h1 n h2 wr.drew hb0.drew (by have := hb.size; show B ≤ wr.heap.size; omega)
        obtain ⟨k1, q1, t1, la1, ka1, va1, nl1, cl1, nk1, ck1, nv1, cv1, hC⟩ := (rl n h1).shape
        obtain ⟨k2, q2, t2, la2, ka2, va2, nl2, cl2, nk2, ck2, nv2, cv2, hC'⟩ := (rl' n h2).shape
        rw [hC] at cc ih
        rw [hC'] at cc' ih
        obtain ⟨y0, y1, y2, y3, y4, y5⟩ := cells6 cc
        obtain ⟨z0, z1, z2, z3, z4, z5⟩ := cells6 cc'
        have HI := Lib.hid ih
        have hd := cmpL_drop l l' n h1 h2
        have Hd := Lib.hid (Hfin.out.symm.trans hd); clear hd
        have u1 : (n : Int) < (l.length : Int) := by omega
        have u2 : (n : Int) < (l'.length : Int) := by omega
        have u3 : (0 : Int) ≤ (n : Int) := by omega
        clear c1 c2 cc cc' ih hC hC' hb0
        go_wp2_with fail
        refine wp_region_tail 8 (by kernel_rfl) (by kernel_rfl) ?_
        simp only [List.take_succ_cons, List.take_zero, List.drop_succ_cons, List.drop_zero]
        repeat (go_big_quiet_step (fail))
        refine wpQuiet_nil ?_
        clear u1 u2 u3 y0 y1 y2 y3 y4 y5 z0 z1 z2 z3 z4 z5
        go_wp2_with fail
        refine HI.out.mono ?_
        rintro e w2 ⟨rfl, hb3⟩
        have hb4 : Below w.heap.size w w2 := hb.drew.trans (hb3.mono hb.size)
        clear HI
        generalize cmpV l[n] l'[n] = c at Hd
        by_cases hc : c = 0
        · have Hd2 := Lib.hid (Hd.out.trans (if_pos hc)); clear Hd
          subst hc
          go_wp2_with fail
          go_roundw
          case rel => exact ⟨n + 1, by omega, by omega, by go_num, hb4, Hd2.out.symm⟩
          case measure => simp [intOf]; omega
        · have Hd2 := Lib.hid (Hd.out.trans (if_neg hc)); clear Hd
          have tc : (c != 0) = true := by simpa using hc
          clear hc
          go_wp2_with fail
          go_ret
          exact ⟨by rw [Hd2.out]; rfl, hb4⟩
      · have hd := cmpL_end l l' n (by omega) hn hn'
        have Hd := Lib.hid (Hfin.out.symm.trans hd); clear hd
        go_wp2_with fail
        go_ret
        exact ⟨by rw [Hd.out]; rfl, hb⟩
    · have hd := cmpL_end l l' n (by omega) hn hn'
      have Hd := Lib.hid (Hfin.out.symm.trans hd); clear hd
      go_wp2_with fail
      go_ret
      exact ⟨by rw [Hd.out]; rfl, hb⟩
set_option maxHeartbeats 4000000 in
set_option maxRecDepth 100000 in
theorem cmp_any (w0 : World) (B : Nat) (a : V) (ca : List Value) (ha : RepV w0 B a ca) : ∀ (b : V) (cb : List Value), RepV w0 B b cb → CmpOK w0 B a b ca cb := by
  induction ha with
  | @mk k h t l ks vs la ka va lc kc vc C D hk hh ht hl hks hvs hs cl rl ck cv rv _ ihl ihv =>
  intro b cb hb
  cases hb with
  | @mk k' h' t' l' ks' vs' la' ka' va' lc' kc' vc' C' D' hk' hh' ht' hl' hks' hvs' hs' cl' rl' ck' cv' rv' =>
  intro w hbel hB
  have hbW := below_alloc2 w (.cells #[.int .i64 k, .int .i64 h, .string t, .slice la l.length lc, .slice ka ks.length kc, .slice va vs.length vc] 26)
    (.cells #[.int .i64 k', .int .i64 h', .string t', .slice la' l'.length lc', .slice ka' ks'.length kc', .slice va' vs'.length vc'] 26)
  have hsW := size_alloc2 w (.cells #[.int .i64 k, .int .i64 h, .string t, .slice la l.length lc, .slice ka ks.length kc, .slice va vs.length vc] 26)
    (.cells #[.int .i64 k', .int .i64 h', .string t', .slice la' l'.length lc', .slice ka' ks'.length kc', .slice va' vs'.length vc'] 26)
  have L := Lib.hid fun w' h1 h2 => lists_of w0 B l l' la la' lc lc' C C' hl hl' cl rl cl' rl' (fun i hi j hj => ihl i hi _ _ (rl' j hj)) w' h1 h2
  have M := Lib.hid fun w' h1 h2 => lists_of w0 B vs vs' va va' vc vc' D D' hvs hvs' cv rv cv' rv' (fun i hi j hj => ihv i hi _ _ (rv' j hj)) w' h1 h2
  have K := Lib.hid fun (w' : World) (h1 : Below B w0 w') (h2 : B ≤ w'.heap.size) => keys_any w' ks ks' ka ka' kc kc' hks hks'
    (fun h0 => by obtain ⟨b, o, e, hb, hc⟩ := ck h0; exact ⟨b, o, e, by omega, fun i hi => (h1.cell (p := ⟨b, o + i, none⟩) hb).trans (hc i hi)⟩)
    (fun h0 => by obtain ⟨b, o, e, hb, hc⟩ := ck' h0; exact ⟨b, o, e, by omega, fun i hi => (h1.cell (p := ⟨b, o + i, none⟩) hb).trans (hc i hi)⟩)
  have Hbel := Lib.hid hbel
  clear ihl ihv cl rl ck cv rv cl' rl' ck' cv' rv' hs hs' hk hh ht hl hks hvs hk' hh' ht' hl' hks' hvs' hbel
  by_cases ek : k = k'
  · have tk : (k != k') = false := by simp [ek]
    have ev : cmpV (.mk k h t l ks vs) (.mk k' h' t' l' ks' vs') = if k = 3 then signI (wrap64 (h - h')) else if k = 4 then textsC t t'
      else if k = 5 then signI (cmpL l l') else if k = 6 then (if keysC ks ks' = 0 then signI (cmpL vs vs') else signI (keysC ks ks')) else 0 := by simp only [cmpV]; rw [if_neg (by simpa using ek)]
    clear ek
    by_cases k3 : k = 3
    · have Hev := Lib.hid (ev.trans (if_pos k3)); clear ev
      subst k3
      go_enter Tryz.func48, Tryz.ntmps48
      go_wp2_with fail
      refine (sign_any _ _).mono ?_
      rintro e w2 ⟨rfl, rfl⟩
      go_wp2_with fail
      go_ret
      exact ⟨by rw [Hev.out]; rfl, hbW⟩
    have ev := ev.trans (if_neg k3)
    have t3 : (k == 3) = false := by simpa using k3
    clear k3
    by_cases k4 : k = 4
    · have Hev := Lib.hid (ev.trans (if_pos k4)); clear ev
      subst k4
      go_enter Tryz.func48, Tryz.ntmps48
      go_wp2_with fail
      refine (texts_any _ _ _).mono ?_
      rintro e w2 ⟨rfl, rfl⟩
      go_wp2_with fail
      go_ret
      exact ⟨by rw [Hev.out]; rfl, hbW⟩
    have ev := ev.trans (if_neg k4)
    have t4 : (k == 4) = false := by simpa using k4
    clear k4
    by_cases k5 : k = 5
    · have Hev := Lib.hid (ev.trans (if_pos k5)); clear ev
      subst k5
      go_enter Tryz.func48, Tryz.ntmps48
      go_wp2_with fail
      refine (L.out _ (Hbel.out.trans (hbW.mono hB)) (by rw [hsW]; omega)).mono ?_
      rintro e w2 ⟨rfl, hb2⟩
      go_wp2_with fail
      refine (sign_any _ _).mono ?_
      rintro e w3 ⟨rfl, rfl⟩
      go_wp2_with fail
      go_ret
      exact ⟨by rw [Hev.out]; rfl, below_next hbW hb2⟩
    have ev := ev.trans (if_neg k5)
    have t5 : (k == 5) = false := by simpa using k5
    clear k5
    by_cases k6 : k = 6
    · have ev := ev.trans (if_pos k6)
      subst k6
      by_cases ec : keysC ks ks' = 0
      · have Hev := Lib.hid (ev.trans (if_pos ec)); clear ev
        have Hec := Lib.hid ec; clear ec
        go_enter Tryz.func48, Tryz.ntmps48
        go_wp2_with fail
        refine (K.out _ (Hbel.out.trans (hbW.mono hB)) (by rw [hsW]; omega)).mono ?_
        rintro e w2 ⟨rfl, hb2⟩
        rw [Hec.out]
        have hb3 := below_next hbW hb2
        obtain ⟨a0, a1, a2, a3, a4, a5⟩ := of_block6 ((hb2.block w.heap.size (by rw [hsW]; omega)).trans (at_alloc20 _ _ _))
        obtain ⟨b0, b1, b2, b3, b4, b5⟩ := of_block6 ((hb2.block (w.heap.size + 1) (by rw [hsW]; omega)).trans (at_alloc2 _ _ _))
        have hs2 : B ≤ w2.heap.size := by have := hb2.size; rw [hsW] at this; omega
        go_wp2_with fail
        refine (M.out _ (Hbel.out.trans (hb3.mono hB)) hs2).mono ?_
        rintro e w3 ⟨rfl, hb4⟩
        go_wp2_with fail
        refine (sign_any _ _).mono ?_
        rintro e w4 ⟨rfl, rfl⟩
        go_wp2_with fail
        go_ret
        exact ⟨by rw [Hev.out]; rfl, below_next hb3 hb4⟩
      · have Hev := Lib.hid (ev.trans (if_neg ec)); clear ev
        have Hec := Lib.hid ec; clear ec
        go_enter Tryz.func48, Tryz.ntmps48
        go_wp2_with fail
        refine (K.out _ (Hbel.out.trans (hbW.mono hB)) (by rw [hsW]; omega)).mono ?_
        rintro e w2 ⟨rfl, hb2⟩
        have tc : (keysC ks ks' != 0) = true := by simpa using Hec.out
        clear Hec K
        generalize keysC ks ks' = c at tc Hev ⊢
        go_wp2_with fail
        refine (sign_any _ _).mono ?_
        rintro e w4 ⟨rfl, rfl⟩
        go_wp2_with fail
        go_ret
        exact ⟨by rw [Hev.out]; rfl, below_next hbW hb2⟩
    have Hev := Lib.hid (ev.trans (if_neg k6)); clear ev
    have t6 : (k == 6) = false := by simpa using k6
    clear k6
    go_enter Tryz.func48, Tryz.ntmps48
    go_wp2_with fail
    go_ret
    exact ⟨by rw [Hev.out]; rfl, hbW⟩
  · have tk : (k != k') = true := by simpa using ek
    have Hev := Lib.hid (show cmpV (.mk k h t l ks vs) (.mk k' h' t' l' ks' vs') = signI (wrap64 (k - k')) by simp only [cmpV]; rw [if_pos ek])
    clear ek
    go_enter Tryz.func48, Tryz.ntmps48
    go_wp2_with fail
    refine (sign_any _ _).mono ?_
    rintro e w2 ⟨rfl, rfl⟩
    go_wp2_with fail
    go_ret
    exact ⟨by rw [Hev.out]; rfl, hbW⟩
/-- Two good values are the same. -/
def sameB (a b : V) : Bool := decide (cmpV a b = 0)
def BoolP (w : World) (x : Bool) (e : Ending) (w' : World) : Prop := e = .returned (.bool x) ∧ Below w.heap.size w w'
set_option maxHeartbeats 1000000 in
set_option maxRecDepth 100000 in
theorem same_any (w0 : World) (B : Nat) (a b : V) (ca cb : List Value) (ha : RepV w0 B a ca) (hb : RepV w0 B b cb) (w : World) (hbel : Below B w0 w) (hB : B ≤ w.heap.size) :
    Calls Tryz.prog 35 #[.agg ca.toArray, .agg cb.toArray] w (BoolP w (sameB a b)) := by
  have H := Lib.hid (cmp_any w0 B a ca ha b cb hb)
  obtain ⟨k, h, t, la, ka, va, nl, cl, nk, ck, nv, cv, rfl⟩ := ha.shape
  obtain ⟨k', h', t', la', ka', va', nl', cl', nk', ck', nv', cv', rfl⟩ := hb.shape
  have hbW := below_alloc2 w (.cells #[.int .i64 k, .int .i64 h, .string t, .slice la nl cl, .slice ka nk ck, .slice va nv cv] 26)
    (.cells #[.int .i64 k', .int .i64 h', .string t', .slice la' nl' cl', .slice ka' nk' ck', .slice va' nv' cv'] 26)
  have hsW := size_alloc2 w (.cells #[.int .i64 k, .int .i64 h, .string t, .slice la nl cl, .slice ka nk ck, .slice va nv cv] 26)
    (.cells #[.int .i64 k', .int .i64 h', .string t', .slice la' nl' cl', .slice ka' nk' ck', .slice va' nv' cv'] 26)
  have Hbel := Lib.hid hbel
  clear ha hb hbel
  go_enter Tryz.func35, Tryz.ntmps35
  go_wp2_with fail
  refine (H.out _ (Hbel.out.trans (hbW.mono hB)) (by rw [hsW]; omega)).mono ?_
  rintro e w2 ⟨rfl, hb2⟩
  generalize hc : cmpV a b = c
  have Hc := Lib.hid hc; clear hc
  go_wp2_with fail
  go_ret
  exact ⟨by rw [show sameB a b = (c == 0) from by unfold sameB; rw [Hc.out]; rfl]; rfl, below_next hbW hb2⟩
theorem sameB_iff {a b : V} (ga : Good a) (gb : Good b) : sameB a b = true ↔ a = b := by
  unfold sameB
  rw [decide_eq_true_eq, cmpV_zero ga gb]
end Go.Proofs.YtpaebanmaboaiaaGreatDoor

namespace Go.Proofs.YtpaebanmaboaiaaGreatDoor
open Ieee
theorem least_double : double.leastPlace = -1074 := by decide
theorem binade_double : double.binade = 2 ^ 52 := rfl
theorem infRung_double : double.infRung = 2047 * 2 ^ 52 := by decide
theorem sign_double : double.signWeight = 2 ^ 63 := rfl
theorem cut_zero (w : Toward) (neg : Bool) (n : Nat) : w.cut neg n 0 = n := by
  unfold Toward.cut
  have h1 : (1 : Nat) <<< min 0 (n.log2 + 2) = 1 := by simp
  simp only [h1]
  cases w <;> simp [Nat.mod_one]
theorem pow_split {L : Nat} (h : L ≤ 52) : 2 ^ L * 2 ^ (52 - L) = 2 ^ 52 := by rw [← Nat.pow_add]; congr 1; omega
theorem log_le {m : Nat} (h0 : 0 < m) (h : m < 2 ^ 53) : m.log2 ≤ 52 := by
  have := (Nat.log2_lt (by omega : m ≠ 0) (k := 53)).2 h
  omega
theorem kept_bounds {m : Nat} (h0 : 0 < m) (h : m < 2 ^ 53) : 2 ^ 52 ≤ m * 2 ^ (52 - m.log2) ∧ m * 2 ^ (52 - m.log2) < 2 ^ 53 := by
  have hL := log_le h0 h
  have h1 : 2 ^ m.log2 ≤ m := Nat.log2_self_le (by omega)
  have h2 : m < 2 ^ (m.log2 + 1) := Nat.lt_log2_self
  have e := pow_split hL
  constructor
  · rw [← e]; exact Nat.mul_le_mul_right _ h1
  · have : m * 2 ^ (52 - m.log2) < 2 ^ (m.log2 + 1) * 2 ^ (52 - m.log2) := Nat.mul_lt_mul_of_pos_right h2 (Nat.two_pow_pos _)
    rw [Nat.pow_succ, Nat.mul_assoc, Nat.mul_comm 2, ← Nat.mul_assoc, e] at this
    omega
theorem near_word (neg : Bool) {m : Nat} (h0 : 0 < m) (h : m < 2 ^ 53) {p : Int} (hp : -900 ≤ p) (hp' : p ≤ 900) :
    double.nearest neg m p = double.word neg ((p + m.log2 + 1022).toNat * 2 ^ 52 + m * 2 ^ (52 - m.log2)) := by
  have hL := log_le h0 h
  have hk := kept_bounds h0 h
  unfold Format.nearest
  rw [if_neg (by omega)]
  have e1 : max (p + (m.log2 : Int) - (double.fractionBits : Int)) (-1074) = p + m.log2 - 52 := by
    show max (p + (m.log2 : Int) - (52 : Int)) (-1074) = _
    omega
  simp only [least_double, binade_double, infRung_double, e1]
  have e2 : (p - (p + (m.log2 : Int) - 52)).toNat = 52 - m.log2 := by omega
  have e3 : (p + (m.log2 : Int) - 52 - p).toNat = 0 := by omega
  have e4 : (p + (m.log2 : Int) - 52 - -1074).toNat = (p + m.log2 + 1022).toNat := by omega
  rw [e2, e3, e4, cut_zero, Nat.shiftLeft_eq]
  congr 1
  apply Nat.min_eq_left
  have : (p + m.log2 + 1022).toNat ≤ 2000 := by omega
  generalize (p + m.log2 + 1022).toNat = a at this ⊢
  omega
theorem word_read (neg : Bool) {a f : Nat} (ha : a + 1 < 2047) (hf : f < 2 ^ 52) :
    double.read (double.word neg (a * 2 ^ 52 + (2 ^ 52 + f))) = .number neg (2 ^ 52 + f) (a - 1074) := by
  have e0 : a * 2 ^ 52 + (2 ^ 52 + f) = (a + 1) * 2 ^ 52 + f := by omega
  have hlt : (a + 1) * 2 ^ 52 + f < 2 ^ 63 := by omega
  rw [e0]
  have hs : double.word neg ((a + 1) * 2 ^ 52 + f) / double.signWeight % 2 = neg.toNat ∧ double.word neg ((a + 1) * 2 ^ 52 + f) % double.signWeight = (a + 1) * 2 ^ 52 + f := by
    rw [sign_double]
    unfold Format.word
    rw [sign_double]
    cases neg <;> simp <;> omega
  unfold Format.read
  simp only [hs.1, hs.2, binade_double, infRung_double]
  rw [if_neg (by omega), if_pos (by omega)]
  have d1 : ((a + 1) * 2 ^ 52 + f) % 2 ^ 52 = f := by omega
  have d2 : ((a + 1) * 2 ^ 52 + f) / 2 ^ 52 = a + 1 := by omega
  rw [d1, d2, least_double]
  have e1 : (neg.toNat == 1) = neg := by cases neg <;> rfl
  rw [e1]
  congr 1
theorem near_read (neg : Bool) {m : Nat} (h0 : 0 < m) (h : m < 2 ^ 53) {p : Int} (hp : -900 ≤ p) (hp' : p ≤ 900) :
    double.read (double.nearest neg m p) = .number neg (m * 2 ^ (52 - m.log2)) (p - (52 - m.log2)) := by
  have hL := log_le h0 h
  have hk := kept_bounds h0 h
  rw [near_word neg h0 h hp hp']
  obtain ⟨f, hf⟩ : ∃ f, m * 2 ^ (52 - m.log2) = 2 ^ 52 + f := ⟨_, (Nat.add_sub_cancel' hk.1).symm⟩
  rw [hf] at hk ⊢
  rw [word_read neg (by omega) (by omega)]
  congr 1
  omega
theorem two_read : double.read 4611686018427387904 = .number false (2 ^ 52) (-51) := by decide
/-- An odd Half, halved: no NaN. -/
theorem half_some (h : Int) (h1 : -9007199254740992 < h) (h2 : h < 9007199254740992) (h0 : h ≠ 0) :
    ∃ r, FloatKind.f64.format.div (FloatKind.f64.nearest h) 4611686018427387904 = some r := by
  show ∃ r, double.div (double.nearest (decide (h < 0)) h.natAbs 0) 4611686018427387904 = some r
  unfold Format.div
  rw [near_read (decide (h < 0)) (by omega) (by omega) (by omega) (by omega), two_read]
  exact ⟨_, rfl⟩
end Go.Proofs.YtpaebanmaboaiaaGreatDoor
