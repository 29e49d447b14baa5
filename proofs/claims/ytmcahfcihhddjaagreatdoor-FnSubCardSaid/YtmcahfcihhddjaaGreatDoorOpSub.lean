/- Contract of impl.OpSub. -/
import Derived.Test.YtmcahfcihhddjaaGreatDoorSubJ
namespace Go.Proofs.YtmcahfcihhddjaaGreatDoor
open Go Go.RowKit Go.Deep

theorem resQ_store {w w3 w4 : World} {an : Ans} {z : Nat} {k h : Int} {t : ByteArray} {la ka va : Option Addr} {nl cl nk ck nv cv : Nat} {n : Int} (hz : w.heap.size ≤ z) (hz2 : z < w3.heap.size) (hb3 : Below w.heap.size w w3) (hb4 : Below w3.heap.size w3 w4)
    (hR : (∀ v, an = .fine v → n = 0 ∧ RepS w4 (FreshS w3.heap.size w4.heap.size) v [.int .i64 k, .int .i64 h, .string t, .slice la nl cl, .slice ka nk ck, .slice va nv cv]) ∧ (an = .raises → n = 1)) :
    ResQ w an (.returned (.agg #[.int .i64 k, .int .i64 h, .string t, .slice la nl cl, .slice ka nk ck, .slice va nv cv, .int .i64 n]))
      (((((((w4.setCell ⟨z, 0, none⟩ (.int .i64 k)).setCell ⟨z, 1, none⟩ (.int .i64 h)).setCell ⟨z, 2, none⟩ (.string t)).setCell ⟨z, 3, none⟩ (.slice la nl cl)).setCell ⟨z, 4, none⟩ (.slice ka nk ck)).setCell ⟨z, 5, none⟩ (.slice va nv cv)).setCell ⟨z, 6, none⟩ (.int .i64 n)) := by
  have h3 := hb3.size
  have h4 := hb4.size
  refine ⟨_, _, _, _, _, _, _, _, _, _, _, _, _, rfl, ⟨fun v hv => ?_, hR.2⟩, ?_⟩
  · obtain ⟨e, hr⟩ := hR.1 v hv
    refine ⟨e, hr.turn fun q hq => ⟨set7_other _ _ _ _ _ _ _ _ _ _ ?_, ?_⟩⟩
    · unfold FreshS at hq; omega
    · unfold FreshS at hq ⊢
      rw [set7_size]
      omega
  · exact (((((((hb3.trans (hb4.mono h3)).setCell (by simp; omega) _).setCell (by simp; omega) _).setCell (by simp; omega) _).setCell (by simp; omega) _).setCell (by simp; omega) _).setCell (by simp; omega) _).setCell (by simp; omega) _

set_option maxHeartbeats 1000000 in
set_option maxRecDepth 100000 in
theorem opSub_walk {w0 : World} {B : Nat} {a b : V} {ca cb : List Value} (ha : RepV w0 B a ca) (hb : RepV w0 B b cb) (an : Ans)
    (ta : ToGoOK w0 B a ca) (tb : ToGoOK w0 B b cb)
    (hz : ∀ w x y, RepJ w (fun k => k < w.heap.size) (toJ a) x → RepJ w (fun k => k < w.heap.size) (toJ b) y → Calls Tryz.prog 25 #[x, y] w (Ret (SubR w an)))
    (w : World) (hbel : Below B w0 w) (hB : B ≤ w.heap.size) : Calls Tryz.prog 10 #[.agg ca.toArray, .agg cb.toArray] w (ResQ w an) := by
  have Ta := Lib.hid ta; clear ta
  have Tb := Lib.hid tb; clear tb
  have Hz := Lib.hid hz; clear hz
  have Hbel := Lib.hid hbel; clear hbel
  obtain ⟨k, h, t, la, ka, va, nl, cl, nk, ck, nv, cv, rfl⟩ := ha.shape
  obtain ⟨k', h', t', la', ka', va', nl', cl', nk', ck', nv', cv', rfl⟩ := hb.shape
  clear ha hb
  go_enter Tryz.func10, Tryz.ntmps10
  go_wp2_with fail
  have h0 := at_alloc3 w (.cells #[.int .i64 k, .int .i64 h, .string t, .slice la nl cl, .slice ka nk ck, .slice va nv cv] 26)
    (.cells #[.int .i64 k', .int .i64 h', .string t', .slice la' nl' cl', .slice ka' nk' ck', .slice va' nv' cv'] 26)
    (.cells #[.int .i64 0, .int .i64 0, .string ⟨#[]⟩, .slice none 0 0, .slice none 0 0, .slice none 0 0, .int .i64 0] 34)
  obtain ⟨hbW, hsW, hx1, hx2⟩ := h0
  refine (Ta.out _ (Hbel.out.trans (hbW.mono hB)) (by rw [hsW]; omega)).mono ?_
  generalize ((w.alloc _).alloc _).alloc _ = W at *
  rintro e w1 ⟨x, rfl, jx, hw1⟩
  have hs1 : w.heap.size + 3 ≤ w1.heap.size := by have := hw1.size; omega
  have y1 := (hw1.block (w.heap.size + 1) (by omega)).trans hx1
  have y2 := (hw1.block (w.heap.size + 1 + 1) (by omega)).trans hx2
  have hb1 : Below w.heap.size w w1 := hbW.trans (hw1.mono (by omega))
  obtain ⟨e0, e1, e2, e3, e4, e5⟩ := of_block6 y1
  have fx := jx.form
  have Jx := Lib.hid jx; clear jx
  have Hw1 := Lib.hid hw1; clear hw1
  go_wp2_with fail
  refine (Tb.out _ (Hbel.out.trans (hb1.mono hB)) (by omega)).mono ?_
  rintro e w2 ⟨y, rfl, jy, hw2⟩
  have hs2 : w.heap.size + 3 ≤ w2.heap.size := by have := hw2.size; omega
  have z2 := (hw2.block (w.heap.size + 1 + 1) (by omega)).trans y2
  have hb2 : Below w.heap.size w w2 := hb1.trans (hw2.mono (by omega))
  have jx2 := Jx.out.under hw2 (fun k hk => hk.2)
  have fy := jy.form
  have Z := Lib.hid (Hz.out _ _ _ (jx2.mono (fun k hk => by have := hk.2; have := hw2.size; omega)) (jy.mono (fun k hk => hk.2)))
  clear jx2 jy Jx
  rcases fx with rfl | ⟨tx, x, rfl⟩ <;> rcases fy with rfl | ⟨ty, y, rfl⟩
  all_goals
    go_wp2_with fail
    refine Z.out.mono ?_
    rintro e w3 ⟨u, rfl, hfu, hu, hw3⟩
    have hs3 : w.heap.size + 3 ≤ w3.heap.size := by have := hw3.size; omega
    have z3 := (hw3.block (w.heap.size + 1 + 1) (by omega)).trans z2
    have hb3 : Below w.heap.size w w3 := hb2.trans (hw3.mono (by omega))
    have U := Lib.hid hu
    clear hu
    rcases hfu with rfl | ⟨tu, u, rfl⟩
    all_goals
      go_wp2_with fail
      refine U.out.mono ?_
      rintro e w4 ⟨k, h, t, la, ka, va, nl, cl, nk, ck, nv, cv, n, rfl, hR, hw4⟩
      have hs4 : w.heap.size + 3 ≤ w4.heap.size := by have := hw4.size; omega
      have z4 := (hw4.block (w.heap.size + 1 + 1) (by omega)).trans z3
      obtain ⟨e0, e1, e2, e3, e4, e5, e6⟩ := of_block7 z4
      obtain ⟨f0, f1, f2, f3, f4, f5, f6⟩ := free_block7 z4
      have Hst := Lib.hid (resQ_store (z := w.heap.size + 1 + 1) (by omega) (by omega) hb3 hw4 hR)
      clear hR
      go_wp2_with fail
      refine bodyPost_ret (v := .agg #[.int .i64 k, .int .i64 h, .string t, .slice la nl cl, .slice ka nk ck, .slice va nv cv, .int .i64 n]) ?_ rfl Hst.out
      exact results_cell_row (p := 4) (ty := 34) rfl _ _ (w.heap.size + 1 + 1) 34 _ (0, 0) _ rfl (set_row7 z4 _ _ _ _ _ _ _) Tryz.underlying34 rfl (by kernel_rfl)

theorem opSub_any {w0 : World} {B : Nat} {a b : V} {ca cb : List Value} (ha : RepV w0 B a ca) (hb : RepV w0 B b cb) (ga : Good a) (gb : Good b)
    (w : World) (hbel : Below B w0 w) (hB : B ≤ w.heap.size) : Calls Tryz.prog 10 #[.agg ca.toArray, .agg cb.toArray] w (ResQ w (subA a b)) :=
  opSub_walk ha hb _ (toGo_any w0 B a ca ha ga) (toGo_any w0 B b cb hb gb)
    (fun w _ _ jx jy => zzSub_any ga gb ha.small hb.small jx (fun _ h => h) jy (fun _ h => h) w (Below.refl _ _) (Nat.le_refl _)) w hbel hB

end Go.Proofs.YtmcahfcihhddjaaGreatDoor
