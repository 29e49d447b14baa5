/- Contracts of impl's doors Sort, Unique, Min, Max over what gojq's give; gojq's doors over what they call. -/
/- Contracts of impl's doors SortBy, UniqueBy, MinBy, MaxBy over what gojq's give; gojq's doors over what they call. -/
import Derived.Test.YtpaebanmaboaiaaGreatDoorM13
import Derived.Test.YtpaebanmaboaiaaGreatDoorM12
namespace Go.Proofs.YtpaebanmaboaiaaGreatDoor
open Go Go.RowKit Go.Deep
set_option maxHeartbeats 1000000 in
set_option maxRecDepth 100000 in
theorem implSort_walk {w0 : World} {B : Nat} {a : V} {ca : List Value} (ha : RepV w0 B a ca) (an : Ans) (ta : ToGoOK w0 B a ca)
    (hz : ∀ w x, RepJ w (fun k => k < w.heap.size) (toJ a) x → Calls Tryz.prog 19 #[x] w (Ret (SubR w an)))
    (w : World) (hbel : Below B w0 w) (hB : B ≤ w.heap.size) : Calls Tryz.prog 6 #[.agg ca.toArray] w (ResQ w an) := by
  have Ta := Lib.hid ta; clear ta
  have Hz := Lib.hid hz; clear hz
  have Hbel := Lib.hid hbel; clear hbel
  obtain ⟨k, h, t, la, ka, va, nl, cl, nk, ck, nv, cv, rfl⟩ := ha.shape
  clear ha
  go_enter Tryz.func6, Tryz.ntmps6
  go_wp2_with fail
  have h0 := at_alloc2 w (.cells #[.int .i64 k, .int .i64 h, .string t, .slice la nl cl, .slice ka nk ck, .slice va nv cv] 26)
    (.cells #[.int .i64 0, .int .i64 0, .string ⟨#[]⟩, .slice none 0 0, .slice none 0 0, .slice none 0 0, .int .i64 0] 29)
  have hbW := below_alloc2 w (.cells #[.int .i64 k, .int .i64 h, .string t, .slice la nl cl, .slice ka nk ck, .slice va nv cv] 26)
    (.cells #[.int .i64 0, .int .i64 0, .string ⟨#[]⟩, .slice none 0 0, .slice none 0 0, .slice none 0 0, .int .i64 0] 29)
  have hsW := size_alloc2 w (.cells #[.int .i64 k, .int .i64 h, .string t, .slice la nl cl, .slice ka nk ck, .slice va nv cv] 26)
    (.cells #[.int .i64 0, .int .i64 0, .string ⟨#[]⟩, .slice none 0 0, .slice none 0 0, .slice none 0 0, .int .i64 0] 29)
  refine (Ta.out _ (Hbel.out.trans (hbW.mono hB)) (by rw [hsW]; omega)).mono ?_
  generalize (w.alloc _).alloc _ = W at *
  rintro e w1 ⟨x, rfl, jx, hw1⟩
  have hs1 : w.heap.size + 2 ≤ w1.heap.size := by have := hw1.size; omega
  have y2 := (hw1.block (w.heap.size + 1) (by omega)).trans h0
  have hb1 : Below w.heap.size w w1 := hbW.trans (hw1.mono (by omega))
  have fx := jx.form
  have Z := Lib.hid (Hz.out _ _ (jx.mono (fun k hk => hk.2)))
  clear jx
  rcases fx with rfl | ⟨tx, x, rfl⟩
  all_goals
    go_wp2_with fail
    refine Z.out.mono ?_
    rintro e w3 ⟨u, rfl, hfu, hu, hw3⟩
    have hs3 : w.heap.size + 2 ≤ w3.heap.size := by have := hw3.size; omega
    have z3 := (hw3.block (w.heap.size + 1) (by omega)).trans y2
    have hb3 : Below w.heap.size w w3 := hb1.trans (hw3.mono (by omega))
    have U := Lib.hid hu
    clear hu
    rcases hfu with rfl | ⟨tu, u, rfl⟩
    all_goals
      go_wp2_with fail
      refine U.out.mono ?_
      rintro e w4 ⟨k, h, t, la, ka, va, nl, cl, nk, ck, nv, cv, n, rfl, hR, hw4⟩
      have hs4 : w.heap.size + 2 ≤ w4.heap.size := by have := hw4.size; omega
      have z4 := (hw4.block (w.heap.size + 1) (by omega)).trans z3
      obtain ⟨e0, e1, e2, e3, e4, e5, e6⟩ := of_block7 z4
      obtain ⟨f0, f1, f2, f3, f4, f5, f6⟩ := free_block7 z4
      have Hst := Lib.hid (resQ_store (z := w.heap.size + 1) (by omega) (by omega) hb3 hw4 hR)
      clear hR
      go_wp2_with fail
      refine bodyPost_ret (v := .agg #[.int .i64 k, .int .i64 h, .string t, .slice la nl cl, .slice ka nk ck, .slice va nv cv, .int .i64 n]) ?_ rfl Hst.out
      exact results_cell_row (p := 2) (ty := 29) rfl _ _ (w.heap.size + 1) 29 _ (0, 0) _ rfl (set_row7 z4 _ _ _ _ _ _ _) Tryz.underlying29 rfl (by kernel_rfl)
set_option maxRecDepth 100000 in
theorem step_ZzSort {t : TypeId} {y : Value} {w : World} {R : Value → World → Prop} (h : Calls Tryz.prog 34 #[.iface t y] w (Ret R)) : Calls Tryz.prog 19 #[.iface t y] w (Ret R) := by
  have H := Lib.hid h; clear h
  go_enter Tryz.func19, Tryz.ntmps19
  go_wp2_with fail
  refine H.out.mono ?_
  rintro e w2 ⟨v, rfl, hv⟩
  have Hv := Lib.hid hv
  clear hv
  go_wp2_with fail
  go_ret
  exact ⟨_, rfl, Hv.out⟩
set_option maxRecDepth 100000 in
theorem step_funcSort {t : TypeId} {y : Value} {w : World} {R : Value → World → Prop} (h : Calls Tryz.prog 47 #[.string ⟨#[115, 111, 114, 116]⟩, .iface t y, .iface t y] w (Ret R)) : Calls Tryz.prog 34 #[.iface t y] w (Ret R) := by
  have H := Lib.hid h; clear h
  go_enter Tryz.func34, Tryz.ntmps34
  go_wp2_with fail
  refine H.out.mono ?_
  rintro e w2 ⟨v, rfl, hv⟩
  have Hv := Lib.hid hv
  clear hv
  go_wp2_with fail
  go_ret
  exact ⟨_, rfl, Hv.out⟩
set_option maxHeartbeats 1000000 in
set_option maxRecDepth 100000 in
theorem implUnique_walk {w0 : World} {B : Nat} {a : V} {ca : List Value} (ha : RepV w0 B a ca) (an : Ans) (ta : ToGoOK w0 B a ca)
    (hz : ∀ w x, RepJ w (fun k => k < w.heap.size) (toJ a) x → Calls Tryz.prog 23 #[x] w (Ret (SubR w an)))
    (w : World) (hbel : Below B w0 w) (hB : B ≤ w.heap.size) : Calls Tryz.prog 10 #[.agg ca.toArray] w (ResQ w an) := by
  have Ta := Lib.hid ta; clear ta
  have Hz := Lib.hid hz; clear hz
  have Hbel := Lib.hid hbel; clear hbel
  obtain ⟨k, h, t, la, ka, va, nl, cl, nk, ck, nv, cv, rfl⟩ := ha.shape
  clear ha
  go_enter Tryz.func10, Tryz.ntmps10
  go_wp2_with fail
  have h0 := at_alloc2 w (.cells #[.int .i64 k, .int .i64 h, .string t, .slice la nl cl, .slice ka nk ck, .slice va nv cv] 26)
    (.cells #[.int .i64 0, .int .i64 0, .string ⟨#[]⟩, .slice none 0 0, .slice none 0 0, .slice none 0 0, .int .i64 0] 29)
  have hbW := below_alloc2 w (.cells #[.int .i64 k, .int .i64 h, .string t, .slice la nl cl, .slice ka nk ck, .slice va nv cv] 26)
    (.cells #[.int .i64 0, .int .i64 0, .string ⟨#[]⟩, .slice none 0 0, .slice none 0 0, .slice none 0 0, .int .i64 0] 29)
  have hsW := size_alloc2 w (.cells #[.int .i64 k, .int .i64 h, .string t, .slice la nl cl, .slice ka nk ck, .slice va nv cv] 26)
    (.cells #[.int .i64 0, .int .i64 0, .string ⟨#[]⟩, .slice none 0 0, .slice none 0 0, .slice none 0 0, .int .i64 0] 29)
  refine (Ta.out _ (Hbel.out.trans (hbW.mono hB)) (by rw [hsW]; omega)).mono ?_
  generalize (w.alloc _).alloc _ = W at *
  rintro e w1 ⟨x, rfl, jx, hw1⟩
  have hs1 : w.heap.size + 2 ≤ w1.heap.size := by have := hw1.size; omega
  have y2 := (hw1.block (w.heap.size + 1) (by omega)).trans h0
  have hb1 : Below w.heap.size w w1 := hbW.trans (hw1.mono (by omega))
  have fx := jx.form
  have Z := Lib.hid (Hz.out _ _ (jx.mono (fun k hk => hk.2)))
  clear jx
  rcases fx with rfl | ⟨tx, x, rfl⟩
  all_goals
    go_wp2_with fail
    refine Z.out.mono ?_
    rintro e w3 ⟨u, rfl, hfu, hu, hw3⟩
    have hs3 : w.heap.size + 2 ≤ w3.heap.size := by have := hw3.size; omega
    have z3 := (hw3.block (w.heap.size + 1) (by omega)).trans y2
    have hb3 : Below w.heap.size w w3 := hb1.trans (hw3.mono (by omega))
    have U := Lib.hid hu
    clear hu
    rcases hfu with rfl | ⟨tu, u, rfl⟩
    all_goals
      go_wp2_with fail
      refine U.out.mono ?_
      rintro e w4 ⟨k, h, t, la, ka, va, nl, cl, nk, ck, nv, cv, n, rfl, hR, hw4⟩
      have hs4 : w.heap.size + 2 ≤ w4.heap.size := by have := hw4.size; omega
      have z4 := (hw4.block (w.heap.size + 1) (by omega)).trans z3
      obtain ⟨e0, e1, e2, e3, e4, e5, e6⟩ := of_block7 z4
      obtain ⟨f0, f1, f2, f3, f4, f5, f6⟩ := free_block7 z4
      have Hst := Lib.hid (resQ_store (z := w.heap.size + 1) (by omega) (by omega) hb3 hw4 hR)
      clear hR
      go_wp2_with fail
      refine bodyPost_ret (v := .agg #[.int .i64 k, .int .i64 h, .string t, .slice la nl cl, .slice ka nk ck, .slice va nv cv, .int .i64 n]) ?_ rfl Hst.out
      exact results_cell_row (p := 2) (ty := 29) rfl _ _ (w.heap.size + 1) 29 _ (0, 0) _ rfl (set_row7 z4 _ _ _ _ _ _ _) Tryz.underlying29 rfl (by kernel_rfl)
set_option maxRecDepth 100000 in
theorem step_ZzUnique {t : TypeId} {y : Value} {w : World} {R : Value → World → Prop} (h : Calls Tryz.prog 38 #[.iface t y] w (Ret R)) : Calls Tryz.prog 23 #[.iface t y] w (Ret R) := by
  have H := Lib.hid h; clear h
  go_enter Tryz.func23, Tryz.ntmps23
  go_wp2_with fail
  refine H.out.mono ?_
  rintro e w2 ⟨v, rfl, hv⟩
  have Hv := Lib.hid hv
  clear hv
  go_wp2_with fail
  go_ret
  exact ⟨_, rfl, Hv.out⟩
set_option maxRecDepth 100000 in
theorem step_funcUnique {t : TypeId} {y : Value} {w : World} {R : Value → World → Prop} (h : Calls Tryz.prog 49 #[.string ⟨#[117, 110, 105, 113, 117, 101]⟩, .iface t y, .iface t y] w (Ret R)) : Calls Tryz.prog 38 #[.iface t y] w (Ret R) := by
  have H := Lib.hid h; clear h
  go_enter Tryz.func38, Tryz.ntmps38
  go_wp2_with fail
  refine H.out.mono ?_
  rintro e w2 ⟨v, rfl, hv⟩
  have Hv := Lib.hid hv
  clear hv
  go_wp2_with fail
  go_ret
  exact ⟨_, rfl, Hv.out⟩
set_option maxHeartbeats 1000000 in
set_option maxRecDepth 100000 in
theorem implMin_walk {w0 : World} {B : Nat} {a : V} {ca : List Value} (ha : RepV w0 B a ca) (an : Ans) (ta : ToGoOK w0 B a ca)
    (hz : ∀ w x, RepJ w (fun k => k < w.heap.size) (toJ a) x → Calls Tryz.prog 25 #[x] w (Ret (SubR w an)))
    (w : World) (hbel : Below B w0 w) (hB : B ≤ w.heap.size) : Calls Tryz.prog 12 #[.agg ca.toArray] w (ResQ w an) := by
  have Ta := Lib.hid ta; clear ta
  have Hz := Lib.hid hz; clear hz
  have Hbel := Lib.hid hbel; clear hbel
  obtain ⟨k, h, t, la, ka, va, nl, cl, nk, ck, nv, cv, rfl⟩ := ha.shape
  clear ha
  go_enter Tryz.func12, Tryz.ntmps12
  go_wp2_with fail
  have h0 := at_alloc2 w (.cells #[.int .i64 k, .int .i64 h, .string t, .slice la nl cl, .slice ka nk ck, .slice va nv cv] 26)
    (.cells #[.int .i64 0, .int .i64 0, .string ⟨#[]⟩, .slice none 0 0, .slice none 0 0, .slice none 0 0, .int .i64 0] 29)
  have hbW := below_alloc2 w (.cells #[.int .i64 k, .int .i64 h, .string t, .slice la nl cl, .slice ka nk ck, .slice va nv cv] 26)
    (.cells #[.int .i64 0, .int .i64 0, .string ⟨#[]⟩, .slice none 0 0, .slice none 0 0, .slice none 0 0, .int .i64 0] 29)
  have hsW := size_alloc2 w (.cells #[.int .i64 k, .int .i64 h, .string t, .slice la nl cl, .slice ka nk ck, .slice va nv cv] 26)
    (.cells #[.int .i64 0, .int .i64 0, .string ⟨#[]⟩, .slice none 0 0, .slice none 0 0, .slice none 0 0, .int .i64 0] 29)
  refine (Ta.out _ (Hbel.out.trans (hbW.mono hB)) (by rw [hsW]; omega)).mono ?_
  generalize (w.alloc _).alloc _ = W at *
  rintro e w1 ⟨x, rfl, jx, hw1⟩
  have hs1 : w.heap.size + 2 ≤ w1.heap.size := by have := hw1.size; omega
  have y2 := (hw1.block (w.heap.size + 1) (by omega)).trans h0
  have hb1 : Below w.heap.size w w1 := hbW.trans (hw1.mono (by omega))
  have fx := jx.form
  have Z := Lib.hid (Hz.out _ _ (jx.mono (fun k hk => hk.2)))
  clear jx
  rcases fx with rfl | ⟨tx, x, rfl⟩
  all_goals
    go_wp2_with fail
    refine Z.out.mono ?_
    rintro e w3 ⟨u, rfl, hfu, hu, hw3⟩
    have hs3 : w.heap.size + 2 ≤ w3.heap.size := by have := hw3.size; omega
    have z3 := (hw3.block (w.heap.size + 1) (by omega)).trans y2
    have hb3 : Below w.heap.size w w3 := hb1.trans (hw3.mono (by omega))
    have U := Lib.hid hu
    clear hu
    rcases hfu with rfl | ⟨tu, u, rfl⟩
    all_goals
      go_wp2_with fail
      refine U.out.mono ?_
      rintro e w4 ⟨k, h, t, la, ka, va, nl, cl, nk, ck, nv, cv, n, rfl, hR, hw4⟩
      have hs4 : w.heap.size + 2 ≤ w4.heap.size := by have := hw4.size; omega
      have z4 := (hw4.block (w.heap.size + 1) (by omega)).trans z3
      obtain ⟨e0, e1, e2, e3, e4, e5, e6⟩ := of_block7 z4
      obtain ⟨f0, f1, f2, f3, f4, f5, f6⟩ := free_block7 z4
      have Hst := Lib.hid (resQ_store (z := w.heap.size + 1) (by omega) (by omega) hb3 hw4 hR)
      clear hR
      go_wp2_with fail
      refine bodyPost_ret (v := .agg #[.int .i64 k, .int .i64 h, .string t, .slice la nl cl, .slice ka nk ck, .slice va nv cv, .int .i64 n]) ?_ rfl Hst.out
      exact results_cell_row (p := 2) (ty := 29) rfl _ _ (w.heap.size + 1) 29 _ (0, 0) _ rfl (set_row7 z4 _ _ _ _ _ _ _) Tryz.underlying29 rfl (by kernel_rfl)
set_option maxRecDepth 100000 in
theorem step_ZzMin {t : TypeId} {y : Value} {w : World} {R : Value → World → Prop} (h : Calls Tryz.prog 40 #[.iface t y] w (Ret R)) : Calls Tryz.prog 25 #[.iface t y] w (Ret R) := by
  have H := Lib.hid h; clear h
  go_enter Tryz.func25, Tryz.ntmps25
  go_wp2_with fail
  refine H.out.mono ?_
  rintro e w2 ⟨v, rfl, hv⟩
  have Hv := Lib.hid hv
  clear hv
  go_wp2_with fail
  go_ret
  exact ⟨_, rfl, Hv.out⟩
set_option maxHeartbeats 1000000 in
set_option maxRecDepth 100000 in
theorem implMax_walk {w0 : World} {B : Nat} {a : V} {ca : List Value} (ha : RepV w0 B a ca) (an : Ans) (ta : ToGoOK w0 B a ca)
    (hz : ∀ w x, RepJ w (fun k => k < w.heap.size) (toJ a) x → Calls Tryz.prog 27 #[x] w (Ret (SubR w an)))
    (w : World) (hbel : Below B w0 w) (hB : B ≤ w.heap.size) : Calls Tryz.prog 14 #[.agg ca.toArray] w (ResQ w an) := by
  have Ta := Lib.hid ta; clear ta
  have Hz := Lib.hid hz; clear hz
  have Hbel := Lib.hid hbel; clear hbel
  obtain ⟨k, h, t, la, ka, va, nl, cl, nk, ck, nv, cv, rfl⟩ := ha.shape
  clear ha
  go_enter Tryz.func14, Tryz.ntmps14
  go_wp2_with fail
  have h0 := at_alloc2 w (.cells #[.int .i64 k, .int .i64 h, .string t, .slice la nl cl, .slice ka nk ck, .slice va nv cv] 26)
    (.cells #[.int .i64 0, .int .i64 0, .string ⟨#[]⟩, .slice none 0 0, .slice none 0 0, .slice none 0 0, .int .i64 0] 29)
  have hbW := below_alloc2 w (.cells #[.int .i64 k, .int .i64 h, .string t, .slice la nl cl, .slice ka nk ck, .slice va nv cv] 26)
    (.cells #[.int .i64 0, .int .i64 0, .string ⟨#[]⟩, .slice none 0 0, .slice none 0 0, .slice none 0 0, .int .i64 0] 29)
  have hsW := size_alloc2 w (.cells #[.int .i64 k, .int .i64 h, .string t, .slice la nl cl, .slice ka nk ck, .slice va nv cv] 26)
    (.cells #[.int .i64 0, .int .i64 0, .string ⟨#[]⟩, .slice none 0 0, .slice none 0 0, .slice none 0 0, .int .i64 0] 29)
  refine (Ta.out _ (Hbel.out.trans (hbW.mono hB)) (by rw [hsW]; omega)).mono ?_
  generalize (w.alloc _).alloc _ = W at *
  rintro e w1 ⟨x, rfl, jx, hw1⟩
  have hs1 : w.heap.size + 2 ≤ w1.heap.size := by have := hw1.size; omega
  have y2 := (hw1.block (w.heap.size + 1) (by omega)).trans h0
  have hb1 : Below w.heap.size w w1 := hbW.trans (hw1.mono (by omega))
  have fx := jx.form
  have Z := Lib.hid (Hz.out _ _ (jx.mono (fun k hk => hk.2)))
  clear jx
  rcases fx with rfl | ⟨tx, x, rfl⟩
  all_goals
    go_wp2_with fail
    refine Z.out.mono ?_
    rintro e w3 ⟨u, rfl, hfu, hu, hw3⟩
    have hs3 : w.heap.size + 2 ≤ w3.heap.size := by have := hw3.size; omega
    have z3 := (hw3.block (w.heap.size + 1) (by omega)).trans y2
    have hb3 : Below w.heap.size w w3 := hb1.trans (hw3.mono (by omega))
    have U := Lib.hid hu
    clear hu
    rcases hfu with rfl | ⟨tu, u, rfl⟩
    all_goals
      go_wp2_with fail
      refine U.out.mono ?_
      rintro e w4 ⟨k, h, t, la, ka, va, nl, cl, nk, ck, nv, cv, n, rfl, hR, hw4⟩
      have hs4 : w.heap.size + 2 ≤ w4.heap.size := by have := hw4.size; omega
      have z4 := (hw4.block (w.heap.size + 1) (by omega)).trans z3
      obtain ⟨e0, e1, e2, e3, e4, e5, e6⟩ := of_block7 z4
      obtain ⟨f0, f1, f2, f3, f4, f5, f6⟩ := free_block7 z4
      have Hst := Lib.hid (resQ_store (z := w.heap.size + 1) (by omega) (by omega) hb3 hw4 hR)
      clear hR
      go_wp2_with fail
      refine bodyPost_ret (v := .agg #[.int .i64 k, .int .i64 h, .string t, .slice la nl cl, .slice ka nk ck, .slice va nv cv, .int .i64 n]) ?_ rfl Hst.out
      exact results_cell_row (p := 2) (ty := 29) rfl _ _ (w.heap.size + 1) 29 _ (0, 0) _ rfl (set_row7 z4 _ _ _ _ _ _ _) Tryz.underlying29 rfl (by kernel_rfl)
set_option maxRecDepth 100000 in
theorem step_ZzMax {t : TypeId} {y : Value} {w : World} {R : Value → World → Prop} (h : Calls Tryz.prog 42 #[.iface t y] w (Ret R)) : Calls Tryz.prog 27 #[.iface t y] w (Ret R) := by
  have H := Lib.hid h; clear h
  go_enter Tryz.func27, Tryz.ntmps27
  go_wp2_with fail
  refine H.out.mono ?_
  rintro e w2 ⟨v, rfl, hv⟩
  have Hv := Lib.hid hv
  clear hv
  go_wp2_with fail
  go_ret
  exact ⟨_, rfl, Hv.out⟩
end Go.Proofs.YtpaebanmaboaiaaGreatDoor

namespace Go.Proofs.YtpaebanmaboaiaaGreatDoor
open Go Go.RowKit Go.Deep
set_option maxHeartbeats 1000000 in
set_option maxRecDepth 100000 in
theorem implSortBy_walk {w0 : World} {B : Nat} {a b : V} {ca cb : List Value} (ha : RepV w0 B a ca) (hb : RepV w0 B b cb) (an : Ans)
    (ta : ToGoOK w0 B a ca) (tb : ToGoOK w0 B b cb)
    (hz : ∀ w x y, RepJ w (fun k => k < w.heap.size) (toJ a) x → RepJ w (fun k => k < w.heap.size) (toJ b) y → Calls Tryz.prog 21 #[x, y] w (Ret (SubR w an)))
    (w : World) (hbel : Below B w0 w) (hB : B ≤ w.heap.size) : Calls Tryz.prog 8 #[.agg ca.toArray, .agg cb.toArray] w (ResQ w an) := by
  have Ta := Lib.hid ta; clear ta
  have Tb := Lib.hid tb; clear tb
  have Hz := Lib.hid hz; clear hz
  have Hbel := Lib.hid hbel; clear hbel
  obtain ⟨k, h, t, la, ka, va, nl, cl, nk, ck, nv, cv, rfl⟩ := ha.shape
  obtain ⟨k', h', t', la', ka', va', nl', cl', nk', ck', nv', cv', rfl⟩ := hb.shape
  clear ha hb
  go_enter Tryz.func8, Tryz.ntmps8
  go_wp2_with fail
  have h0 := at_alloc3 w (.cells #[.int .i64 k, .int .i64 h, .string t, .slice la nl cl, .slice ka nk ck, .slice va nv cv] 26)
    (.cells #[.int .i64 k', .int .i64 h', .string t', .slice la' nl' cl', .slice ka' nk' ck', .slice va' nv' cv'] 26)
    (.cells #[.int .i64 0, .int .i64 0, .string ⟨#[]⟩, .slice none 0 0, .slice none 0 0, .slice none 0 0, .int .i64 0] 29)
  obtain ⟨hbW, hsW, hx1, hx2⟩ := h0
  refine (Ta.out _ (Hbel.out.trans (hbW.mono hB)) (by rw [hsW]; omega)).mono ?_
  generalize ((w.alloc _).alloc _).alloc _ = W at *
  rintro e w1 ⟨x, rfl, jx, hw1⟩
  have hs1 : w.heap.size + 3 ≤ w1.heap.size := by have := hw1.size; omega
  have y1 := (hw1.block (w.heap.size + 1) (by omega)).trans hx1
  have y2 := (hw1.block (w.heap.size + 1 + 1) (by omega)).trans hx2
  have hb1 : Below w.heap.size w w1 := hbW.trans (hw1.mono (by omega))
  obtain ⟨e0, e1, e2, e3, e4, e5⟩ := of_block6 y1
  have fx := jx.form
  have Jx := Lib.hid jx; clear jx
  have Hw1 := Lib.hid hw1; clear hw1
  go_wp2_with fail
  refine (Tb.out _ (Hbel.out.trans (hb1.mono hB)) (by omega)).mono ?_
  rintro e w2 ⟨y, rfl, jy, hw2⟩
  have hs2 : w.heap.size + 3 ≤ w2.heap.size := by have := hw2.size; omega
  have z2 := (hw2.block (w.heap.size + 1 + 1) (by omega)).trans y2
  have hb2 : Below w.heap.size w w2 := hb1.trans (hw2.mono (by omega))
  have jx2 := Jx.out.under hw2 (fun k hk => hk.2)
  have fy := jy.form
  have Z := Lib.hid (Hz.out _ _ _ (jx2.mono (fun k hk => by have := hk.2; have := hw2.size; omega)) (jy.mono (fun k hk => hk.2)))
  clear jx2 jy Jx
  rcases fx with rfl | ⟨tx, x, rfl⟩ <;> rcases fy with rfl | ⟨ty, y, rfl⟩
  all_goals
    go_wp2_with fail
    refine Z.out.mono ?_
    rintro e w3 ⟨u, rfl, hfu, hu, hw3⟩
    have hs3 : w.heap.size + 3 ≤ w3.heap.size := by have := hw3.size; omega
    have z3 := (hw3.block (w.heap.size + 1 + 1) (by omega)).trans z2
    have hb3 : Below w.heap.size w w3 := hb2.trans (hw3.mono (by omega))
    have U := Lib.hid hu
    clear hu
    rcases hfu with rfl | ⟨tu, u, rfl⟩
    all_goals
      go_wp2_with fail
      refine U.out.mono ?_
      rintro e w4 ⟨k, h, t, la, ka, va, nl, cl, nk, ck, nv, cv, n, rfl, hR, hw4⟩
      have hs4 : w.heap.size + 3 ≤ w4.heap.size := by have := hw4.size; omega
      have z4 := (hw4.block (w.heap.size + 1 + 1) (by omega)).trans z3
      obtain ⟨e0, e1, e2, e3, e4, e5, e6⟩ := of_block7 z4
      obtain ⟨f0, f1, f2, f3, f4, f5, f6⟩ := free_block7 z4
      have Hst := Lib.hid (resQ_store (z := w.heap.size + 1 + 1) (by omega) (by omega) hb3 hw4 hR)
      clear hR
      go_wp2_with fail
      refine bodyPost_ret (v := .agg #[.int .i64 k, .int .i64 h, .string t, .slice la nl cl, .slice ka nk ck, .slice va nv cv, .int .i64 n]) ?_ rfl Hst.out
      exact results_cell_row (p := 4) (ty := 29) rfl _ _ (w.heap.size + 1 + 1) 29 _ (0, 0) _ rfl (set_row7 z4 _ _ _ _ _ _ _) Tryz.underlying29 rfl (by kernel_rfl)
set_option maxRecDepth 100000 in
theorem step_ZzSortBy {t t' : TypeId} {y y' : Value} {w : World} {R : Value → World → Prop} (h : Calls Tryz.prog 36 #[.iface t y, .iface t' y'] w (Ret R)) : Calls Tryz.prog 21 #[.iface t y, .iface t' y'] w (Ret R) := by
  have H := Lib.hid h; clear h
  go_enter Tryz.func21, Tryz.ntmps21
  go_wp2_with fail
  refine H.out.mono ?_
  rintro e w2 ⟨v, rfl, hv⟩
  have Hv := Lib.hid hv
  clear hv
  go_wp2_with fail
  go_ret
  exact ⟨_, rfl, Hv.out⟩
set_option maxRecDepth 100000 in
theorem step_funcSortBy {t t' : TypeId} {y y' : Value} {w : World} {R : Value → World → Prop} (h : Calls Tryz.prog 47 #[.string ⟨#[115, 111, 114, 116, 95, 98, 121]⟩, .iface t y, .iface t' y'] w (Ret R)) : Calls Tryz.prog 36 #[.iface t y, .iface t' y'] w (Ret R) := by
  have H := Lib.hid h; clear h
  go_enter Tryz.func36, Tryz.ntmps36
  go_wp2_with fail
  refine H.out.mono ?_
  rintro e w2 ⟨v, rfl, hv⟩
  have Hv := Lib.hid hv
  clear hv
  go_wp2_with fail
  go_ret
  exact ⟨_, rfl, Hv.out⟩
set_option maxHeartbeats 1000000 in
set_option maxRecDepth 100000 in
theorem implUniqueBy_walk {w0 : World} {B : Nat} {a b : V} {ca cb : List Value} (ha : RepV w0 B a ca) (hb : RepV w0 B b cb) (an : Ans)
    (ta : ToGoOK w0 B a ca) (tb : ToGoOK w0 B b cb)
    (hz : ∀ w x y, RepJ w (fun k => k < w.heap.size) (toJ a) x → RepJ w (fun k => k < w.heap.size) (toJ b) y → Calls Tryz.prog 22 #[x, y] w (Ret (SubR w an)))
    (w : World) (hbel : Below B w0 w) (hB : B ≤ w.heap.size) : Calls Tryz.prog 9 #[.agg ca.toArray, .agg cb.toArray] w (ResQ w an) := by
  have Ta := Lib.hid ta; clear ta
  have Tb := Lib.hid tb; clear tb
  have Hz := Lib.hid hz; clear hz
  have Hbel := Lib.hid hbel; clear hbel
  obtain ⟨k, h, t, la, ka, va, nl, cl, nk, ck, nv, cv, rfl⟩ := ha.shape
  obtain ⟨k', h', t', la', ka', va', nl', cl', nk', ck', nv', cv', rfl⟩ := hb.shape
  clear ha hb
  go_enter Tryz.func9, Tryz.ntmps9
  go_wp2_with fail
  have h0 := at_alloc3 w (.cells #[.int .i64 k, .int .i64 h, .string t, .slice la nl cl, .slice ka nk ck, .slice va nv cv] 26)
    (.cells #[.int .i64 k', .int .i64 h', .string t', .slice la' nl' cl', .slice ka' nk' ck', .slice va' nv' cv'] 26)
    (.cells #[.int .i64 0, .int .i64 0, .string ⟨#[]⟩, .slice none 0 0, .slice none 0 0, .slice none 0 0, .int .i64 0] 29)
  obtain ⟨hbW, hsW, hx1, hx2⟩ := h0
  refine (Ta.out _ (Hbel.out.trans (hbW.mono hB)) (by rw [hsW]; omega)).mono ?_
  generalize ((w.alloc _).alloc _).alloc _ = W at *
  rintro e w1 ⟨x, rfl, jx, hw1⟩
  have hs1 : w.heap.size + 3 ≤ w1.heap.size := by have := hw1.size; omega
  have y1 := (hw1.block (w.heap.size + 1) (by omega)).trans hx1
  have y2 := (hw1.block (w.heap.size + 1 + 1) (by omega)).trans hx2
  have hb1 : Below w.heap.size w w1 := hbW.trans (hw1.mono (by omega))
  obtain ⟨e0, e1, e2, e3, e4, e5⟩ := of_block6 y1
  have fx := jx.form
  have Jx := Lib.hid jx; clear jx
  have Hw1 := Lib.hid hw1; clear hw1
  go_wp2_with fail
  refine (Tb.out _ (Hbel.out.trans (hb1.mono hB)) (by omega)).mono ?_
  rintro e w2 ⟨y, rfl, jy, hw2⟩
  have hs2 : w.heap.size + 3 ≤ w2.heap.size := by have := hw2.size; omega
  have z2 := (hw2.block (w.heap.size + 1 + 1) (by omega)).trans y2
  have hb2 : Below w.heap.size w w2 := hb1.trans (hw2.mono (by omega))
  have jx2 := Jx.out.under hw2 (fun k hk => hk.2)
  have fy := jy.form
  have Z := Lib.hid (Hz.out _ _ _ (jx2.mono (fun k hk => by have := hk.2; have := hw2.size; omega)) (jy.mono (fun k hk => hk.2)))
  clear jx2 jy Jx
  rcases fx with rfl | ⟨tx, x, rfl⟩ <;> rcases fy with rfl | ⟨ty, y, rfl⟩
  all_goals
    go_wp2_with fail
    refine Z.out.mono ?_
    rintro e w3 ⟨u, rfl, hfu, hu, hw3⟩
    have hs3 : w.heap.size + 3 ≤ w3.heap.size := by have := hw3.size; omega
    have z3 := (hw3.block (w.heap.size + 1 + 1) (by omega)).trans z2
    have hb3 : Below w.heap.size w w3 := hb2.trans (hw3.mono (by omega))
    have U := Lib.hid hu
    clear hu
    rcases hfu with rfl | ⟨tu, u, rfl⟩
    all_goals
      go_wp2_with fail
      refine U.out.mono ?_
      rintro e w4 ⟨k, h, t, la, ka, va, nl, cl, nk, ck, nv, cv, n, rfl, hR, hw4⟩
      have hs4 : w.heap.size + 3 ≤ w4.heap.size := by have := hw4.size; omega
      have z4 := (hw4.block (w.heap.size + 1 + 1) (by omega)).trans z3
      obtain ⟨e0, e1, e2, e3, e4, e5, e6⟩ := of_block7 z4
      obtain ⟨f0, f1, f2, f3, f4, f5, f6⟩ := free_block7 z4
      have Hst := Lib.hid (resQ_store (z := w.heap.size + 1 + 1) (by omega) (by omega) hb3 hw4 hR)
      clear hR
      go_wp2_with fail
      refine bodyPost_ret (v := .agg #[.int .i64 k, .int .i64 h, .string t, .slice la nl cl, .slice ka nk ck, .slice va nv cv, .int .i64 n]) ?_ rfl Hst.out
      exact results_cell_row (p := 4) (ty := 29) rfl _ _ (w.heap.size + 1 + 1) 29 _ (0, 0) _ rfl (set_row7 z4 _ _ _ _ _ _ _) Tryz.underlying29 rfl (by kernel_rfl)
set_option maxRecDepth 100000 in
theorem step_ZzUniqueBy {t t' : TypeId} {y y' : Value} {w : World} {R : Value → World → Prop} (h : Calls Tryz.prog 37 #[.iface t y, .iface t' y'] w (Ret R)) : Calls Tryz.prog 22 #[.iface t y, .iface t' y'] w (Ret R) := by
  have H := Lib.hid h; clear h
  go_enter Tryz.func22, Tryz.ntmps22
  go_wp2_with fail
  refine H.out.mono ?_
  rintro e w2 ⟨v, rfl, hv⟩
  have Hv := Lib.hid hv
  clear hv
  go_wp2_with fail
  go_ret
  exact ⟨_, rfl, Hv.out⟩
set_option maxRecDepth 100000 in
theorem step_funcUniqueBy {t t' : TypeId} {y y' : Value} {w : World} {R : Value → World → Prop} (h : Calls Tryz.prog 49 #[.string ⟨#[117, 110, 105, 113, 117, 101, 95, 98, 121]⟩, .iface t y, .iface t' y'] w (Ret R)) : Calls Tryz.prog 37 #[.iface t y, .iface t' y'] w (Ret R) := by
  have H := Lib.hid h; clear h
  go_enter Tryz.func37, Tryz.ntmps37
  go_wp2_with fail
  refine H.out.mono ?_
  rintro e w2 ⟨v, rfl, hv⟩
  have Hv := Lib.hid hv
  clear hv
  go_wp2_with fail
  go_ret
  exact ⟨_, rfl, Hv.out⟩
set_option maxHeartbeats 1000000 in
set_option maxRecDepth 100000 in
theorem implMinBy_walk {w0 : World} {B : Nat} {a b : V} {ca cb : List Value} (ha : RepV w0 B a ca) (hb : RepV w0 B b cb) (an : Ans)
    (ta : ToGoOK w0 B a ca) (tb : ToGoOK w0 B b cb)
    (hz : ∀ w x y, RepJ w (fun k => k < w.heap.size) (toJ a) x → RepJ w (fun k => k < w.heap.size) (toJ b) y → Calls Tryz.prog 24 #[x, y] w (Ret (SubR w an)))
    (w : World) (hbel : Below B w0 w) (hB : B ≤ w.heap.size) : Calls Tryz.prog 11 #[.agg ca.toArray, .agg cb.toArray] w (ResQ w an) := by
  have Ta := Lib.hid ta; clear ta
  have Tb := Lib.hid tb; clear tb
  have Hz := Lib.hid hz; clear hz
  have Hbel := Lib.hid hbel; clear hbel
  obtain ⟨k, h, t, la, ka, va, nl, cl, nk, ck, nv, cv, rfl⟩ := ha.shape
  obtain ⟨k', h', t', la', ka', va', nl', cl', nk', ck', nv', cv', rfl⟩ := hb.shape
  clear ha hb
  go_enter Tryz.func11, Tryz.ntmps11
  go_wp2_with fail
  have h0 := at_alloc3 w (.cells #[.int .i64 k, .int .i64 h, .string t, .slice la nl cl, .slice ka nk ck, .slice va nv cv] 26)
    (.cells #[.int .i64 k', .int .i64 h', .string t', .slice la' nl' cl', .slice ka' nk' ck', .slice va' nv' cv'] 26)
    (.cells #[.int .i64 0, .int .i64 0, .string ⟨#[]⟩, .slice none 0 0, .slice none 0 0, .slice none 0 0, .int .i64 0] 29)
  obtain ⟨hbW, hsW, hx1, hx2⟩ := h0
  refine (Ta.out _ (Hbel.out.trans (hbW.mono hB)) (by rw [hsW]; omega)).mono ?_
  generalize ((w.alloc _).alloc _).alloc _ = W at *
  rintro e w1 ⟨x, rfl, jx, hw1⟩
  have hs1 : w.heap.size + 3 ≤ w1.heap.size := by have := hw1.size; omega
  have y1 := (hw1.block (w.heap.size + 1) (by omega)).trans hx1
  have y2 := (hw1.block (w.heap.size + 1 + 1) (by omega)).trans hx2
  have hb1 : Below w.heap.size w w1 := hbW.trans (hw1.mono (by omega))
  obtain ⟨e0, e1, e2, e3, e4, e5⟩ := of_block6 y1
  have fx := jx.form
  have Jx := Lib.hid jx; clear jx
  have Hw1 := Lib.hid hw1; clear hw1
  go_wp2_with fail
  refine (Tb.out _ (Hbel.out.trans (hb1.mono hB)) (by omega)).mono ?_
  rintro e w2 ⟨y, rfl, jy, hw2⟩
  have hs2 : w.heap.size + 3 ≤ w2.heap.size := by have := hw2.size; omega
  have z2 := (hw2.block (w.heap.size + 1 + 1) (by omega)).trans y2
  have hb2 : Below w.heap.size w w2 := hb1.trans (hw2.mono (by omega))
  have jx2 := Jx.out.under hw2 (fun k hk => hk.2)
  have fy := jy.form
  have Z := Lib.hid (Hz.out _ _ _ (jx2.mono (fun k hk => by have := hk.2; have := hw2.size; omega)) (jy.mono (fun k hk => hk.2)))
  clear jx2 jy Jx
  rcases fx with rfl | ⟨tx, x, rfl⟩ <;> rcases fy with rfl | ⟨ty, y, rfl⟩
  all_goals
    go_wp2_with fail
    refine Z.out.mono ?_
    rintro e w3 ⟨u, rfl, hfu, hu, hw3⟩
    have hs3 : w.heap.size + 3 ≤ w3.heap.size := by have := hw3.size; omega
    have z3 := (hw3.block (w.heap.size + 1 + 1) (by omega)).trans z2
    have hb3 : Below w.heap.size w w3 := hb2.trans (hw3.mono (by omega))
    have U := Lib.hid hu
    clear hu
    rcases hfu with rfl | ⟨tu, u, rfl⟩
    all_goals
      go_wp2_with fail
      refine U.out.mono ?_
      rintro e w4 ⟨k, h, t, la, ka, va, nl, cl, nk, ck, nv, cv, n, rfl, hR, hw4⟩
      have hs4 : w.heap.size + 3 ≤ w4.heap.size := by have := hw4.size; omega
      have z4 := (hw4.block (w.heap.size + 1 + 1) (by omega)).trans z3
      obtain ⟨e0, e1, e2, e3, e4, e5, e6⟩ := of_block7 z4
      obtain ⟨f0, f1, f2, f3, f4, f5, f6⟩ := free_block7 z4
      have Hst := Lib.hid (resQ_store (z := w.heap.size + 1 + 1) (by omega) (by omega) hb3 hw4 hR)
      clear hR
      go_wp2_with fail
      refine bodyPost_ret (v := .agg #[.int .i64 k, .int .i64 h, .string t, .slice la nl cl, .slice ka nk ck, .slice va nv cv, .int .i64 n]) ?_ rfl Hst.out
      exact results_cell_row (p := 4) (ty := 29) rfl _ _ (w.heap.size + 1 + 1) 29 _ (0, 0) _ rfl (set_row7 z4 _ _ _ _ _ _ _) Tryz.underlying29 rfl (by kernel_rfl)
set_option maxRecDepth 100000 in
theorem step_ZzMinBy {t t' : TypeId} {y y' : Value} {w : World} {R : Value → World → Prop} (h : Calls Tryz.prog 39 #[.iface t y, .iface t' y'] w (Ret R)) : Calls Tryz.prog 24 #[.iface t y, .iface t' y'] w (Ret R) := by
  have H := Lib.hid h; clear h
  go_enter Tryz.func24, Tryz.ntmps24
  go_wp2_with fail
  refine H.out.mono ?_
  rintro e w2 ⟨v, rfl, hv⟩
  have Hv := Lib.hid hv
  clear hv
  go_wp2_with fail
  go_ret
  exact ⟨_, rfl, Hv.out⟩
set_option maxHeartbeats 1000000 in
set_option maxRecDepth 100000 in
theorem implMaxBy_walk {w0 : World} {B : Nat} {a b : V} {ca cb : List Value} (ha : RepV w0 B a ca) (hb : RepV w0 B b cb) (an : Ans)
    (ta : ToGoOK w0 B a ca) (tb : ToGoOK w0 B b cb)
    (hz : ∀ w x y, RepJ w (fun k => k < w.heap.size) (toJ a) x → RepJ w (fun k => k < w.heap.size) (toJ b) y → Calls Tryz.prog 26 #[x, y] w (Ret (SubR w an)))
    (w : World) (hbel : Below B w0 w) (hB : B ≤ w.heap.size) : Calls Tryz.prog 13 #[.agg ca.toArray, .agg cb.toArray] w (ResQ w an) := by
  have Ta := Lib.hid ta; clear ta
  have Tb := Lib.hid tb; clear tb
  have Hz := Lib.hid hz; clear hz
  have Hbel := Lib.hid hbel; clear hbel
  obtain ⟨k, h, t, la, ka, va, nl, cl, nk, ck, nv, cv, rfl⟩ := ha.shape
  obtain ⟨k', h', t', la', ka', va', nl', cl', nk', ck', nv', cv', rfl⟩ := hb.shape
  clear ha hb
  go_enter Tryz.func13, Tryz.ntmps13
  go_wp2_with fail
  have h0 := at_alloc3 w (.cells #[.int .i64 k, .int .i64 h, .string t, .slice la nl cl, .slice ka nk ck, .slice va nv cv] 26)
    (.cells #[.int .i64 k', .int .i64 h', .string t', .slice la' nl' cl', .slice ka' nk' ck', .slice va' nv' cv'] 26)
    (.cells #[.int .i64 0, .int .i64 0, .string ⟨#[]⟩, .slice none 0 0, .slice none 0 0, .slice none 0 0, .int .i64 0] 29)
  obtain ⟨hbW, hsW, hx1, hx2⟩ := h0
  refine (Ta.out _ (Hbel.out.trans (hbW.mono hB)) (by rw [hsW]; omega)).mono ?_
  generalize ((w.alloc _).alloc _).alloc _ = W at *
  rintro e w1 ⟨x, rfl, jx, hw1⟩
  have hs1 : w.heap.size + 3 ≤ w1.heap.size := by have := hw1.size; omega
  have y1 := (hw1.block (w.heap.size + 1) (by omega)).trans hx1
  have y2 := (hw1.block (w.heap.size + 1 + 1) (by omega)).trans hx2
  have hb1 : Below w.heap.size w w1 := hbW.trans (hw1.mono (by omega))
  obtain ⟨e0, e1, e2, e3, e4, e5⟩ := of_block6 y1
  have fx := jx.form
  have Jx := Lib.hid jx; clear jx
  have Hw1 := Lib.hid hw1; clear hw1
  go_wp2_with fail
  refine (Tb.out _ (Hbel.out.trans (hb1.mono hB)) (by omega)).mono ?_
  rintro e w2 ⟨y, rfl, jy, hw2⟩
  have hs2 : w.heap.size + 3 ≤ w2.heap.size := by have := hw2.size; omega
  have z2 := (hw2.block (w.heap.size + 1 + 1) (by omega)).trans y2
  have hb2 : Below w.heap.size w w2 := hb1.trans (hw2.mono (by omega))
  have jx2 := Jx.out.under hw2 (fun k hk => hk.2)
  have fy := jy.form
  have Z := Lib.hid (Hz.out _ _ _ (jx2.mono (fun k hk => by have := hk.2; have := hw2.size; omega)) (jy.mono (fun k hk => hk.2)))
  clear jx2 jy Jx
  rcases fx with rfl | ⟨tx, x, rfl⟩ <;> rcases fy with rfl | ⟨ty, y, rfl⟩
  all_goals
    go_wp2_with fail
    refine Z.out.mono ?_
    rintro e w3 ⟨u, rfl, hfu, hu, hw3⟩
    have hs3 : w.heap.size + 3 ≤ w3.heap.size := by have := hw3.size; omega
    have z3 := (hw3.block (w.heap.size + 1 + 1) (by omega)).trans z2
    have hb3 : Below w.heap.size w w3 := hb2.trans (hw3.mono (by omega))
    have U := Lib.hid hu
    clear hu
    rcases hfu with rfl | ⟨tu, u, rfl⟩
    all_goals
      go_wp2_with fail
      refine U.out.mono ?_
      rintro e w4 ⟨k, h, t, la, ka, va, nl, cl, nk, ck, nv, cv, n, rfl, hR, hw4⟩
      have hs4 : w.heap.size + 3 ≤ w4.heap.size := by have := hw4.size; omega
      have z4 := (hw4.block (w.heap.size + 1 + 1) (by omega)).trans z3
      obtain ⟨e0, e1, e2, e3, e4, e5, e6⟩ := of_block7 z4
      obtain ⟨f0, f1, f2, f3, f4, f5, f6⟩ := free_block7 z4
      have Hst := Lib.hid (resQ_store (z := w.heap.size + 1 + 1) (by omega) (by omega) hb3 hw4 hR)
      clear hR
      go_wp2_with fail
      refine bodyPost_ret (v := .agg #[.int .i64 k, .int .i64 h, .string t, .slice la nl cl, .slice ka nk ck, .slice va nv cv, .int .i64 n]) ?_ rfl Hst.out
      exact results_cell_row (p := 4) (ty := 29) rfl _ _ (w.heap.size + 1 + 1) 29 _ (0, 0) _ rfl (set_row7 z4 _ _ _ _ _ _ _) Tryz.underlying29 rfl (by kernel_rfl)
set_option maxRecDepth 100000 in
theorem step_ZzMaxBy {t t' : TypeId} {y y' : Value} {w : World} {R : Value → World → Prop} (h : Calls Tryz.prog 41 #[.iface t y, .iface t' y'] w (Ret R)) : Calls Tryz.prog 26 #[.iface t y, .iface t' y'] w (Ret R) := by
  have H := Lib.hid h; clear h
  go_enter Tryz.func26, Tryz.ntmps26
  go_wp2_with fail
  refine H.out.mono ?_
  rintro e w2 ⟨v, rfl, hv⟩
  have Hv := Lib.hid hv
  clear hv
  go_wp2_with fail
  go_ret
  exact ⟨_, rfl, Hv.out⟩
end Go.Proofs.YtpaebanmaboaiaaGreatDoor
