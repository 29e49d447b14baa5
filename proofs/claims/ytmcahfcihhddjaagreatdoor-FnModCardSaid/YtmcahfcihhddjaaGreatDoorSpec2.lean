/- spec.rest at two numbers. -/
import Derived.Test.YtmcahfcihhddjaaGreatDoorSpec1
namespace Go.Proofs.YtmcahfcihhddjaaGreatDoor
open Go Go.RowKit

def WholeAt (w : World) (x : Int) (ok : Bool) (e : Ending) (w' : World) : Prop := e = .returned (.tuple #[.int .i64 x, .bool ok]) ∧ Below w.heap.size w w'

set_option maxHeartbeats 1000000 in
set_option maxRecDepth 100000 in
theorem rest_zero (h h' x : Int) (ok : Bool) (t t' : ByteArray) (la ka va la' ka' va' : Option Addr) (nl cl nk ck nv cv nl' cl' nk' ck' nv' cv' : Nat) 
    (wa : ∀ w, Calls Tryz.prog 33 #[.agg #[.int .i64 3, .int .i64 h, .string t, .slice la nl cl, .slice ka nk ck, .slice va nv cv]] w (WholeAt w x ok))
    (wb : ∀ w, Calls Tryz.prog 33 #[.agg #[.int .i64 3, .int .i64 h', .string t', .slice la' nl' cl', .slice ka' nk' ck', .slice va' nv' cv']] w (WholeAt w 0 true))
    (P : Value → Int → Prop) (hP : ∀ v, P v 1) (w : World) :
    Calls Tryz.prog 18 #[.agg #[.int .i64 3, .int .i64 h, .string t, .slice la nl cl, .slice ka nk ck, .slice va nv cv], .agg #[.int .i64 3, .int .i64 h', .string t', .slice la' nl' cl', .slice ka' nk' ck', .slice va' nv' cv']] w (HowAt w P) := by
  have WA := Lib.hid wa; clear wa
  have WB := Lib.hid wb; clear wb
  have HP := Lib.hid hP; clear hP
  go_enter Tryz.func18, Tryz.ntmps18
  go_wp2_with fail
  have h0 := at_alloc3 w (.cells #[.int .i64 3, .int .i64 h, .string t, .slice la nl cl, .slice ka nk ck, .slice va nv cv] 26)
    (.cells #[.int .i64 3, .int .i64 h', .string t', .slice la' nl' cl', .slice ka' nk' ck', .slice va' nv' cv'] 26)
    (.cells #[.int .i64 0, .int .i64 0, .string ⟨#[]⟩, .slice none 0 0, .slice none 0 0, .slice none 0 0] 26)
  obtain ⟨hbW, hsW, hx1, hx2⟩ := h0
  refine (WA.out _).mono ?_
  generalize ((w.alloc _).alloc _).alloc _ = W at *
  rintro e w1 ⟨rfl, hw1⟩
  have hs1 : w.heap.size + 3 ≤ w1.heap.size := by have := hw1.size; omega
  have y1 := (hw1.block (w.heap.size + 1) (by omega)).trans hx1
  have y2 := (hw1.block (w.heap.size + 1 + 1) (by omega)).trans hx2
  have hb1 : Below w.heap.size w w1 := hbW.trans (hw1.mono (by omega))
  obtain ⟨e0, e1, e2, e3, e4, e5⟩ := of_block6 y1
  have Hw1 := Lib.hid hw1; clear hw1
  go_wp2_with fail
  refine (WB.out _).mono ?_
  rintro e w2 ⟨rfl, hw2⟩
  have hs2 : w.heap.size + 3 ≤ w2.heap.size := by have := hw2.size; omega
  have z2 := (hw2.block (w.heap.size + 1 + 1) (by omega)).trans y2
  have hb2 : Below w.heap.size w w2 := hb1.trans (hw2.mono (by omega))
  obtain ⟨e0, e1, e2, e3, e4, e5⟩ := of_block6 z2
  obtain ⟨f0, f1, f2, f3, f4, f5⟩ := free_block6 z2
  have Hw2 := Lib.hid hw2; clear hw2
  go_wp2_with fail
  refine bodyPost_ret (results_row_tmp (p := 4) (u := 5) (ty := 26) rfl _ _ (w.heap.size + 1 + 1) 26 _ (0, 0) _ rfl (set_row6 z2 _ _ _ _ _ _) Tryz.underlying26 rfl (by kernel_rfl)) rfl
    ⟨_, _, _, _, _, _, _, _, _, _, _, _, _, rfl, HP.out _, below_set6 hb2 (by omega) _ _ _ _ _ _⟩

set_option maxHeartbeats 1000000 in
set_option maxRecDepth 100000 in
theorem rest_odd2 (h h' x y : Int) (ok : Bool) (t t' : ByteArray) (la ka va la' ka' va' : Option Addr) (nl cl nk ck nv cv nl' cl' nk' ck' nv' cv' : Nat) 
    (wa : ∀ w, Calls Tryz.prog 33 #[.agg #[.int .i64 3, .int .i64 h, .string t, .slice la nl cl, .slice ka nk ck, .slice va nv cv]] w (WholeAt w x ok))
    (wb : ∀ w, Calls Tryz.prog 33 #[.agg #[.int .i64 3, .int .i64 h', .string t', .slice la' nl' cl', .slice ka' nk' ck', .slice va' nv' cv']] w (WholeAt w y false))
    (P : Value → Int → Prop) (hP : ∀ v, P v 2) (w : World) :
    Calls Tryz.prog 18 #[.agg #[.int .i64 3, .int .i64 h, .string t, .slice la nl cl, .slice ka nk ck, .slice va nv cv], .agg #[.int .i64 3, .int .i64 h', .string t', .slice la' nl' cl', .slice ka' nk' ck', .slice va' nv' cv']] w (HowAt w P) := by
  have WA := Lib.hid wa; clear wa
  have WB := Lib.hid wb; clear wb
  have HP := Lib.hid hP; clear hP
  go_enter Tryz.func18, Tryz.ntmps18
  go_wp2_with fail
  have h0 := at_alloc3 w (.cells #[.int .i64 3, .int .i64 h, .string t, .slice la nl cl, .slice ka nk ck, .slice va nv cv] 26)
    (.cells #[.int .i64 3, .int .i64 h', .string t', .slice la' nl' cl', .slice ka' nk' ck', .slice va' nv' cv'] 26)
    (.cells #[.int .i64 0, .int .i64 0, .string ⟨#[]⟩, .slice none 0 0, .slice none 0 0, .slice none 0 0] 26)
  obtain ⟨hbW, hsW, hx1, hx2⟩ := h0
  refine (WA.out _).mono ?_
  generalize ((w.alloc _).alloc _).alloc _ = W at *
  rintro e w1 ⟨rfl, hw1⟩
  have hs1 : w.heap.size + 3 ≤ w1.heap.size := by have := hw1.size; omega
  have y1 := (hw1.block (w.heap.size + 1) (by omega)).trans hx1
  have y2 := (hw1.block (w.heap.size + 1 + 1) (by omega)).trans hx2
  have hb1 : Below w.heap.size w w1 := hbW.trans (hw1.mono (by omega))
  obtain ⟨e0, e1, e2, e3, e4, e5⟩ := of_block6 y1
  have Hw1 := Lib.hid hw1; clear hw1
  go_wp2_with fail
  refine (WB.out _).mono ?_
  rintro e w2 ⟨rfl, hw2⟩
  have hs2 : w.heap.size + 3 ≤ w2.heap.size := by have := hw2.size; omega
  have z2 := (hw2.block (w.heap.size + 1 + 1) (by omega)).trans y2
  have hb2 : Below w.heap.size w w2 := hb1.trans (hw2.mono (by omega))
  obtain ⟨e0, e1, e2, e3, e4, e5⟩ := of_block6 z2
  obtain ⟨f0, f1, f2, f3, f4, f5⟩ := free_block6 z2
  have Hw2 := Lib.hid hw2; clear hw2
  cases ok <;> go_wp2_with fail
  all_goals
    refine bodyPost_ret (results_row_tmp (p := 4) (u := 5) (ty := 26) rfl _ _ (w.heap.size + 1 + 1) 26 _ (0, 0) _ rfl (set_row6 z2 _ _ _ _ _ _) Tryz.underlying26 rfl (by kernel_rfl)) rfl
      ⟨_, _, _, _, _, _, _, _, _, _, _, _, _, rfl, HP.out _, below_set6 hb2 (by omega) _ _ _ _ _ _⟩

set_option maxHeartbeats 1000000 in
set_option maxRecDepth 100000 in
theorem rest_odd1 (h h' x y : Int) (t t' : ByteArray) (la ka va la' ka' va' : Option Addr) (nl cl nk ck nv cv nl' cl' nk' ck' nv' cv' : Nat) (hy : y ≠ 0)
    (wa : ∀ w, Calls Tryz.prog 33 #[.agg #[.int .i64 3, .int .i64 h, .string t, .slice la nl cl, .slice ka nk ck, .slice va nv cv]] w (WholeAt w x false))
    (wb : ∀ w, Calls Tryz.prog 33 #[.agg #[.int .i64 3, .int .i64 h', .string t', .slice la' nl' cl', .slice ka' nk' ck', .slice va' nv' cv']] w (WholeAt w y true))
    (P : Value → Int → Prop) (hP : ∀ v, P v 2) (w : World) :
    Calls Tryz.prog 18 #[.agg #[.int .i64 3, .int .i64 h, .string t, .slice la nl cl, .slice ka nk ck, .slice va nv cv], .agg #[.int .i64 3, .int .i64 h', .string t', .slice la' nl' cl', .slice ka' nk' ck', .slice va' nv' cv']] w (HowAt w P) := by
  have WA := Lib.hid wa; clear wa
  have WB := Lib.hid wb; clear wb
  have HP := Lib.hid hP; clear hP
  have ty : (y == 0) = false := by simpa using hy
  clear hy
  go_enter Tryz.func18, Tryz.ntmps18
  go_wp2_with fail
  have h0 := at_alloc3 w (.cells #[.int .i64 3, .int .i64 h, .string t, .slice la nl cl, .slice ka nk ck, .slice va nv cv] 26)
    (.cells #[.int .i64 3, .int .i64 h', .string t', .slice la' nl' cl', .slice ka' nk' ck', .slice va' nv' cv'] 26)
    (.cells #[.int .i64 0, .int .i64 0, .string ⟨#[]⟩, .slice none 0 0, .slice none 0 0, .slice none 0 0] 26)
  obtain ⟨hbW, hsW, hx1, hx2⟩ := h0
  refine (WA.out _).mono ?_
  generalize ((w.alloc _).alloc _).alloc _ = W at *
  rintro e w1 ⟨rfl, hw1⟩
  have hs1 : w.heap.size + 3 ≤ w1.heap.size := by have := hw1.size; omega
  have y1 := (hw1.block (w.heap.size + 1) (by omega)).trans hx1
  have y2 := (hw1.block (w.heap.size + 1 + 1) (by omega)).trans hx2
  have hb1 : Below w.heap.size w w1 := hbW.trans (hw1.mono (by omega))
  obtain ⟨e0, e1, e2, e3, e4, e5⟩ := of_block6 y1
  have Hw1 := Lib.hid hw1; clear hw1
  go_wp2_with fail
  refine (WB.out _).mono ?_
  rintro e w2 ⟨rfl, hw2⟩
  have hs2 : w.heap.size + 3 ≤ w2.heap.size := by have := hw2.size; omega
  have z2 := (hw2.block (w.heap.size + 1 + 1) (by omega)).trans y2
  have hb2 : Below w.heap.size w w2 := hb1.trans (hw2.mono (by omega))
  obtain ⟨e0, e1, e2, e3, e4, e5⟩ := of_block6 z2
  obtain ⟨f0, f1, f2, f3, f4, f5⟩ := free_block6 z2
  have Hw2 := Lib.hid hw2; clear hw2
  go_wp2_with fail
  refine bodyPost_ret (results_row_tmp (p := 4) (u := 5) (ty := 26) rfl _ _ (w.heap.size + 1 + 1) 26 _ (0, 0) _ rfl (set_row6 z2 _ _ _ _ _ _) Tryz.underlying26 rfl (by kernel_rfl)) rfl
    ⟨_, _, _, _, _, _, _, _, _, _, _, _, _, rfl, HP.out _, below_set6 hb2 (by omega) _ _ _ _ _ _⟩

set_option maxHeartbeats 1000000 in
set_option maxRecDepth 100000 in
theorem rest_neg1 (h h' x y : Int) (t t' : ByteArray) (la ka va la' ka' va' : Option Addr) (nl cl nk ck nv cv nl' cl' nk' ck' nv' cv' : Nat) (hy : y ≠ 0) (hx : x < 0)
    (wa : ∀ w, Calls Tryz.prog 33 #[.agg #[.int .i64 3, .int .i64 h, .string t, .slice la nl cl, .slice ka nk ck, .slice va nv cv]] w (WholeAt w x true))
    (wb : ∀ w, Calls Tryz.prog 33 #[.agg #[.int .i64 3, .int .i64 h', .string t', .slice la' nl' cl', .slice ka' nk' ck', .slice va' nv' cv']] w (WholeAt w y true))
    (P : Value → Int → Prop) (hP : ∀ v, P v 2) (w : World) :
    Calls Tryz.prog 18 #[.agg #[.int .i64 3, .int .i64 h, .string t, .slice la nl cl, .slice ka nk ck, .slice va nv cv], .agg #[.int .i64 3, .int .i64 h', .string t', .slice la' nl' cl', .slice ka' nk' ck', .slice va' nv' cv']] w (HowAt w P) := by
  have WA := Lib.hid wa; clear wa
  have WB := Lib.hid wb; clear wb
  have HP := Lib.hid hP; clear hP
  have ty : (y == 0) = false := by simpa using hy
  clear hy
  go_enter Tryz.func18, Tryz.ntmps18
  go_wp2_with fail
  have h0 := at_alloc3 w (.cells #[.int .i64 3, .int .i64 h, .string t, .slice la nl cl, .slice ka nk ck, .slice va nv cv] 26)
    (.cells #[.int .i64 3, .int .i64 h', .string t', .slice la' nl' cl', .slice ka' nk' ck', .slice va' nv' cv'] 26)
    (.cells #[.int .i64 0, .int .i64 0, .string ⟨#[]⟩, .slice none 0 0, .slice none 0 0, .slice none 0 0] 26)
  obtain ⟨hbW, hsW, hx1, hx2⟩ := h0
  refine (WA.out _).mono ?_
  generalize ((w.alloc _).alloc _).alloc _ = W at *
  rintro e w1 ⟨rfl, hw1⟩
  have hs1 : w.heap.size + 3 ≤ w1.heap.size := by have := hw1.size; omega
  have y1 := (hw1.block (w.heap.size + 1) (by omega)).trans hx1
  have y2 := (hw1.block (w.heap.size + 1 + 1) (by omega)).trans hx2
  have hb1 : Below w.heap.size w w1 := hbW.trans (hw1.mono (by omega))
  obtain ⟨e0, e1, e2, e3, e4, e5⟩ := of_block6 y1
  have Hw1 := Lib.hid hw1; clear hw1
  go_wp2_with fail
  refine (WB.out _).mono ?_
  rintro e w2 ⟨rfl, hw2⟩
  have hs2 : w.heap.size + 3 ≤ w2.heap.size := by have := hw2.size; omega
  have z2 := (hw2.block (w.heap.size + 1 + 1) (by omega)).trans y2
  have hb2 : Below w.heap.size w w2 := hb1.trans (hw2.mono (by omega))
  obtain ⟨e0, e1, e2, e3, e4, e5⟩ := of_block6 z2
  obtain ⟨f0, f1, f2, f3, f4, f5⟩ := free_block6 z2
  have Hw2 := Lib.hid hw2; clear hw2
  go_wp2_with fail
  refine bodyPost_ret (results_row_tmp (p := 4) (u := 5) (ty := 26) rfl _ _ (w.heap.size + 1 + 1) 26 _ (0, 0) _ rfl (set_row6 z2 _ _ _ _ _ _) Tryz.underlying26 rfl (by kernel_rfl)) rfl
    ⟨_, _, _, _, _, _, _, _, _, _, _, _, _, rfl, HP.out _, below_set6 hb2 (by omega) _ _ _ _ _ _⟩

set_option maxHeartbeats 1000000 in
set_option maxRecDepth 100000 in
theorem rest_neg2 (h h' x y : Int) (t t' : ByteArray) (la ka va la' ka' va' : Option Addr) (nl cl nk ck nv cv nl' cl' nk' ck' nv' cv' : Nat) (hy : y < 0) (hx : ¬ x < 0)
    (wa : ∀ w, Calls Tryz.prog 33 #[.agg #[.int .i64 3, .int .i64 h, .string t, .slice la nl cl, .slice ka nk ck, .slice va nv cv]] w (WholeAt w x true))
    (wb : ∀ w, Calls Tryz.prog 33 #[.agg #[.int .i64 3, .int .i64 h', .string t', .slice la' nl' cl', .slice ka' nk' ck', .slice va' nv' cv']] w (WholeAt w y true))
    (P : Value → Int → Prop) (hP : ∀ v, P v 2) (w : World) :
    Calls Tryz.prog 18 #[.agg #[.int .i64 3, .int .i64 h, .string t, .slice la nl cl, .slice ka nk ck, .slice va nv cv], .agg #[.int .i64 3, .int .i64 h', .string t', .slice la' nl' cl', .slice ka' nk' ck', .slice va' nv' cv']] w (HowAt w P) := by
  have WA := Lib.hid wa; clear wa
  have WB := Lib.hid wb; clear wb
  have HP := Lib.hid hP; clear hP
  have ty : (y == 0) = false := by simp; omega
  go_enter Tryz.func18, Tryz.ntmps18
  go_wp2_with fail
  have h0 := at_alloc3 w (.cells #[.int .i64 3, .int .i64 h, .string t, .slice la nl cl, .slice ka nk ck, .slice va nv cv] 26)
    (.cells #[.int .i64 3, .int .i64 h', .string t', .slice la' nl' cl', .slice ka' nk' ck', .slice va' nv' cv'] 26)
    (.cells #[.int .i64 0, .int .i64 0, .string ⟨#[]⟩, .slice none 0 0, .slice none 0 0, .slice none 0 0] 26)
  obtain ⟨hbW, hsW, hx1, hx2⟩ := h0
  refine (WA.out _).mono ?_
  generalize ((w.alloc _).alloc _).alloc _ = W at *
  rintro e w1 ⟨rfl, hw1⟩
  have hs1 : w.heap.size + 3 ≤ w1.heap.size := by have := hw1.size; omega
  have y1 := (hw1.block (w.heap.size + 1) (by omega)).trans hx1
  have y2 := (hw1.block (w.heap.size + 1 + 1) (by omega)).trans hx2
  have hb1 : Below w.heap.size w w1 := hbW.trans (hw1.mono (by omega))
  obtain ⟨e0, e1, e2, e3, e4, e5⟩ := of_block6 y1
  have Hw1 := Lib.hid hw1; clear hw1
  go_wp2_with fail
  refine (WB.out _).mono ?_
  rintro e w2 ⟨rfl, hw2⟩
  have hs2 : w.heap.size + 3 ≤ w2.heap.size := by have := hw2.size; omega
  have z2 := (hw2.block (w.heap.size + 1 + 1) (by omega)).trans y2
  have hb2 : Below w.heap.size w w2 := hb1.trans (hw2.mono (by omega))
  obtain ⟨e0, e1, e2, e3, e4, e5⟩ := of_block6 z2
  obtain ⟨f0, f1, f2, f3, f4, f5⟩ := free_block6 z2
  have Hw2 := Lib.hid hw2; clear hw2
  go_wp2_with fail
  refine bodyPost_ret (results_row_tmp (p := 4) (u := 5) (ty := 26) rfl _ _ (w.heap.size + 1 + 1) 26 _ (0, 0) _ rfl (set_row6 z2 _ _ _ _ _ _) Tryz.underlying26 rfl (by kernel_rfl)) rfl
    ⟨_, _, _, _, _, _, _, _, _, _, _, _, _, rfl, HP.out _, below_set6 hb2 (by omega) _ _ _ _ _ _⟩

set_option maxHeartbeats 1000000 in
set_option maxRecDepth 100000 in
theorem rest_fine (h h' x y : Int) (t t' : ByteArray) (la ka va la' ka' va' : Option Addr) (nl cl nk ck nv cv nl' cl' nk' ck' nv' cv' : Nat) (hy : 0 < y) (hx : 0 ≤ x) (hr : x ≤ 9223372036854775807)
    (wa : ∀ w, Calls Tryz.prog 33 #[.agg #[.int .i64 3, .int .i64 h, .string t, .slice la nl cl, .slice ka nk ck, .slice va nv cv]] w (WholeAt w x true))
    (wb : ∀ w, Calls Tryz.prog 33 #[.agg #[.int .i64 3, .int .i64 h', .string t', .slice la' nl' cl', .slice ka' nk' ck', .slice va' nv' cv']] w (WholeAt w y true))
    (P : Value → Int → Prop) (hP : P (numV 3 (wrap64 (2 * (x % y)))) 0) (w : World) :
    Calls Tryz.prog 18 #[.agg #[.int .i64 3, .int .i64 h, .string t, .slice la nl cl, .slice ka nk ck, .slice va nv cv], .agg #[.int .i64 3, .int .i64 h', .string t', .slice la' nl' cl', .slice ka' nk' ck', .slice va' nv' cv']] w (HowAt w P) := by
  have WA := Lib.hid wa; clear wa
  have WB := Lib.hid wb; clear wb
  have HP := Lib.hid hP; clear hP
  have ty : (y == 0) = false := by simp; omega
  have tz : (y == -1) = false := by simp; omega
  have tx : ¬ x < 0 := by omega
  have tw : ¬ y < 0 := by omega
  clear hx hr
  go_enter Tryz.func18, Tryz.ntmps18
  go_wp2_with fail
  have h0 := at_alloc3 w (.cells #[.int .i64 3, .int .i64 h, .string t, .slice la nl cl, .slice ka nk ck, .slice va nv cv] 26)
    (.cells #[.int .i64 3, .int .i64 h', .string t', .slice la' nl' cl', .slice ka' nk' ck', .slice va' nv' cv'] 26)
    (.cells #[.int .i64 0, .int .i64 0, .string ⟨#[]⟩, .slice none 0 0, .slice none 0 0, .slice none 0 0] 26)
  obtain ⟨hbW, hsW, hx1, hx2⟩ := h0
  refine (WA.out _).mono ?_
  generalize ((w.alloc _).alloc _).alloc _ = W at *
  rintro e w1 ⟨rfl, hw1⟩
  have hs1 : w.heap.size + 3 ≤ w1.heap.size := by have := hw1.size; omega
  have y1 := (hw1.block (w.heap.size + 1) (by omega)).trans hx1
  have y2 := (hw1.block (w.heap.size + 1 + 1) (by omega)).trans hx2
  have hb1 : Below w.heap.size w w1 := hbW.trans (hw1.mono (by omega))
  obtain ⟨e0, e1, e2, e3, e4, e5⟩ := of_block6 y1
  have Hw1 := Lib.hid hw1; clear hw1
  go_wp2_with fail
  refine (WB.out _).mono ?_
  rintro e w2 ⟨rfl, hw2⟩
  have hs2 : w.heap.size + 3 ≤ w2.heap.size := by have := hw2.size; omega
  have z2 := (hw2.block (w.heap.size + 1 + 1) (by omega)).trans y2
  have hb2 : Below w.heap.size w w2 := hb1.trans (hw2.mono (by omega))
  obtain ⟨e0, e1, e2, e3, e4, e5⟩ := of_block6 z2
  obtain ⟨f0, f1, f2, f3, f4, f5⟩ := free_block6 z2
  have Hw2 := Lib.hid hw2; clear hw2
  go_wp2_with fail
  refine (num_any _ _).mono ?_
  rintro e w3 ⟨rfl, hw3⟩
  have z3 := (hw3.block (w.heap.size + 1 + 1) (by omega)).trans z2
  have hb3 : Below w.heap.size w w3 := hb2.trans (hw3.mono (by omega))
  have hs3 : w.heap.size + 3 ≤ w3.heap.size := by have := hw3.size; omega
  obtain ⟨e0, e1, e2, e3, e4, e5⟩ := of_block6 z3
  obtain ⟨f0, f1, f2, f3, f4, f5⟩ := free_block6 z3
  unfold numV
  go_wp2_with fail
  refine bodyPost_ret (results_row_tmp (p := 4) (u := 5) (ty := 26) rfl _ _ (w.heap.size + 1 + 1) 26 _ (0, 0) _ rfl (set_row6 z3 _ _ _ _ _ _) Tryz.underlying26 rfl (by kernel_rfl)) rfl
    ⟨_, _, _, _, _, _, _, _, _, _, _, _, _, rfl, HP.out, below_set6 hb3 (by omega) _ _ _ _ _ _⟩

end Go.Proofs.YtmcahfcihhddjaaGreatDoor
