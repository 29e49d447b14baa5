/- Contracts of impl's BigAdd, BigSub, BigMul, BigDiv (printed by wip/gen_impo.py). -/
/- Contracts of laws.wide at two texts and laws.exact. -/
/- laws.FnBigBack answers yes. -/
import Derived.Test.YtfgjaoejcbldoaaGreatDoorM16
namespace Go.Proofs.YtfgjaoejcbldoaaGreatDoor
open Go Go.RowKit Go.Deep
set_option maxHeartbeats 4000000 in
set_option maxRecDepth 100000 in
theorem bigAdd_any (w : World) (a b : List UInt8) (h : TwoT w a b) (hz : (wholeN a + wholeN b).natAbs < xMax) : Calls Tryz.prog 5 #[.string (strL a), .string (strL b)] w (BigP w (Lib.itoa (wholeN a + wholeN b))) := by
  have hb0 := below_alloc1 w (.cells #[.string ByteArray.empty, .int .i64 0] 24)
  have HA := Lib.hid (bigToGo_any _ a h.wa h.la h.xa (h.tabs.carry hb0))
  have HB := Lib.hid fun w' (hb : Below w.heap.size w w') => bigToGo_any w' b h.wb h.lb h.xb (h.tabs.carry hb)
  have HO := Lib.hid fun w' vl vr (hl : NumAt w' w'.heap.size (wholeN a) vl) (hr : NumAt w' w'.heap.size (wholeN b) vr) => opAdd_any w' (wholeN a) (wholeN b) vl vr hl hr h.xa h.xb
  have HF := Lib.hid fun w' v (hb : Below w.heap.size w w') (hv : NumAt w' w'.heap.size (wholeN a + wholeN b) v) => bigFromGo_any w' (wholeN a + wholeN b) v hv hz (h.tabs.carry hb)
  clear h hb0 hz
  generalize strL a = sa at *
  generalize strL b = sb at *
  generalize (wholeN a + wholeN b) = z at *
  generalize wholeN a = za at *
  generalize wholeN b = zb at *
  generalize Lib.itoa z = l at *
  go_enter Tryz.func5, Tryz.ntmps5
  go_wp2_with fail
  refine HA.out.mono ?_
  clear HA
  rintro e w1 ⟨vl, rfl, hvl, h1⟩
  have Hvl := Lib.hid hvl
  have Hb1 := Lib.hid (below_next (below_alloc1 _ _) h1)
  have Hc := Lib.hid ((h1.block w.heap.size (by rw [size_alloc1]; omega)).trans (heap_alloc_new w _))
  have hlt : w.heap.size < w1.heap.size := by have := h1.size; rw [size_alloc1] at this; omega
  have hB := HB.out w1 Hb1.out
  clear HB hvl h1
  go_wp2_with fail
  refine hB.mono ?_
  clear hB
  rintro e w2 ⟨vr, rfl, hvr, h2⟩
  have hO := HO.out w2 vl vr (Hvl.out.carry h2 h2.size) hvr
  have Hb2 := Lib.hid (below_next Hb1.out h2)
  have Hc2 := Lib.hid ((h2.block w.heap.size hlt).trans Hc.out)
  have hlt2 : w.heap.size < w2.heap.size := by have := h2.size; omega
  obtain ⟨tl, ul, rfl⟩ : ∃ t u, vl = .iface t u := by
    rcases Hvl.out with ⟨e, _⟩ | ⟨b, e, _⟩
    · exact ⟨_, _, e⟩
    · exact ⟨_, _, e⟩
  obtain ⟨tr, ur, rfl⟩ : ∃ t u, vr = .iface t u := by
    rcases hvr with ⟨e, _⟩ | ⟨b, e, _⟩
    · exact ⟨_, _, e⟩
    · exact ⟨_, _, e⟩
  clear hvr h2 HO Hvl
  go_wp2_with fail
  refine hO.mono ?_
  clear hO
  rintro e w3 ⟨v, rfl, hv, h3⟩
  have hF := HF.out w3 v (below_next Hb2.out h3) hv
  have Hb3 := Lib.hid (below_next Hb2.out h3)
  have Hc3 := Lib.hid ((h3.block w.heap.size hlt2).trans Hc2.out)
  have hlt3 : w.heap.size < w3.heap.size := by have := h3.size; omega
  obtain ⟨tv, uv, rfl⟩ : ∃ t u, v = .iface t u := by
    rcases hv with ⟨e, _⟩ | ⟨b, e, _⟩
    · exact ⟨_, _, e⟩
    · exact ⟨_, _, e⟩
  clear hv h3 HF
  go_wp2_with fail
  refine hF.mono ?_
  clear hF
  rintro e w4 ⟨rfl, h4⟩
  have hc4 := (h4.block w.heap.size hlt3).trans Hc3.out
  obtain ⟨p0, p1, p2, p3⟩ := of_block2 hc4
  have HS := Lib.hid (set_row2 hc4 (.string (strL l)) (.int .i64 0))
  have HBB := Lib.hid (show Below w.heap.size w ((w4.setCell ⟨w.heap.size, 0, none⟩ (.string (strL l))).setCell ⟨w.heap.size, 1, none⟩ (.int .i64 0)) from below_set2 (below_next Hb3.out h4) (Nat.le_refl _) _ _)
  clear h4 hc4
  go_wp2_with fail
  refine bodyPost_ret (v := .agg #[.string (strL l), .int .i64 0]) ?_ rfl ⟨rfl, ?_⟩
  · refine results_cell_row (p := 4) (ty := 24) rfl _ _ w.heap.size 24 _ (0, 0) _ rfl ?_ Tryz.underlying24 rfl (by kernel_rfl)
    exact HS.out
  · exact HBB.out
set_option maxHeartbeats 4000000 in
set_option maxRecDepth 100000 in
theorem bigSub_any (w : World) (a b : List UInt8) (h : TwoT w a b) (hz : (wholeN a - wholeN b).natAbs < xMax) : Calls Tryz.prog 8 #[.string (strL a), .string (strL b)] w (BigP w (Lib.itoa (wholeN a - wholeN b))) := by
  have hb0 := below_alloc1 w (.cells #[.string ByteArray.empty, .int .i64 0] 24)
  have HA := Lib.hid (bigToGo_any _ a h.wa h.la h.xa (h.tabs.carry hb0))
  have HB := Lib.hid fun w' (hb : Below w.heap.size w w') => bigToGo_any w' b h.wb h.lb h.xb (h.tabs.carry hb)
  have HO := Lib.hid fun w' vl vr (hl : NumAt w' w'.heap.size (wholeN a) vl) (hr : NumAt w' w'.heap.size (wholeN b) vr) => opSub_any w' (wholeN a) (wholeN b) vl vr hl hr h.xa h.xb
  have HF := Lib.hid fun w' v (hb : Below w.heap.size w w') (hv : NumAt w' w'.heap.size (wholeN a - wholeN b) v) => bigFromGo_any w' (wholeN a - wholeN b) v hv hz (h.tabs.carry hb)
  clear h hb0 hz
  generalize strL a = sa at *
  generalize strL b = sb at *
  generalize (wholeN a - wholeN b) = z at *
  generalize wholeN a = za at *
  generalize wholeN b = zb at *
  generalize Lib.itoa z = l at *
  go_enter Tryz.func8, Tryz.ntmps8
  go_wp2_with fail
  refine HA.out.mono ?_
  clear HA
  rintro e w1 ⟨vl, rfl, hvl, h1⟩
  have Hvl := Lib.hid hvl
  have Hb1 := Lib.hid (below_next (below_alloc1 _ _) h1)
  have Hc := Lib.hid ((h1.block w.heap.size (by rw [size_alloc1]; omega)).trans (heap_alloc_new w _))
  have hlt : w.heap.size < w1.heap.size := by have := h1.size; rw [size_alloc1] at this; omega
  have hB := HB.out w1 Hb1.out
  clear HB hvl h1
  go_wp2_with fail
  refine hB.mono ?_
  clear hB
  rintro e w2 ⟨vr, rfl, hvr, h2⟩
  have hO := HO.out w2 vl vr (Hvl.out.carry h2 h2.size) hvr
  have Hb2 := Lib.hid (below_next Hb1.out h2)
  have Hc2 := Lib.hid ((h2.block w.heap.size hlt).trans Hc.out)
  have hlt2 : w.heap.size < w2.heap.size := by have := h2.size; omega
  obtain ⟨tl, ul, rfl⟩ : ∃ t u, vl = .iface t u := by
    rcases Hvl.out with ⟨e, _⟩ | ⟨b, e, _⟩
    · exact ⟨_, _, e⟩
    · exact ⟨_, _, e⟩
  obtain ⟨tr, ur, rfl⟩ : ∃ t u, vr = .iface t u := by
    rcases hvr with ⟨e, _⟩ | ⟨b, e, _⟩
    · exact ⟨_, _, e⟩
    · exact ⟨_, _, e⟩
  clear hvr h2 HO Hvl
  go_wp2_with fail
  refine hO.mono ?_
  clear hO
  rintro e w3 ⟨v, rfl, hv, h3⟩
  have hF := HF.out w3 v (below_next Hb2.out h3) hv
  have Hb3 := Lib.hid (below_next Hb2.out h3)
  have Hc3 := Lib.hid ((h3.block w.heap.size hlt2).trans Hc2.out)
  have hlt3 : w.heap.size < w3.heap.size := by have := h3.size; omega
  obtain ⟨tv, uv, rfl⟩ : ∃ t u, v = .iface t u := by
    rcases hv with ⟨e, _⟩ | ⟨b, e, _⟩
    · exact ⟨_, _, e⟩
    · exact ⟨_, _, e⟩
  clear hv h3 HF
  go_wp2_with fail
  refine hF.mono ?_
  clear hF
  rintro e w4 ⟨rfl, h4⟩
  have hc4 := (h4.block w.heap.size hlt3).trans Hc3.out
  obtain ⟨p0, p1, p2, p3⟩ := of_block2 hc4
  have HS := Lib.hid (set_row2 hc4 (.string (strL l)) (.int .i64 0))
  have HBB := Lib.hid (show Below w.heap.size w ((w4.setCell ⟨w.heap.size, 0, none⟩ (.string (strL l))).setCell ⟨w.heap.size, 1, none⟩ (.int .i64 0)) from below_set2 (below_next Hb3.out h4) (Nat.le_refl _) _ _)
  clear h4 hc4
  go_wp2_with fail
  refine bodyPost_ret (v := .agg #[.string (strL l), .int .i64 0]) ?_ rfl ⟨rfl, ?_⟩
  · refine results_cell_row (p := 4) (ty := 24) rfl _ _ w.heap.size 24 _ (0, 0) _ rfl ?_ Tryz.underlying24 rfl (by kernel_rfl)
    exact HS.out
  · exact HBB.out
set_option maxHeartbeats 4000000 in
set_option maxRecDepth 100000 in
theorem bigMul_any (w : World) (a b : List UInt8) (h : TwoT w a b) (hz : (wholeN a * wholeN b).natAbs < xMax) : Calls Tryz.prog 6 #[.string (strL a), .string (strL b)] w (BigP w (Lib.itoa (wholeN a * wholeN b))) := by
  have hb0 := below_alloc1 w (.cells #[.string ByteArray.empty, .int .i64 0] 24)
  have HA := Lib.hid (bigToGo_any _ a h.wa h.la h.xa (h.tabs.carry hb0))
  have HB := Lib.hid fun w' (hb : Below w.heap.size w w') => bigToGo_any w' b h.wb h.lb h.xb (h.tabs.carry hb)
  have HO := Lib.hid fun w' vl vr (hl : NumAt w' w'.heap.size (wholeN a) vl) (hr : NumAt w' w'.heap.size (wholeN b) vr) => opMul_any w' (wholeN a) (wholeN b) vl vr hl hr h.xa h.xb
  have HF := Lib.hid fun w' v (hb : Below w.heap.size w w') (hv : NumAt w' w'.heap.size (wholeN a * wholeN b) v) => bigFromGo_any w' (wholeN a * wholeN b) v hv hz (h.tabs.carry hb)
  clear h hb0 hz
  generalize strL a = sa at *
  generalize strL b = sb at *
  generalize (wholeN a * wholeN b) = z at *
  generalize wholeN a = za at *
  generalize wholeN b = zb at *
  generalize Lib.itoa z = l at *
  go_enter Tryz.func6, Tryz.ntmps6
  go_wp2_with fail
  refine HA.out.mono ?_
  clear HA
  rintro e w1 ⟨vl, rfl, hvl, h1⟩
  have Hvl := Lib.hid hvl
  have Hb1 := Lib.hid (below_next (below_alloc1 _ _) h1)
  have Hc := Lib.hid ((h1.block w.heap.size (by rw [size_alloc1]; omega)).trans (heap_alloc_new w _))
  have hlt : w.heap.size < w1.heap.size := by have := h1.size; rw [size_alloc1] at this; omega
  have hB := HB.out w1 Hb1.out
  clear HB hvl h1
  go_wp2_with fail
  refine hB.mono ?_
  clear hB
  rintro e w2 ⟨vr, rfl, hvr, h2⟩
  have hO := HO.out w2 vl vr (Hvl.out.carry h2 h2.size) hvr
  have Hb2 := Lib.hid (below_next Hb1.out h2)
  have Hc2 := Lib.hid ((h2.block w.heap.size hlt).trans Hc.out)
  have hlt2 : w.heap.size < w2.heap.size := by have := h2.size; omega
  obtain ⟨tl, ul, rfl⟩ : ∃ t u, vl = .iface t u := by
    rcases Hvl.out with ⟨e, _⟩ | ⟨b, e, _⟩
    · exact ⟨_, _, e⟩
    · exact ⟨_, _, e⟩
  obtain ⟨tr, ur, rfl⟩ : ∃ t u, vr = .iface t u := by
    rcases hvr with ⟨e, _⟩ | ⟨b, e, _⟩
    · exact ⟨_, _, e⟩
    · exact ⟨_, _, e⟩
  clear hvr h2 HO Hvl
  go_wp2_with fail
  refine hO.mono ?_
  clear hO
  rintro e w3 ⟨v, rfl, hv, h3⟩
  have hF := HF.out w3 v (below_next Hb2.out h3) hv
  have Hb3 := Lib.hid (below_next Hb2.out h3)
  have Hc3 := Lib.hid ((h3.block w.heap.size hlt2).trans Hc2.out)
  have hlt3 : w.heap.size < w3.heap.size := by have := h3.size; omega
  obtain ⟨tv, uv, rfl⟩ : ∃ t u, v = .iface t u := by
    rcases hv with ⟨e, _⟩ | ⟨b, e, _⟩
    · exact ⟨_, _, e⟩
    · exact ⟨_, _, e⟩
  clear hv h3 HF
  go_wp2_with fail
  refine hF.mono ?_
  clear hF
  rintro e w4 ⟨rfl, h4⟩
  have hc4 := (h4.block w.heap.size hlt3).trans Hc3.out
  obtain ⟨p0, p1, p2, p3⟩ := of_block2 hc4
  have HS := Lib.hid (set_row2 hc4 (.string (strL l)) (.int .i64 0))
  have HBB := Lib.hid (show Below w.heap.size w ((w4.setCell ⟨w.heap.size, 0, none⟩ (.string (strL l))).setCell ⟨w.heap.size, 1, none⟩ (.int .i64 0)) from below_set2 (below_next Hb3.out h4) (Nat.le_refl _) _ _)
  clear h4 hc4
  go_wp2_with fail
  refine bodyPost_ret (v := .agg #[.string (strL l), .int .i64 0]) ?_ rfl ⟨rfl, ?_⟩
  · refine results_cell_row (p := 4) (ty := 24) rfl _ _ w.heap.size 24 _ (0, 0) _ rfl ?_ Tryz.underlying24 rfl (by kernel_rfl)
    exact HS.out
  · exact HBB.out
set_option maxHeartbeats 4000000 in
set_option maxRecDepth 100000 in
theorem bigDiv_any (w : World) (a b : List UInt8) (h : TwoT w a b) (h0 : wholeN b ≠ 0) (hd : (wholeN a).tmod (wholeN b) = 0) (hz : ((wholeN a).tdiv (wholeN b)).natAbs < xMax) : Calls Tryz.prog 9 #[.string (strL a), .string (strL b)] w (BigP w (Lib.itoa ((wholeN a).tdiv (wholeN b)))) := by
  have hb0 := below_alloc1 w (.cells #[.string ByteArray.empty, .int .i64 0] 24)
  have HA := Lib.hid (bigToGo_any _ a h.wa h.la h.xa (h.tabs.carry hb0))
  have HB := Lib.hid fun w' (hb : Below w.heap.size w w') => bigToGo_any w' b h.wb h.lb h.xb (h.tabs.carry hb)
  have HO := Lib.hid fun w' vl vr (hl : NumAt w' w'.heap.size (wholeN a) vl) (hr : NumAt w' w'.heap.size (wholeN b) vr) => opDiv_any w' (wholeN a) (wholeN b) vl vr hl hr h.xa h0 hd
  have HF := Lib.hid fun w' v (hb : Below w.heap.size w w') (hv : NumAt w' w'.heap.size ((wholeN a).tdiv (wholeN b)) v) => bigFromGo_any w' ((wholeN a).tdiv (wholeN b)) v hv hz (h.tabs.carry hb)
  clear h hb0 hz h0 hd
  generalize strL a = sa at *
  generalize strL b = sb at *
  generalize ((wholeN a).tdiv (wholeN b)) = z at *
  generalize wholeN a = za at *
  generalize wholeN b = zb at *
  generalize Lib.itoa z = l at *
  go_enter Tryz.func9, Tryz.ntmps9
  go_wp2_with fail
  refine HA.out.mono ?_
  clear HA
  rintro e w1 ⟨vl, rfl, hvl, h1⟩
  have Hvl := Lib.hid hvl
  have Hb1 := Lib.hid (below_next (below_alloc1 _ _) h1)
  have Hc := Lib.hid ((h1.block w.heap.size (by rw [size_alloc1]; omega)).trans (heap_alloc_new w _))
  have hlt : w.heap.size < w1.heap.size := by have := h1.size; rw [size_alloc1] at this; omega
  have hB := HB.out w1 Hb1.out
  clear HB hvl h1
  go_wp2_with fail
  refine hB.mono ?_
  clear hB
  rintro e w2 ⟨vr, rfl, hvr, h2⟩
  have hO := HO.out w2 vl vr (Hvl.out.carry h2 h2.size) hvr
  have Hb2 := Lib.hid (below_next Hb1.out h2)
  have Hc2 := Lib.hid ((h2.block w.heap.size hlt).trans Hc.out)
  have hlt2 : w.heap.size < w2.heap.size := by have := h2.size; omega
  obtain ⟨tl, ul, rfl⟩ : ∃ t u, vl = .iface t u := by
    rcases Hvl.out with ⟨e, _⟩ | ⟨b, e, _⟩
    · exact ⟨_, _, e⟩
    · exact ⟨_, _, e⟩
  obtain ⟨tr, ur, rfl⟩ : ∃ t u, vr = .iface t u := by
    rcases hvr with ⟨e, _⟩ | ⟨b, e, _⟩
    · exact ⟨_, _, e⟩
    · exact ⟨_, _, e⟩
  clear hvr h2 HO Hvl
  go_wp2_with fail
  refine hO.mono ?_
  clear hO
  rintro e w3 ⟨v, rfl, hv, h3⟩
  have hF := HF.out w3 v (below_next Hb2.out h3) hv
  have Hb3 := Lib.hid (below_next Hb2.out h3)
  have Hc3 := Lib.hid ((h3.block w.heap.size hlt2).trans Hc2.out)
  have hlt3 : w.heap.size < w3.heap.size := by have := h3.size; omega
  obtain ⟨tv, uv, rfl⟩ : ∃ t u, v = .iface t u := by
    rcases hv with ⟨e, _⟩ | ⟨b, e, _⟩
    · exact ⟨_, _, e⟩
    · exact ⟨_, _, e⟩
  clear hv h3 HF
  go_wp2_with fail
  refine hF.mono ?_
  clear hF
  rintro e w4 ⟨rfl, h4⟩
  have hc4 := (h4.block w.heap.size hlt3).trans Hc3.out
  obtain ⟨p0, p1, p2, p3⟩ := of_block2 hc4
  have HS := Lib.hid (set_row2 hc4 (.string (strL l)) (.int .i64 0))
  have HBB := Lib.hid (show Below w.heap.size w ((w4.setCell ⟨w.heap.size, 0, none⟩ (.string (strL l))).setCell ⟨w.heap.size, 1, none⟩ (.int .i64 0)) from below_set2 (below_next Hb3.out h4) (Nat.le_refl _) _ _)
  clear h4 hc4
  go_wp2_with fail
  refine bodyPost_ret (v := .agg #[.string (strL l), .int .i64 0]) ?_ rfl ⟨rfl, ?_⟩
  · refine results_cell_row (p := 4) (ty := 24) rfl _ _ w.heap.size 24 _ (0, 0) _ rfl ?_ Tryz.underlying24 rfl (by kernel_rfl)
    exact HS.out
  · exact HBB.out
end Go.Proofs.YtfgjaoejcbldoaaGreatDoor

namespace Go.Proofs.YtfgjaoejcbldoaaGreatDoor
open Go Go.RowKit Go.Deep
/-- A text that is wide. -/
def OkT (l : List UInt8) : Prop := l.length ≤ 400 ∧ WholeT l
/-- How wide answers. -/
def WideP (w : World) (a b : List UInt8) (e : Ending) (w' : World) : Prop := ∃ q, e = .returned (.bool q) ∧ (q = true → OkT a ∧ OkT b) ∧ w' = w
set_option maxHeartbeats 4000000 in
set_option maxRecDepth 100000 in
theorem wide_any (w : World) (k : Nat) (a b : List UInt8) (h : w.heap[k]? = some (.cells #[.string (strL a), .string (strL b)] 9)) (ha : a.length ≤ 9223372036854775807) (hb : b.length ≤ 9223372036854775807) :
    Calls Tryz.prog 4 #[.slice (some ⟨k, 0, none⟩) 2 2] w (WideP w a b) := by
  have HA := Lib.hid (isWhole_any w a ha)
  have HB := Lib.hid (isWhole_any w b hb)
  have sa := strL_size a
  have sb := strL_size b
  have y0 : w.cell? ⟨k, 0, none⟩ = some (.string (strL a)) := by simp [World.cell?, h]
  have y1 : w.cell? ⟨k, 1, none⟩ = some (.string (strL b)) := by simp [World.cell?, h]
  obtain ⟨na, hna⟩ : ∃ n, a.length = n := ⟨_, rfl⟩
  obtain ⟨nb, hnb⟩ : ∃ n, b.length = n := ⟨_, rfl⟩
  have Hna := Lib.hid hna
  have Hnb := Lib.hid hnb
  rw [hna] at sa
  rw [hnb] at sb
  have HF := Lib.hid (show WideP w a b (.returned (.bool false)) w from ⟨false, rfl, fun h => absurd h (by decide), rfl⟩)
  generalize strL a = s at *
  generalize strL b = t at *
  clear h ha hb hna hnb
  go_enter Tryz.func4, Tryz.ntmps4
  go_wp2_with fail
  go_loopw [4, 7] (fun _ vi wr => w = wr ∧ ∃ i : Nat, vi = .int .i64 i ∧ i ≤ 2 ∧ (0 < i → OkT a) ∧ (1 < i → OkT b)) (fun _ vi _ => 2 - (intOf vi).toNat)
  case atStart => exact ⟨rfl, 0, by go_num, by omega, fun h => absurd h (by decide), fun h => absurd h (by decide)⟩
  case round =>
    obtain ⟨rfl, i, rfl, hi, ha, hb⟩ := hrel
    have Ha := Lib.hid ha
    have Hb := Lib.hid hb
    clear ha hb
    have hway : i = 0 ∨ i = 1 ∨ i = 2 := by omega
    rcases hway with rfl | rfl | rfl
    · by_cases v : (400 : Int) < (na : Int)
      · go_wp2_with fail
        go_ret
        exact HF.out
      · go_wp2_with fail
        refine HA.out.mono ?_
        rintro e w1 ⟨q, rfl, hq, rfl⟩
        have Hq := Lib.hid hq
        clear hq
        cases q
        · go_wp2_with fail
          go_ret
          exact HF.out
        · have HO : Hid (OkT a) := Lib.hid ⟨by rw [Hna.out]; omega, Hq.out rfl⟩
          go_wp2_with fail
          exact ⟨⟨by trivial, 1, by go_num, by omega, fun _ => HO.out, fun h => absurd h (by decide)⟩, by simp [intOf]⟩
    · by_cases v : (400 : Int) < (nb : Int)
      · go_wp2_with fail
        go_ret
        exact HF.out
      · go_wp2_with fail
        refine HB.out.mono ?_
        rintro e w1 ⟨q, rfl, hq, rfl⟩
        have Hq := Lib.hid hq
        clear hq
        cases q
        · go_wp2_with fail
          go_ret
          exact HF.out
        · have HO : Hid (OkT b) := Lib.hid ⟨by rw [Hnb.out]; omega, Hq.out rfl⟩
          go_wp2_with fail
          exact ⟨⟨by trivial, 2, by go_num, by omega, fun _ => Ha.out (by decide), fun _ => HO.out⟩, by simp [intOf]⟩
    · go_wp2_with fail
      go_ret
      exact ⟨true, rfl, fun _ => ⟨Ha.out (by decide), Hb.out (by decide)⟩, rfl⟩
set_option maxHeartbeats 4000000 in
set_option maxRecDepth 100000 in
theorem exact_any (w : World) (s : ByteArray) : Calls Tryz.prog 7 #[.agg #[.string s, .int .i64 0], .string s] w (fun e w' => e = .returned (.bool true) ∧ Below w.heap.size w w') := by
  have hb := Lib.hid (below_alloc1 w (.cells #[.string s, .int .i64 0] 24))
  have he : (s.toList == s.toList) = true := beq_self_eq_true _
  go_enter Tryz.func7, Tryz.ntmps7
  go_wp2_with fail
  go_ret
  exact ⟨rfl, hb.out⟩
end Go.Proofs.YtfgjaoejcbldoaaGreatDoor

namespace Go.Proofs.YtfgjaoejcbldoaaGreatDoor
open Go Go.RowKit Go.Deep
theorem lt_xMax {n k : Nat} (h : n < 10 ^ k) (hk : 4 * k < 32 * lenS) : n < xMax := Nat.lt_trans h (ten_lt (m := lenS) hk)
theorem whole_ne {l : List UInt8} (h : WholeT l) (hne : l ≠ [48]) : wholeN l ≠ 0 := by
  unfold wholeN
  rcases h with ⟨h1, h2, h3⟩ | ⟨h1, h2⟩
  · rw [if_pos h1]
    have := digsT_pos h2 h3
    omega
  · rw [if_neg h1]
    have := digsT_pos h2 hne
    omega
/-- The greatest length of a text. -/
def mostL : Nat := 400
/-- What the law reckons with. -/
structure BackT (a b : List UInt8) : Prop where
  wa : WholeT a
  wb : WholeT b
  la : a.length ≤ mostL
  lb : b.length ≤ mostL
  nb : wholeN b ≠ 0
theorem BackT.xa {a b : List UInt8} (h : BackT a b) : (wholeN a).natAbs < 10 ^ mostL := natT_small h.wa h.la
theorem BackT.xb {a b : List UInt8} (h : BackT a b) : (wholeN b).natAbs < 10 ^ mostL := natT_small h.wb h.lb
theorem BackT.sum {a b : List UInt8} (h : BackT a b) : (wholeN a + wholeN b).natAbs < 10 ^ (mostL + 1) := add_small h.xa h.xb
theorem BackT.prod {a b : List UInt8} (h : BackT a b) : (wholeN a * wholeN b).natAbs < 10 ^ (mostL + mostL) := mul_small h.xa h.xb
theorem hk400 : 4 * mostL < 32 * lenS := by decide
theorem hk401 : 4 * (mostL + 1) < 32 * lenS := by decide
theorem hk800 : 4 * (mostL + mostL) < 32 * lenS := by decide
theorem back_add {w : World} {a b : List UInt8} (h : BackT a b) (hT : BigTabs w) : Calls Tryz.prog 5 #[.string (strL a), .string (strL b)] w (BigP w (Lib.itoa (wholeN a + wholeN b))) :=
  bigAdd_any w a b ⟨h.wa, h.wb, Nat.le_trans h.la (by decide), Nat.le_trans h.lb (by decide), lt_xMax h.xa hk400, lt_xMax h.xb hk400, hT⟩ (lt_xMax h.sum hk401)
theorem back_mul {w : World} {a b : List UInt8} (h : BackT a b) (hT : BigTabs w) : Calls Tryz.prog 6 #[.string (strL a), .string (strL b)] w (BigP w (Lib.itoa (wholeN a * wholeN b))) :=
  bigMul_any w a b ⟨h.wa, h.wb, Nat.le_trans h.la (by decide), Nat.le_trans h.lb (by decide), lt_xMax h.xa hk400, lt_xMax h.xb hk400, hT⟩ (lt_xMax h.prod hk800)
theorem back_sub {w : World} {a b : List UInt8} (h : BackT a b) (hT : BigTabs w) : Calls Tryz.prog 8 #[.string (strL (Lib.itoa (wholeN a + wholeN b))), .string (strL b)] w (BigP w a) := by
  obtain ⟨w1, w2⟩ := whole_itoa (wholeN a + wholeN b)
  have hl := itoa_len (k := mostL) h.sum
  have e : wholeN a + wholeN b - wholeN b = wholeN a := by omega
  have := bigSub_any w (Lib.itoa (wholeN a + wholeN b)) b ⟨w1, h.wb, Nat.le_trans hl (by decide), Nat.le_trans h.lb (by decide), by rw [w2]; exact lt_xMax h.sum hk401, lt_xMax h.xb hk400, hT⟩ (by rw [w2, e]; exact lt_xMax h.xa hk400)
  rw [w2, e, itoa_whole h.wa] at this
  exact this
theorem back_div {w : World} {a b : List UInt8} (h : BackT a b) (hT : BigTabs w) : Calls Tryz.prog 9 #[.string (strL (Lib.itoa (wholeN a * wholeN b))), .string (strL b)] w (BigP w a) := by
  obtain ⟨w1, w2⟩ := whole_itoa (wholeN a * wholeN b)
  have hl := itoa_len (k := mostL + mostL - 1) (by rw [show mostL + mostL - 1 + 1 = mostL + mostL from rfl]; exact h.prod)
  have e : (wholeN a * wholeN b).tdiv (wholeN b) = wholeN a := Int.mul_tdiv_cancel _ h.nb
  have := bigDiv_any w (Lib.itoa (wholeN a * wholeN b)) b ⟨w1, h.wb, Nat.le_trans hl (by decide), Nat.le_trans h.lb (by decide), by rw [w2]; exact lt_xMax h.prod hk800, lt_xMax h.xb hk400, hT⟩ h.nb (by rw [w2]; exact Int.mul_tmod_left _ _) (by rw [w2, e]; exact lt_xMax h.xa hk400)
  rw [w2, e, itoa_whole h.wa] at this
  exact this
theorem back_self {w : World} {a b : List UInt8} (h : BackT a b) (hT : BigTabs w) : Calls Tryz.prog 8 #[.string (strL a), .string (strL a)] w (BigP w [48]) := by
  have e : wholeN a - wholeN a = 0 := by omega
  have e0 : Lib.itoa 0 = [48] := by unfold Lib.itoa; rw [if_neg (by decide), show (0 : Int).toNat = 0 from rfl, Lib.decDigits]; rfl
  have := bigSub_any w a a ⟨h.wa, h.wa, Nat.le_trans h.la (by decide), Nat.le_trans h.la (by decide), lt_xMax h.xa hk400, lt_xMax h.xa hk400, hT⟩ (by rw [e]; exact lt_xMax (k := 1) (by decide) (by decide))
  rw [e, e0] at this
  exact this
set_option maxHeartbeats 4000000 in
set_option maxRecDepth 100000 in
theorem fnBigBack_list (w : World) (a b : List UInt8) (ha : a.length ≤ 9223372036854775807) (hb : b.length ≤ 9223372036854775807) (hT : BigTabs w) :
    Calls Tryz.prog 3 #[.string (strL a), .string (strL b)] w (fun e w' => e = .returned (.bool true) ∧ Below w.heap.size w w') := by
  have sa := strL_size a
  have sb := strL_size b
  have hlb := strL_list b
  have hbw := below_alloc1 w (.cells #[.string (strL a), .string (strL b)] 9)
  have HW := Lib.hid (wide_any (w.alloc (.cells #[.string (strL a), .string (strL b)] 9)) w.heap.size a b (heap_alloc_new w _) ha hb)
  have HAdd := Lib.hid fun w' (h : BackT a b) (hb : Below w.heap.size w w') => back_add (w := w') h (hT.carry hb)
  have HMul := Lib.hid fun w' (h : BackT a b) (hb : Below w.heap.size w w') => back_mul (w := w') h (hT.carry hb)
  have HSub := Lib.hid fun w' (h : BackT a b) (hb : Below w.heap.size w w') => back_sub (w := w') h (hT.carry hb)
  have HDiv := Lib.hid fun w' (h : BackT a b) (hb : Below w.heap.size w w') => back_div (w := w') h (hT.carry hb)
  have HSelf := Lib.hid fun w' (h : BackT a b) (hb : Below w.heap.size w w') => back_self (w := w') h (hT.carry hb)
  have HE := Lib.hid fun w' s => exact_any w' s
  have HL := Lib.hid (show ((strL b).toList == [48]) = true ↔ b = [48] by rw [hlb]; exact beq_iff_eq)
  have h48 : strL [48] = { data := #[48] } := rfl
  have Hbw := Lib.hid hbw
  unfold BigP at HAdd HMul HSub HDiv HSelf
  rw [h48] at HSelf
  generalize strL (Lib.itoa (wholeN a + wholeN b)) = ss at *
  generalize strL (Lib.itoa (wholeN a * wholeN b)) = ps at *
  generalize strL a = s at *
  generalize strL b = t at *
  obtain ⟨na, hna⟩ : ∃ n, a.length = n := ⟨_, rfl⟩
  obtain ⟨nb, hnb⟩ : ∃ n, b.length = n := ⟨_, rfl⟩
  rw [hna] at sa ha
  rw [hnb] at sb hb
  clear hT hlb h48 hbw hna hnb
  by_cases hla : (2147483647 : Int) < (na : Int)
  · go_enter Tryz.func3, Tryz.ntmps3
    go_wp2_with fail
    go_ret
    exact ⟨rfl, Below.refl _ _⟩
  by_cases hlb : (2147483647 : Int) < (nb : Int)
  · go_enter Tryz.func3, Tryz.ntmps3
    go_wp2_with fail
    go_ret
    exact ⟨rfl, Below.refl _ _⟩
  go_enter Tryz.func3, Tryz.ntmps3
  go_wp2_with fail
  refine HW.out.mono ?_
  clear HW
  rintro e w1 ⟨q, rfl, hq, rfl⟩
  have Hq := Lib.hid hq
  clear hq
  cases q
  · go_wp2_with fail
    go_ret
    exact ⟨rfl, Hbw.out⟩
  · obtain ⟨z, hz⟩ : ∃ z, (t.toList == [48]) = z := ⟨_, rfl⟩
    rw [hz] at HL
    cases z
    · have HB : Hid (BackT a b) := Lib.hid ⟨(Hq.out rfl).1.2, (Hq.out rfl).2.2, (Hq.out rfl).1.1, (Hq.out rfl).2.1, whole_ne (Hq.out rfl).2.2 (fun e => by have := HL.out.2 e; cases this)⟩
      have hA := HAdd.out _ HB.out Hbw.out
      go_wp2_with fail
      refine hA.mono ?_
      clear hA HAdd
      rintro e w2 ⟨rfl, h2⟩
      have Hb2 := Lib.hid (below_next Hbw.out h2)
      have hM := HMul.out w2 HB.out Hb2.out
      clear h2
      go_wp2_with fail
      refine hM.mono ?_
      clear hM HMul
      rintro e w3 ⟨rfl, h3⟩
      have Hb3 := Lib.hid (below_next Hb2.out h3)
      clear h3
      go_wp2_with fail
      have h4 := below_next Hb3.out (below_alloc2 w3 (.cells #[.string ss, .int .i64 0] 24) (.cells #[.string ps, .int .i64 0] 24))
      have q4 := at_alloc2 w3 (.cells #[.string ss, .int .i64 0] 24) (.cells #[.string ps, .int .i64 0] 24)
      have z4 : w3.heap.size + 1 < ((w3.alloc (.cells #[.string ss, .int .i64 0] 24)).alloc (.cells #[.string ps, .int .i64 0] 24)).heap.size := by rw [size_alloc2]; omega
      have hS := HSub.out _ HB.out h4
      generalize (w3.alloc (.cells #[.string ss, .int .i64 0] 24)).alloc (.cells #[.string ps, .int .i64 0] 24) = w4 at *
      have Hb4 := Lib.hid h4
      have Q4 := Lib.hid q4
      clear h4 q4
      refine hS.mono ?_
      clear hS HSub
      rintro e w5 ⟨rfl, h5⟩
      have Hb5 := Lib.hid (below_next Hb4.out h5)
      have Q5 := Lib.hid ((h5.block _ z4).trans Q4.out)
      have z5 : w3.heap.size + 1 < w5.heap.size := by have := h5.size; omega
      have hE := HE.out w5 s
      clear h5 Hb4 Q4
      go_wp2_with fail
      refine hE.mono ?_
      clear hE
      rintro e w6 ⟨rfl, h6⟩
      have Hb6 := Lib.hid (below_next Hb5.out h6)
      obtain ⟨p0, p1, _, _⟩ := of_block2 ((h6.block _ z5).trans Q5.out)
      have hD := HDiv.out w6 HB.out Hb6.out
      clear h6 Hb5 Q5
      go_wp2_with fail
      refine hD.mono ?_
      clear hD HDiv
      rintro e w7 ⟨rfl, h7⟩
      have Hb7 := Lib.hid (below_next Hb6.out h7)
      have hE := HE.out w7 s
      clear h7 Hb6 p0 p1
      go_wp2_with fail
      refine hE.mono ?_
      clear hE
      rintro e w8 ⟨rfl, h8⟩
      have Hb8 := Lib.hid (below_next Hb7.out h8)
      have hS := HSelf.out w8 HB.out Hb8.out
      clear h8 Hb7
      go_wp2_with fail
      refine hS.mono ?_
      clear hS HSelf
      rintro e w9 ⟨rfl, h9⟩
      have Hb9 := Lib.hid (below_next Hb8.out h9)
      have hE := HE.out w9 { data := #[48] }
      clear h9 Hb8
      go_wp2_with fail
      refine hE.mono ?_
      clear hE
      rintro e w10 ⟨rfl, h10⟩
      have Hb10 := Lib.hid (below_next Hb9.out h10)
      clear h10 Hb9
      go_wp2_with fail
      go_ret
      exact ⟨rfl, Hb10.out⟩
    · go_wp2_with fail
      go_ret
      exact ⟨rfl, Hbw.out⟩
theorem fnBigBack_any (w : World) (s : ByteArray) (hs : s.size ≤ maxLen) (t : ByteArray) (ht : t.size ≤ maxLen) (hT : BigTabs w) :
    Calls Tryz.prog 3 #[.string s, .string t] w (fun e w' => e = .returned (.bool true) ∧ Below w.heap.size w w') :=
  fnBigBack_list w s.data.toList t.data.toList (by rw [Array.length_toList]; unfold maxLen at hs; exact Nat.le_trans hs (by decide)) (by rw [Array.length_toList]; unfold maxLen at ht; exact Nat.le_trans ht (by decide)) hT
end Go.Proofs.YtfgjaoejcbldoaaGreatDoor
