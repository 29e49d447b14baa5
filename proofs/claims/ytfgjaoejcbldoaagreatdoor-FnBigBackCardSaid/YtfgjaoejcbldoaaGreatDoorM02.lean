/- Rows of digits that are written. -/
/- Contract of package big's nat.add. -/
/- Contract of package big's nat.sub. -/
/- Contract of package big's nat.mulAdd. -/
/- Contract of package big's nat.mul. -/
/- 'Or' of numbers whose bits lie apart is their sum. No program in sight. -/
/- Contract of package big's nat.divW. -/
/- Contract of package big's nat.cmp. -/
/- Plain: where an int's sum, difference, product has not run over. No program in sight. -/
import Derived.Test.YtfgjaoejcbldoaaGreatDoorM01
import Derived.Laws.BitsAllLaws
namespace Go.Proofs.YtfgjaoejcbldoaaGreatDoor
open Go Go.RowKit Go.Deep
/-- A row of n digits Z. -/
def RowD (w : World) (zb n : Nat) (Z : Nat → Nat) : Prop := w.rowIs zb 120 n fun k => .int .u32 ((Z k : Nat) : Int)
theorem RowD.set {w : World} {zb n : Nat} {Z : Nat → Nat} (h : RowD w zb n Z) (i z : Nat) : RowD (w.setCell ⟨zb, i, none⟩ (.int .u32 (z : Int))) zb n (putD Z i z) := by
  refine (World.rowIs.set h i (.int .u32 (z : Int))).congr fun k _ => ?_
  by_cases e : k = i
  · subst e; simp [putD]
  · simp only [e, if_false]
    rw [putD_other e]
theorem RowD.same {w w' : World} {zb n : Nat} {Z : Nat → Nat} (h : RowD w zb n Z) (e : w'.heap[zb]? = w.heap[zb]?) : RowD w' zb n Z := World.rowIs.of_block h e
theorem RowD.at {w : World} {zb n : Nat} {Z : Nat → Nat} (h : RowD w zb n Z) {i : Nat} (hi : i < n) : w.cell? ⟨zb, i, none⟩ = some (.int .u32 ((Z i : Nat) : Int)) ∧ w.frozen? ⟨zb, i, none⟩ = false := ⟨World.rowIs.cell h hi, World.rowIs.frozen h i⟩
theorem RowD.raw {w : World} {zb n m : Nat} {Z : Nat → Nat} (h : RowD w zb n Z) (hm : m ≤ n) (hl : m ≤ lenMax) (hD : DigsD Z m) {c : Nat} (hc : m ≤ c) : RawAt w w.heap.size Z m (.slice (some ⟨zb, 0, none⟩) m c) :=
  raw_of_row h (fun _ _ => rfl) hm hl hD hc
theorem RowD.made (w : World) (n : Nat) : RowD (w.alloc (.cells (madeCells #[.int .u32 0] n) 120)) w.heap.size n (fun _ => 0) := World.rowIs_made w (.int .u32 0) n 120
/-- A row of zeros is made. -/
theorem make_digs (n : Nat) (hn : n ≤ 2 * lenMax + 2) (w : World) : (Instr.makeSlice 49 (.int .i64 (n : Int)) (.int .i64 (n : Int))).run Tryz.prog w = .ok (.slice (some ⟨w.heap.size, 0, none⟩) n n) (w.alloc (.cells (madeCells #[.int .u32 0] n) 120)) := by
  obtain ⟨i0, hi, hz0, hz1, hz2⟩ : ∃ i0, Tryz.prog.info? 120 = some i0 ∧ i0.zero = some (.int .u32 0) ∧ i0.size = 1 ∧ i0.bytes = 4 := ⟨(Tryz.prog.info? 120).get (by kernel_rfl), by kernel_rfl, by kernel_rfl, by kernel_rfl, by kernel_rfl⟩
  unfold lenMax at hn
  have h := run_make (P := Tryz.prog) w 49 120 i0 (.int .u32 0) Tryz.underlying49 hi hz0 .i64 .i64 n n (by omega) (by omega) (by rw [hz2]; omega) (by omega)
  rw [hz1] at h
  simp only [Int.toNat_natCast, Nat.mul_one] at h
  exact h
/-- The cells of digits, in a world behind. -/
theorem RawAt.at {w w' : World} {B : Nat} {D : Nat → Nat} {n : Nat} {v : Value} (h : RawAt w B D n v) (hb : Below B w w') {i : Nat} (hi : i < n) :
    ∃ b o c, v = .slice (some ⟨b, o, none⟩) n c ∧ b < B ∧ w'.cell? ⟨b, o + i, none⟩ = some (.int .u32 ((D i : Nat) : Int)) := by
  obtain ⟨a, c, e, _, _, _, h4⟩ := h
  obtain ⟨b, o, rfl, hbb, hc⟩ := h4 (by omega)
  exact ⟨b, o, c, e, hbb, (hb.cell (p := ⟨b, o + i, none⟩) hbb).trans (hc i hi)⟩
end Go.Proofs.YtfgjaoejcbldoaaGreatDoor

namespace Go.Proofs.YtfgjaoejcbldoaaGreatDoor
open Go Go.RowKit Go.Deep
/-- The greatest number that is reckoned with. -/
def lenS : Nat := 1000
def xMax : Nat := bD ^ lenS
theorem NatAt.open {w : World} {B x : Nat} {v : Value} (h : NatAt w B x v) (hx : x < xMax) : ∃ D n, RawAt w B D n v ∧ (n ≠ 0 → D (n - 1) ≠ 0) ∧ x = sumD D n ∧ n ≤ lenS := by
  obtain ⟨D, n, h1, h2, h3⟩ := h
  exact ⟨D, n, h1, h2, h3, sumD_len h2 (by rw [← h3]; exact hx)⟩
/-- What an addition's loop keeps. -/
def AddI (w1 : World) (B zb n : Nat) (X Y : Nat → Nat) (vi vc : Value) (wr : World) : Prop :=
  ∃ (i c : Nat) (Z : Nat → Nat), vi = .int .i64 i ∧ vc = .int .u64 c ∧ i ≤ n ∧ c ≤ 1 ∧ RowD wr zb (n + 1) Z ∧ DigsD Z i ∧ sumD Z i + bD ^ i * c = sumD X i + sumD Y i ∧ Below B w1 wr
set_option maxHeartbeats 4000000 in
set_option maxRecDepth 100000 in
theorem add_core (w : World) (X Y : Nat → Nat) (n m : Nat) (vx vy : Value) (hx : RawAt w w.heap.size X n vx) (hy : RawAt w w.heap.size Y m vy) (hn : n ≤ lenS) (hm : m ≤ n) (swap : Bool) (hsw : swap = true → m < n) :
    Calls Tryz.prog 112 (if swap = true then #[vy, vx] else #[vx, vy]) w (NatP w (sumD X n + sumD Y m)) := by
  unfold lenS at hn
  have Hx := Lib.hid hx
  have Hy := Lib.hid hy
  obtain ⟨ax, cx, rfl, hcx, _, dX, _⟩ := hx
  obtain ⟨ay, cy, rfl, hcy, _, dY, _⟩ := hy
  have DX := Lib.hid dX
  have DY := Lib.hid dY
  have hmk := make_digs (n + 1) (by unfold lenMax; omega) w
  rw [show ((n + 1 : Nat) : Int) = (n : Int) + 1 by omega] at hmk
  have hr1 := RowD.made w (n + 1)
  have hb1 := below_alloc1 w (.cells (madeCells #[.int .u32 0] (n + 1)) 120)
  have hs1 := size_alloc1 w (.cells (madeCells #[.int .u32 0] (n + 1)) 120)
  have hsum := sumD_pad Y m n hm
  have HN := Lib.hid fun (w' : World) (Z : Nat → Nat) (v : Value) (h : RawAt w' w'.heap.size Z (n + 1) v) => norm_any w' Z (n + 1) v h
  clear dX dY
  obtain ⟨w1, hw1⟩ : ∃ w1, w1 = w.alloc (.cells (madeCells #[.int .u32 0] (n + 1)) 120) := ⟨_, rfl⟩
  rw [← hw1] at hr1 hb1 hs1 hmk
  have Hr1 := Lib.hid hr1
  have Hb1 := Lib.hid hb1
  have Hsum := Lib.hid hsum
  clear hr1 hb1 hsum hw1
  have hg : (swap = true ∧ (m : Int) < (n : Int)) ∨ (swap = false ∧ ¬ (n : Int) < (m : Int)) := by
    cases swap
    · exact .inr ⟨rfl, by omega⟩
    · exact .inl ⟨rfl, by have := hsw rfl; omega⟩
  rcases hg with ⟨rfl, hlt⟩ | ⟨rfl, hlt⟩
  all_goals
    clear hsw
    (try simp only [Bool.false_eq_true, if_false])
    (try simp only [if_true])
    go_enter Tryz.func112, Tryz.ntmps112
    go_wp2_with fail
    go_loopw [21, 6] (fun vi vc wr => AddI w1 w.heap.size w.heap.size n X (padD Y m) vi vc wr) (fun vi _ _ => n - (intOf vi).toNat)
    case atStart => exact ⟨0, 0, fun _ => 0, by go_num, by go_num, Nat.zero_le _, by omega, Hr1.out, fun i hi => by omega, by simp [sumD], Below.refl _ _⟩
    case round =>
      obtain ⟨i, c, Z, rfl, rfl, hi, hc, hr, hZ, hsm, hb⟩ := hrel
      have hbw := Hb1.out.trans hb
      by_cases hin : i < n
      · have u1 : (i : Int) < (n : Int) := by omega
        have u2 : (0 : Int) ≤ (i : Int) := by omega
        have u3 : (i : Int) < (n : Int) + 1 := by omega
        obtain ⟨bx, ox, cx', ex, hbx, y1⟩ := Hx.out.at hbw hin
        cases ex
        have bX := DX.out i hin
        have bY := padD_lt DY.out i
        obtain ⟨q1, q2, q3⟩ := add_step bX bY hc hZ hsm
        obtain ⟨T, hT⟩ : ∃ T, T = X i + padD Y m i + c := ⟨_, rfl⟩
        rw [← hT] at q1 q2 q3
        obtain ⟨y3, y4⟩ := hr.at (i := i) (by omega)
        have Q2 := Lib.hid q2
        have Q3 := Lib.hid q3
        have Hr := Lib.hid hr
        have Hb := Lib.hid hb
        have hyc : (i < m ∧ padD Y m i = Y i) ∨ (¬ i < m ∧ padD Y m i = 0) := by
          unfold padD
          by_cases h : i < m
          · exact .inl ⟨h, if_pos h⟩
          · exact .inr ⟨h, if_neg h⟩
        unfold bD at bX bY
        have t1 : (T : Int) % 4294967296 = ((T % bD : Nat) : Int) := by unfold bD; omega
        have t2 : (T : Int) / 4294967296 = ((T / bD : Nat) : Int) := by unfold bD; omega
        have HF := Lib.hid (show AddI w1 w.heap.size w.heap.size n X (padD Y m) (.int .i64 ((i : Int) + 1)) (.int .u64 ((T / bD : Nat) : Int)) (wr.setCell ⟨w.heap.size, i, none⟩ (.int .u32 ((T % bD : Nat) : Int))) from
          ⟨i + 1, T / bD, putD Z i (T % bD), by go_num, rfl, hin, q1, Hr.out.set i _, Q2.out, Q3.out, Hb.out.setCell (Nat.le_refl _) _⟩)
        clear hZ hsm q2 q3 hr hb q1
        rcases hyc with ⟨him, e⟩ | ⟨him, e⟩
        · have u4 : (i : Int) < (m : Int) := by omega
          obtain ⟨b2, o2, c2, ey, hb2, y2⟩ := Hy.out.at hbw him
          cases ey
          rw [e] at hT bY
          have t0 : (c : Int) + ((X i : Nat) : Int) + ((Y i : Nat) : Int) = (T : Int) := by omega
          clear hT
          go_wp2_with fail
          exact ⟨HF.out, by simp [intOf]; omega⟩
        · have u4 : ¬ (i : Int) < (m : Int) := by omega
          rw [e] at hT
          have t0 : (c : Int) + ((X i : Nat) : Int) = (T : Int) := by omega
          clear hT
          go_wp2_with fail
          exact ⟨HF.out, by simp [intOf]; omega⟩
      · have u1 : ¬ (i : Int) < (n : Int) := by omega
        obtain rfl : i = n := by omega
        obtain ⟨q1, q2⟩ := add_last hc hZ hsm
        rw [Hsum.out] at q2
        obtain ⟨y3, y4⟩ := hr.at (i := i) (by omega)
        have hr2 := hr.set i c
        have hb2 : Below w.heap.size w (wr.setCell ⟨w.heap.size, i, none⟩ (.int .u32 (c : Int))) := hbw.setCell (Nat.le_refl _) _
        have hraw := hr2.raw (m := i + 1) (Nat.le_refl _) (by unfold lenMax; omega) q1 (c := i + 1) (Nat.le_refl _)
        have hN := HN.out _ _ _ hraw
        rw [q2] at hN
        have HN2 := Lib.hid hN
        have Hb2 := Lib.hid hb2
        clear hN hraw hr2 hb2 hr hZ hsm hb q1 q2 hbw HN
        have u3 : (c : Int) < 4294967296 := by omega
        go_wp2_with fail
        refine HN2.out.mono ?_
        clear HN2
        rintro e w3 ⟨v', rfl, h3, hb3⟩
        have Hf := Lib.hid (show NatAt w3 w3.heap.size (sumD X i + sumD Y m) v' ∧ Below w.heap.size w w3 from ⟨h3, below_next Hb2.out hb3⟩)
        clear h3 hb3
        go_wp2_with fail
        go_ret
        exact ⟨_, rfl, Hf.out.1, Hf.out.2⟩
theorem add_any (w : World) (x y : Nat) (vx vy : Value) (hx : NatAt w w.heap.size x vx) (hy : NatAt w w.heap.size y vy) (bx : x < xMax) (by' : y < xMax) : Calls Tryz.prog 112 #[vx, vy] w (NatP w (x + y)) := by
  obtain ⟨X, n, h1, _, rfl, h2⟩ := hx.open bx
  obtain ⟨Y, m, h3, _, rfl, h4⟩ := hy.open by'
  rcases Nat.lt_or_ge n m with h | h
  · have := add_core w Y X m n vy vx h3 h1 h4 (by omega) true (fun _ => h)
    rw [Nat.add_comm] at this
    exact this
  · exact add_core w X Y n m vx vy h1 h3 h2 h false (fun h => by cases h)
end Go.Proofs.YtfgjaoejcbldoaaGreatDoor

namespace Go.Proofs.YtfgjaoejcbldoaaGreatDoor
open Go Go.RowKit Go.Deep
theorem u64_wrap (n : Int) : IntKind.u64.wrap n = n % 18446744073709551616 := by simp [IntKind.wrap, IntKind.signed, IntKind.bits]
/-- What a difference's loop keeps. -/
def SubI (w1 : World) (B zb n : Nat) (X Y : Nat → Nat) (vi vb : Value) (wr : World) : Prop :=
  ∃ (i b : Nat) (Z : Nat → Nat), vi = .int .i64 i ∧ vb = .int .u64 b ∧ i ≤ n ∧ b ≤ 1 ∧ RowD wr zb n Z ∧ DigsD Z i ∧ sumD Z i + sumD Y i = sumD X i + bD ^ i * b ∧ Below B w1 wr
set_option maxHeartbeats 4000000 in
set_option maxRecDepth 100000 in
theorem sub_core (w : World) (X Y : Nat → Nat) (n m : Nat) (vx vy : Value) (hx : RawAt w w.heap.size X n vx) (hy : RawAt w w.heap.size Y m vy) (hn : n ≤ lenS) (hm : m ≤ n) (hle : sumD Y m ≤ sumD X n) :
    Calls Tryz.prog 113 #[vx, vy] w (NatP w (sumD X n - sumD Y m)) := by
  unfold lenS at hn
  have Hx := Lib.hid hx
  have Hy := Lib.hid hy
  obtain ⟨ax, cx, rfl, hcx, _, dX, _⟩ := hx
  obtain ⟨ay, cy, rfl, hcy, _, dY, _⟩ := hy
  have DX := Lib.hid dX
  have DY := Lib.hid dY
  have hmk := make_digs n (by unfold lenMax; omega) w
  have hr1 := RowD.made w n
  have hb1 := below_alloc1 w (.cells (madeCells #[.int .u32 0] n) 120)
  have hs1 := size_alloc1 w (.cells (madeCells #[.int .u32 0] n) 120)
  have hsum := sumD_pad Y m n hm
  have HN := Lib.hid fun (w' : World) (Z : Nat → Nat) (v : Value) (h : RawAt w' w'.heap.size Z n v) => norm_any w' Z n v h
  clear dX dY
  obtain ⟨w1, hw1⟩ : ∃ w1, w1 = w.alloc (.cells (madeCells #[.int .u32 0] n) 120) := ⟨_, rfl⟩
  rw [← hw1] at hr1 hb1 hs1 hmk
  have Hr1 := Lib.hid hr1
  have Hb1 := Lib.hid hb1
  have Hsum := Lib.hid hsum
  have Hle := Lib.hid hle
  clear hr1 hb1 hsum hw1 hle
  go_enter Tryz.func113, Tryz.ntmps113
  go_wp2_with fail
  go_loopw [14, 6] (fun vi vb wr => SubI w1 w.heap.size w.heap.size n X (padD Y m) vi vb wr) (fun vi _ _ => n - (intOf vi).toNat)
  case atStart => exact ⟨0, 0, fun _ => 0, by go_num, by go_num, Nat.zero_le _, by omega, Hr1.out, fun i hi => by omega, by simp [sumD], Below.refl _ _⟩
  case round =>
    obtain ⟨i, b, Z, rfl, rfl, hi, hc, hr, hZ, hsm, hb⟩ := hrel
    have hbw := Hb1.out.trans hb
    by_cases hin : i < n
    · have u1 : (i : Int) < (n : Int) := by omega
      have u2 : (0 : Int) ≤ (i : Int) := by omega
      obtain ⟨bx, ox, cx', ex, hbx, y1⟩ := Hx.out.at hbw hin
      cases ex
      have bX := DX.out i hin
      have bY := padD_lt DY.out i
      obtain ⟨q1, q2, q3⟩ := sub_step bX bY hc hZ hsm
      obtain ⟨T, hT⟩ : ∃ T, T = subD (X i) (padD Y m i) b := ⟨_, rfl⟩
      rw [← hT] at q1 q2 q3
      have hTi := subD_int (x := X i) bY hc
      rw [← hT] at hTi
      obtain ⟨y3, y4⟩ := hr.at hin
      have Q2 := Lib.hid q2
      have Q3 := Lib.hid q3
      have Hr := Lib.hid hr
      have Hb := Lib.hid hb
      have hyc : (i < m ∧ padD Y m i = Y i) ∨ (¬ i < m ∧ padD Y m i = 0) := by
        unfold padD
        by_cases h : i < m
        · exact .inl ⟨h, if_pos h⟩
        · exact .inr ⟨h, if_neg h⟩
      unfold bD at bX bY
      have hTl : T < 18446744073709551616 := by rw [hT]; unfold subD; exact Nat.mod_lt _ (by decide)
      have t1 : (T : Int) % 4294967296 = ((T % bD : Nat) : Int) := by unfold bD; omega
      have t2 : (T : Int) / 9223372036854775808 = ((T / 9223372036854775808 : Nat) : Int) := by omega
      have HF := Lib.hid (show SubI w1 w.heap.size w.heap.size n X (padD Y m) (.int .i64 ((i : Int) + 1)) (.int .u64 ((T / 9223372036854775808 : Nat) : Int)) (wr.setCell ⟨w.heap.size, i, none⟩ (.int .u32 ((T % bD : Nat) : Int))) from
        ⟨i + 1, T / 9223372036854775808, putD Z i (T % bD), by go_num, rfl, hin, q1, Hr.out.set i _, Q2.out, Q3.out, Hb.out.setCell (Nat.le_refl _) _⟩)
      clear hZ hsm q2 q3 hr hb q1
      rcases hyc with ⟨him, e⟩ | ⟨him, e⟩
      · have u4 : (i : Int) < (m : Int) := by omega
        obtain ⟨b2, o2, c2, ey, hb2, y2⟩ := Hy.out.at hbw him
        cases ey
        rw [e] at hTi bY
        have tw : IntKind.u64.wrap (IntKind.u64.wrap (((X i : Nat) : Int) - (b : Int)) - ((Y i : Nat) : Int)) = (T : Int) := by
          rw [u64_wrap, u64_wrap, hTi]
          exact Int.emod_sub_emod _ _ _
        have Tw := Lib.hid tw
        clear hT hTi tw
        go_wp2_with fail
        rw [Tw.out, t1, t2]
        exact ⟨HF.out, by simp [intOf]; omega⟩
      · have u4 : ¬ (i : Int) < (m : Int) := by omega
        rw [e] at hTi
        have tw : IntKind.u64.wrap (((X i : Nat) : Int) - (b : Int)) = (T : Int) := by
          rw [u64_wrap, hTi]
          simp
        have Tw := Lib.hid tw
        clear hT hTi tw
        go_wp2_with fail
        rw [Tw.out, t1, t2]
        exact ⟨HF.out, by simp [intOf]; omega⟩
    · have u1 : ¬ (i : Int) < (n : Int) := by omega
      obtain rfl : i = n := by omega
      have q1 := sub_last hc hZ hsm (by rw [Hsum.out]; exact Hle.out)
      rw [Hsum.out] at q1
      have hN := HN.out wr Z (.slice (some ⟨w.heap.size, 0, none⟩) i i) (hr.raw (Nat.le_refl _) (by unfold lenMax; omega) hZ (Nat.le_refl _))
      rw [q1] at hN
      have HN2 := Lib.hid hN
      have Hb2 := Lib.hid hbw
      clear hN hr hZ hsm hb q1 hbw HN
      go_wp2_with fail
      refine HN2.out.mono ?_
      clear HN2
      rintro e w3 ⟨v', rfl, h3, hb3⟩
      have Hf := Lib.hid (show NatAt w3 w3.heap.size (sumD X i - sumD Y m) v' ∧ Below w.heap.size w w3 from ⟨h3, below_next Hb2.out hb3⟩)
      clear h3 hb3
      go_wp2_with fail
      go_ret
      exact ⟨_, rfl, Hf.out.1, Hf.out.2⟩
theorem sumD_le_len {X Y : Nat → Nat} {n m : Nat} (dX : DigsD X n) (hY : m ≠ 0 → Y (m - 1) ≠ 0) (h : sumD Y m ≤ sumD X n) : m ≤ n := sumD_len hY (Nat.lt_of_le_of_lt h (sumD_lt dX))
theorem sub_any (w : World) (x y : Nat) (vx vy : Value) (hx : NatAt w w.heap.size x vx) (hy : NatAt w w.heap.size y vy) (bx : x < xMax) (hle : y ≤ x) : Calls Tryz.prog 113 #[vx, vy] w (NatP w (x - y)) := by
  obtain ⟨X, n, h1, _, rfl, h2⟩ := hx.open bx
  obtain ⟨Y, m, h3, h0, rfl⟩ := hy
  obtain ⟨_, _, _, _, _, dX, _⟩ := id h1
  exact sub_core w X Y n m vx vy h1 h3 h2 (sumD_le_len dX h0 hle) hle
end Go.Proofs.YtfgjaoejcbldoaaGreatDoor

namespace Go.Proofs.YtfgjaoejcbldoaaGreatDoor
open Go Go.RowKit Go.Deep
/-- What the loop of x * y + r keeps. -/
def TimesI (w1 : World) (B zb n y r : Nat) (X : Nat → Nat) (vi vc : Value) (wr : World) : Prop :=
  ∃ (i c : Nat) (Z : Nat → Nat), vi = .int .i64 i ∧ vc = .int .u64 c ∧ i ≤ n ∧ c < bD ∧ RowD wr zb (n + 1) Z ∧ DigsD Z i ∧ sumD Z i + bD ^ i * c = sumD X i * y + r ∧ Below B w1 wr
set_option maxHeartbeats 4000000 in
set_option maxRecDepth 100000 in
theorem mulAdd_any (w : World) (x y r : Nat) (vx : Value) (h : NatAt w w.heap.size x vx) (hxx : x < xMax) (hy : y < bD) (hr0 : r < bD) :
    Calls Tryz.prog 140 #[vx, .int .u32 (y : Int), .int .u32 (r : Int)] w (NatP w (x * y + r)) := by
  obtain ⟨X, n, hx, _, rfl, hn⟩ := h.open hxx
  unfold lenS at hn
  have Hx := Lib.hid hx
  obtain ⟨ax, cx, rfl, hcx, _, dX, _⟩ := hx
  have DX := Lib.hid dX
  have hmk := make_digs (n + 1) (by unfold lenMax; omega) w
  rw [show ((n + 1 : Nat) : Int) = (n : Int) + 1 by omega] at hmk
  have hr1 := RowD.made w (n + 1)
  have hb1 := below_alloc1 w (.cells (madeCells #[.int .u32 0] (n + 1)) 120)
  have hs1 := size_alloc1 w (.cells (madeCells #[.int .u32 0] (n + 1)) 120)
  have HN := Lib.hid fun (w' : World) (Z : Nat → Nat) (v : Value) (h : RawAt w' w'.heap.size Z (n + 1) v) => norm_any w' Z (n + 1) v h
  clear dX h hxx
  obtain ⟨w1, hw1⟩ : ∃ w1, w1 = w.alloc (.cells (madeCells #[.int .u32 0] (n + 1)) 120) := ⟨_, rfl⟩
  rw [← hw1] at hr1 hb1 hs1 hmk
  have Hr1 := Lib.hid hr1
  have Hb1 := Lib.hid hb1
  have Hr0 := Lib.hid hr0
  have Hy0 := Lib.hid hy
  unfold bD at hr0 hy
  clear hr1 hb1 hw1
  go_enter Tryz.func140, Tryz.ntmps140
  go_wp2_with fail
  go_loopw [19, 8] (fun vi vc wr => TimesI w1 w.heap.size w.heap.size n y r X vi vc wr) (fun vi _ _ => n - (intOf vi).toNat)
  case atStart => exact ⟨0, r, fun _ => 0, by go_num, by go_num, Nat.zero_le _, Hr0.out, Hr1.out, fun i hi => by omega, by simp [sumD], Below.refl _ _⟩
  case round =>
    obtain ⟨i, c, Z, rfl, rfl, hi, hc, hr, hZ, hsm, hb⟩ := hrel
    have hbw := Hb1.out.trans hb
    by_cases hin : i < n
    · have u1 : (i : Int) < (n : Int) := by omega
      have u2 : (0 : Int) ≤ (i : Int) := by omega
      have u3 : (i : Int) < (n : Int) + 1 := by omega
      obtain ⟨bx, ox, cx', ex, hbx, y1⟩ := Hx.out.at hbw hin
      cases ex
      have bX := DX.out i hin
      obtain ⟨q1, q0, q2, q3⟩ := times_step bX Hy0.out hc hZ hsm
      obtain ⟨P, hP⟩ : ∃ P, P = X i * y := ⟨_, rfl⟩
      rw [← hP] at q0 q1 q2 q3
      have hPi : ((X i : Nat) : Int) * (y : Int) = (P : Int) := by rw [hP, Int.natCast_mul]
      obtain ⟨T, hT⟩ : ∃ T, T = P + c := ⟨_, rfl⟩
      rw [← hT] at q0 q1 q2 q3
      obtain ⟨y3, y4⟩ := hr.at (i := i) (by omega)
      have Q2 := Lib.hid q2
      have Q3 := Lib.hid q3
      have Hr := Lib.hid hr
      have Hb := Lib.hid hb
      have HF := Lib.hid (show TimesI w1 w.heap.size w.heap.size n y r X (.int .i64 ((i : Int) + 1)) (.int .u64 ((T / bD : Nat) : Int)) (wr.setCell ⟨w.heap.size, i, none⟩ (.int .u32 ((T % bD : Nat) : Int))) from
        ⟨i + 1, T / bD, putD Z i (T % bD), by go_num, rfl, hin, q1, Hr.out.set i _, Q2.out, Q3.out, Hb.out.setCell (Nat.le_refl _) _⟩)
      have t1 : (T : Int) % 4294967296 = ((T % bD : Nat) : Int) := by unfold bD; omega
      have t2 : (T : Int) / 4294967296 = ((T / bD : Nat) : Int) := by unfold bD; omega
      have t0 : (c : Int) + (P : Int) = (T : Int) := by omega
      have hPb : P < 18446744073709551616 := by omega
      unfold bD at bX hc
      clear hZ hsm q2 q3 hr hb q1 hP hT
      go_wp2_with fail
      exact ⟨HF.out, by simp [intOf]; omega⟩
    · have u1 : ¬ (i : Int) < (n : Int) := by omega
      obtain rfl : i = n := by omega
      obtain ⟨q1, q2⟩ := times_last hc hZ hsm
      obtain ⟨y3, y4⟩ := hr.at (i := i) (by omega)
      have hr2 := hr.set i c
      have hb2 : Below w.heap.size w (wr.setCell ⟨w.heap.size, i, none⟩ (.int .u32 (c : Int))) := hbw.setCell (Nat.le_refl _) _
      have hN := HN.out _ _ _ (hr2.raw (m := i + 1) (Nat.le_refl _) (by unfold lenMax; omega) q1 (c := i + 1) (Nat.le_refl _))
      rw [q2] at hN
      have HN2 := Lib.hid hN
      have Hb2 := Lib.hid hb2
      unfold bD at hc
      clear hN hr2 hb2 hr hZ hsm hb q1 q2 hbw HN
      have u3 : (c : Int) < 4294967296 := by omega
      go_wp2_with fail
      refine HN2.out.mono ?_
      clear HN2
      rintro e w3 ⟨v', rfl, h3, hb3⟩
      have Hf := Lib.hid (show NatAt w3 w3.heap.size (sumD X i * y + r) v' ∧ Below w.heap.size w w3 from ⟨h3, below_next Hb2.out hb3⟩)
      clear h3 hb3
      go_wp2_with fail
      go_ret
      exact ⟨_, rfl, Hf.out.1, Hf.out.2⟩
end Go.Proofs.YtfgjaoejcbldoaaGreatDoor

namespace Go.Proofs.YtfgjaoejcbldoaaGreatDoor
open Go Go.RowKit Go.Deep
theorem mul_row {X Y Z Z0 : Nat → Nat} {i m c : Nat} (h0 : sumD Z0 (i + m) = sumD X i * sumD Y m) (hs : sumD (fun k => Z (i + k)) m + bD ^ m * c = sumD (fun k => Z0 (i + k)) m + X i * sumD Y m) (hk : ∀ k, k < i → Z k = Z0 k) :
    sumD (putD Z (i + m) c) (i + 1 + m) = sumD X (i + 1) * sumD Y m := by
  rw [show i + 1 + m = i + m + 1 by omega]
  have e1 : sumD (putD Z (i + m) c) (i + m + 1) = sumD Z (i + m) + bD ^ (i + m) * c := by
    show sumD (putD Z (i + m) c) (i + m) + bD ^ (i + m) * putD Z (i + m) c (i + m) = _
    rw [sumD_put (Nat.le_refl _), putD_at]
  have e2 := sumD_add Z i m
  have e3 := sumD_add Z0 i m
  have e4 : sumD Z i = sumD Z0 i := sumD_congr hk
  have e5 : bD ^ i * (sumD (fun k => Z (i + k)) m + bD ^ m * c) = bD ^ i * (sumD (fun k => Z0 (i + k)) m + X i * sumD Y m) := by rw [hs]
  rw [Nat.mul_add, Nat.mul_add, ← Nat.mul_assoc (bD ^ i) (bD ^ m), ← Nat.pow_add] at e5
  have e6 : sumD X (i + 1) * sumD Y m = sumD X i * sumD Y m + bD ^ i * (X i * sumD Y m) := by
    show (sumD X i + bD ^ i * X i) * sumD Y m = _
    rw [Nat.add_mul, Nat.mul_assoc]
  omega
/-- What a product's loops keep. -/
def MulI (w1 : World) (B zb n m : Nat) (X Y : Nat → Nat) (vi : Value) (wr : World) : Prop :=
  ∃ (i : Nat) (Z : Nat → Nat), vi = .int .i64 i ∧ i ≤ n ∧ RowD wr zb (n + m) Z ∧ DigsD Z (n + m) ∧ sumD Z (i + m) = sumD X i * sumD Y m ∧ (∀ k, i + m ≤ k → Z k = 0) ∧ Below B w1 wr
def MulJ (w1 : World) (B zb n m i a : Nat) (Y Z0 : Nat → Nat) (vj vc : Value) (wr : World) : Prop :=
  ∃ (j c : Nat) (Z : Nat → Nat), vj = .int .i64 j ∧ vc = .int .u64 c ∧ j ≤ m ∧ c < bD ∧ RowD wr zb (n + m) Z ∧ DigsD Z (n + m) ∧ sumD (fun k => Z (i + k)) j + bD ^ j * c = sumD (fun k => Z0 (i + k)) j + a * sumD Y j ∧ (∀ k, k < i ∨ i + j ≤ k → Z k = Z0 k) ∧ Below B w1 wr
theorem digsD_put' {Z : Nat → Nat} {n i z : Nat} (h : DigsD Z n) (hz : z < bD) : DigsD (putD Z i z) n := fun k hk => by
  by_cases e : k = i
  · subst e; rw [putD_at]; exact hz
  · rw [putD_other e]; exact h k hk
set_option maxHeartbeats 4000000 in
set_option maxRecDepth 100000 in
theorem mul_any (w : World) (x y : Nat) (vx vy : Value) (h : NatAt w w.heap.size x vx) (h' : NatAt w w.heap.size y vy) (bx : x < xMax) (by' : y < xMax) : Calls Tryz.prog 78 #[vx, vy] w (NatP w (x * y)) := by
  obtain ⟨X, n, hx, _, rfl, hn⟩ := h.open bx
  obtain ⟨Y, m, hy, _, rfl, hm⟩ := h'.open by'
  unfold lenS at hn hm
  have Hx := Lib.hid hx
  have Hy := Lib.hid hy
  obtain ⟨ax, cx, rfl, hcx, _, dX, _⟩ := hx
  obtain ⟨ay, cy, rfl, hcy, _, dY, _⟩ := hy
  have DX := Lib.hid dX
  have DY := Lib.hid dY
  have hmk := make_digs (n + m) (by unfold lenMax; omega) w
  rw [show ((n + m : Nat) : Int) = (n : Int) + (m : Int) by omega] at hmk
  have hr1 := RowD.made w (n + m)
  have hb1 := below_alloc1 w (.cells (madeCells #[.int .u32 0] (n + m)) 120)
  have hs1 := size_alloc1 w (.cells (madeCells #[.int .u32 0] (n + m)) 120)
  have HN := Lib.hid fun (w' : World) (Z : Nat → Nat) (v : Value) (h : RawAt w' w'.heap.size Z (n + m) v) => norm_any w' Z (n + m) v h
  clear dX dY h h' bx by'
  obtain ⟨w1, hw1⟩ : ∃ w1, w1 = w.alloc (.cells (madeCells #[.int .u32 0] (n + m)) 120) := ⟨_, rfl⟩
  rw [← hw1] at hr1 hb1 hs1 hmk
  have Hr1 := Lib.hid hr1
  have Hb1 := Lib.hid hb1
  clear hr1 hb1 hw1
  go_enter Tryz.func78, Tryz.ntmps78
  go_wp2_with fail
  go_loopw [19] (fun vi wr => MulI w1 w.heap.size w.heap.size n m X Y vi wr) (fun vi _ => n - (intOf vi).toNat)
  case atStart => exact ⟨0, fun _ => 0, by go_num, Nat.zero_le _, Hr1.out, fun i _ => (by decide : 0 < bD), by rw [sumD_zero (fun _ _ => rfl)]; simp [sumD], fun _ _ => rfl, Below.refl _ _⟩
  case round =>
    obtain ⟨i, Z0, rfl, hi, hr, hZ, hsm, hz0, hb⟩ := hrel
    have hbw := Hb1.out.trans hb
    by_cases hin : i < n
    · have u1 : (i : Int) < (n : Int) := by omega
      have u2 : (0 : Int) ≤ (i : Int) := by omega
      obtain ⟨bx, ox, cx', ex, hbx, y1⟩ := Hx.out.at hbw hin
      cases ex
      have bX := DX.out i hin
      have BX := Lib.hid bX
      have Hsm := Lib.hid hsm
      have Hz0 := Lib.hid hz0
      have Hr := Lib.hid hr
      have HZ := Lib.hid hZ
      have Hb := Lib.hid hb
      unfold bD at bX
      clear hsm hz0 hr hZ hb hbw
      obtain ⟨a, ha⟩ : ∃ a, a = X i := ⟨_, rfl⟩
      rw [← ha] at y1 bX BX
      have Ha := Lib.hid ha
      clear ha
      obtain ⟨wo, hwo⟩ : ∃ wo : World, wo = wr := ⟨_, rfl⟩
      go_wp2_with fail
      subst hwo
      go_loopw [26, 8] (fun vj vc wr => MulJ w1 w.heap.size w.heap.size n m i a Y Z0 vj vc wr) (fun vj _ _ => m - (intOf vj).toNat)
      case atStart => exact ⟨0, 0, Z0, by go_num, by go_num, Nat.zero_le _, by decide, Hr.out, HZ.out, by simp [sumD], fun _ _ => rfl, Hb.out⟩
      case round =>
        obtain ⟨j, c, Z, rfl, rfl, hj, hc, hr, hZ, hsm, hk, hb⟩ := hrel
        have hbw := Hb1.out.trans hb
        by_cases hjm : j < m
        · have u4 : (j : Int) < (m : Int) := by omega
          have u5 : (0 : Int) ≤ (j : Int) := by omega
          have u6 : (i : Int) + (j : Int) < (n : Int) + (m : Int) := by omega
          obtain ⟨b2, o2, c2, ey, hb2, y2⟩ := Hy.out.at hbw hjm
          cases ey
          have bY := DY.out j hjm
          have bZ := hZ (i + j) (by omega)
          have eZ : Z (i + j) = Z0 (i + j) := hk _ (.inr (Nat.le_refl _))
          obtain ⟨y3, y4⟩ := hr.at (i := i + j) (by omega)
          obtain ⟨q1, q0, q3⟩ := row_step (Z := Z) (Z0 := Z0) (i := i) bY BX.out hc (by rw [← eZ]; exact bZ) hsm
          rw [← eZ] at q0 q1 q3
          obtain ⟨P, hP⟩ : ∃ P, P = a * Y j := ⟨_, rfl⟩
          rw [← hP] at q0 q1 q3
          have hPi : (a : Int) * ((Y j : Nat) : Int) = (P : Int) := by rw [hP, Int.natCast_mul]
          obtain ⟨T, hT⟩ : ∃ T, T = Z (i + j) + P + c := ⟨_, rfl⟩
          rw [← hT] at q0 q1 q3
          have HF := Lib.hid (show MulJ w1 w.heap.size w.heap.size n m i a Y Z0 (.int .i64 ((j : Int) + 1)) (.int .u64 ((T / bD : Nat) : Int)) (wr.setCell ⟨w.heap.size, i + j, none⟩ (.int .u32 ((T % bD : Nat) : Int))) from
            ⟨j + 1, T / bD, putD Z (i + j) (T % bD), by go_num, rfl, hjm, q1, hr.set (i + j) _, digsD_put' hZ (Nat.mod_lt _ (by decide)), q3, fun k hkk => by rw [putD_other (by omega)]; exact hk k (by omega), hb.setCell (Nat.le_refl _) _⟩)
          have t1 : (T : Int) % 4294967296 = ((T % bD : Nat) : Int) := by unfold bD; omega
          have t2 : (T : Int) / 4294967296 = ((T / bD : Nat) : Int) := by unfold bD; omega
          have t0 : (c : Int) + ((P : Int) + ((Z (i + j) : Nat) : Int)) = (T : Int) := by omega
          have hPb : P + Z (i + j) < 18446744073709551616 := by omega
          unfold bD at bY bZ hc
          clear hr hZ hsm hk hb q1 q3 hP hT eZ hbw
          go_wp2_with fail
          first
            | exact ⟨HF.out, by simp [intOf]; omega⟩
            | (rw [← Int.natCast_ediv, ← Int.natCast_emod]; exact ⟨HF.out, by simp [intOf]; omega⟩)
        · have u4 : ¬ (j : Int) < (m : Int) := by omega
          obtain rfl : j = m := by omega
          have u6 : (i : Int) + (j : Int) < (n : Int) + (j : Int) := by omega
          obtain ⟨y3, y4⟩ := hr.at (i := i + j) (by omega)
          have HF := Lib.hid (show MulI w1 w.heap.size w.heap.size n j X Y (.int .i64 ((i : Int) + 1)) (wr.setCell ⟨w.heap.size, i + j, none⟩ (.int .u32 (c : Int))) from
            ⟨i + 1, putD Z (i + j) c, by go_num, hin, hr.set (i + j) c, digsD_put' hZ hc, mul_row Hsm.out (by rw [← Ha.out]; exact hsm) (fun k hkk => hk k (.inl hkk)), fun k hkk => by rw [putD_other (by omega), hk k (.inr (by omega))]; exact Hz0.out k (by omega), hb.setCell (Nat.le_refl _) _⟩)
          unfold bD at hc
          have u7 : (c : Int) < 4294967296 := by omega
          clear hr hZ hsm hk hb hbw
          go_wp2_with fail
          exact ⟨HF.out, by simp [intOf]; omega⟩
    · have u1 : ¬ (i : Int) < (n : Int) := by omega
      obtain rfl : i = n := by omega
      have hN := HN.out wr Z0 (.slice (some ⟨w.heap.size, 0, none⟩) (i + m) (i + m)) (hr.raw (Nat.le_refl _) (by unfold lenMax; omega) hZ (Nat.le_refl _))
      rw [hsm] at hN
      have HN2 := Lib.hid hN
      have Hb2 := Lib.hid hbw
      clear hN hr hZ hsm hb hz0 hbw HN
      go_wp2_with fail
      refine HN2.out.mono ?_
      clear HN2
      rintro e w3 ⟨v', rfl, h3, hb3⟩
      have Hf := Lib.hid (show NatAt w3 w3.heap.size (sumD X i * sumD Y m) v' ∧ Below w.heap.size w w3 from ⟨h3, below_next Hb2.out hb3⟩)
      clear h3 hb3
      go_wp2_with fail
      go_ret
      exact ⟨_, rfl, Hf.out.1, Hf.out.2⟩
end Go.Proofs.YtfgjaoejcbldoaaGreatDoor

namespace Go.Proofs.YtfgjaoejcbldoaaGreatDoor
open Go
theorem or_add {a b i : Nat} (h : a < 2 ^ i) : (b * 2 ^ i) ||| a = b * 2 ^ i + a := by
  rw [← Nat.shiftLeft_eq, Nat.shiftLeft_add_eq_or_of_lt h]
theorem or64_hi {c x : Nat} (hc : c < bD) (hx : x < bD) : bits .or .u64 ((c : Int) * 4294967296) (x : Int) = ((c * bD + x : Nat) : Int) := by
  unfold bD at *
  rw [show (c : Int) * 4294967296 = ((c * 4294967296 : Nat) : Int) by omega, u64_or_nat _ _ (by omega) (by omega)]
  have := or_add (b := c) (i := 32) (show x < 2 ^ 32 by omega)
  rw [show (2 : Nat) ^ 32 = 4294967296 from rfl] at this
  rw [this]
theorem or64_lo {c x : Nat} (hc : c < bD) (hx : x < bD) : bits .or .u64 (x : Int) ((c : Int) * 4294967296) = ((x + bD * c : Nat) : Int) := by
  unfold bD at *
  rw [show (c : Int) * 4294967296 = ((c * 4294967296 : Nat) : Int) by omega, u64_or_nat _ _ (by omega) (by omega)]
  have := or_add (b := c) (i := 32) (show x < 2 ^ 32 by omega)
  rw [show (2 : Nat) ^ 32 = 4294967296 from rfl] at this
  rw [Nat.or_comm, this]
  congr 1
  omega
theorem or32_lo {z p s : Nat} (hz : z < 2 ^ s) (hp : p * 2 ^ s < bD) (hzb : z < bD) : bits .or .u32 (z : Int) ((p * 2 ^ s : Nat) : Int) = ((z + p * 2 ^ s : Nat) : Int) := by
  unfold bD at *
  rw [u32_or_nat _ _ hzb hp, Nat.or_comm, or_add hz, Nat.add_comm]
end Go.Proofs.YtfgjaoejcbldoaaGreatDoor

namespace Go.Proofs.YtfgjaoejcbldoaaGreatDoor
open Go Go.RowKit Go.Deep
/-- What the loop of x / y keeps: digits from i on are done. -/
def DivWI (w1 : World) (B zb n y : Nat) (X : Nat → Nat) (vi vc : Value) (wr : World) : Prop :=
  ∃ (i c : Nat) (Q : Nat → Nat), vi = .int .i64 ((i : Int) - 1) ∧ vc = .int .u64 c ∧ i ≤ n ∧ c < y ∧ RowD wr zb n Q ∧ DigsD Q n ∧ topD X n i = y * topD Q n i + c ∧ Below B w1 wr
/-- How the division by a digit answers. -/
def DivWP (w : World) (x y : Nat) (e : Ending) (w' : World) : Prop := ∃ v, e = .returned (.tuple #[v, .int .u32 ((x % y : Nat) : Int)]) ∧ NatAt w' w'.heap.size (x / y) v ∧ Below w.heap.size w w'
/-- .. and the quotient lies in a block of its own. -/
def DivWF (w : World) (x y : Nat) (e : Ending) (w' : World) : Prop := ∃ v, e = .returned (.tuple #[v, .int .u32 ((x % y : Nat) : Int)]) ∧ NatAt w' w'.heap.size (x / y) v ∧ Below w.heap.size w w' ∧ ∀ b o n c, v = .slice (some ⟨b, o, none⟩) n c → w.heap.size ≤ b
theorem divW_end {x y q c : Nat} (h : x = y * q + c) (hc : c < y) : x / y = q ∧ x % y = c := by
  subst h
  have hy : 0 < y := by omega
  rw [Nat.mul_add_div hy, Nat.div_eq_of_lt hc, Nat.mul_add_mod, Nat.mod_eq_of_lt hc]
  exact ⟨by omega, rfl⟩
set_option maxHeartbeats 4000000 in
set_option maxRecDepth 100000 in
theorem divW_own (w : World) (x y : Nat) (vx : Value) (h : NatAt w w.heap.size x vx) (hxx : x < xMax) (hy : y < bD) (hy0 : 0 < y) :
    Calls Tryz.prog 109 #[vx, .int .u32 (y : Int)] w (DivWF w x y) := by
  obtain ⟨X, n, hx, _, rfl, hn⟩ := h.open hxx
  unfold lenS at hn
  have Hx := Lib.hid hx
  obtain ⟨ax, cx, rfl, hcx, _, dX, _⟩ := hx
  have DX := Lib.hid dX
  have hmk := make_digs n (by unfold lenMax; omega) w
  have hr1 := RowD.made w n
  have hb1 := below_alloc1 w (.cells (madeCells #[.int .u32 0] n) 120)
  have hs1 := size_alloc1 w (.cells (madeCells #[.int .u32 0] n) 120)
  have HN := Lib.hid fun (w' : World) (Z : Nat → Nat) (h : RawAt w' w'.heap.size Z n (.slice (some ⟨w.heap.size, 0, none⟩) n n)) => norm_same w' Z n _ n h
  clear dX h hxx
  obtain ⟨w1, hw1⟩ : ∃ w1, w1 = w.alloc (.cells (madeCells #[.int .u32 0] n) 120) := ⟨_, rfl⟩
  rw [← hw1] at hr1 hb1 hs1 hmk
  have Hr1 := Lib.hid hr1
  have Hb1 := Lib.hid hb1
  have Hy0 := Lib.hid hy
  unfold bD at hy
  clear hr1 hb1 hw1
  go_enter Tryz.func109, Tryz.ntmps109
  go_wp2_with fail
  go_loopw [8, 7] (fun vi vc wr => DivWI w1 w.heap.size w.heap.size n y X vi vc wr) (fun vi _ _ => (intOf vi + 1).toNat)
  case atStart => exact ⟨n, 0, fun _ => 0, rfl, by go_num, Nat.le_refl _, hy0, Hr1.out, fun i _ => (by decide : 0 < bD), by rw [topD_end, topD_end]; rfl, Below.refl _ _⟩
  case round =>
    obtain ⟨i, c, Q, rfl, rfl, hi, hc, hr, hZ, hsm, hb⟩ := hrel
    have hbw := Hb1.out.trans hb
    by_cases h0 : 0 < i
    · obtain ⟨k, rfl⟩ : ∃ k, i = k + 1 := ⟨i - 1, by omega⟩
      have e0 : ((k + 1 : Nat) : Int) - 1 = (k : Int) := by omega
      rw [e0]
      have hin : k < n := by omega
      have u1 : (k : Int) < (n : Int) := by omega
      have u2 : (0 : Int) ≤ (k : Int) := by omega
      obtain ⟨bx, ox, cx', ex, hbx, y1⟩ := Hx.out.at hbw hin
      cases ex
      have bX := DX.out k hin
      obtain ⟨y3, y4⟩ := hr.at hin
      have hcb : c < bD := by unfold bD; omega
      have hor := or64_hi hcb bX
      obtain ⟨T, hT⟩ : ∃ T, T = c * bD + X k := ⟨_, rfl⟩
      rw [← hT] at hor
      have hTb : T < 18446744073709551616 := by unfold bD at *; omega
      have hqd : T / y < bD := by rw [hT]; exact div_digit hc bX
      have hqr := Nat.div_add_mod T y
      have hst := topD_div (X := X) (Q := putD Q k (T / y)) (n := n) (i := k) (y := y) (c := c) (c' := T % y) hin (by
        rw [topD_congr (D := putD Q k (T / y)) (E := Q) fun q h1 _ => putD_other (by omega)]
        exact hsm) (by rw [putD_at, ← hT]; exact hqr.symm)
      have e1 : (T : Int).tmod (y : Int) = ((T % y : Nat) : Int) := rfl
      have e2 : (T : Int).tdiv (y : Int) = ((T / y : Nat) : Int) := rfl
      have HF := Lib.hid (show DivWI w1 w.heap.size w.heap.size n y X (.int .i64 ((k : Int) - 1)) (.int .u64 ((T % y : Nat) : Int)) (wr.setCell ⟨w.heap.size, k, none⟩ (.int .u32 ((T / y : Nat) : Int))) from
        ⟨k, T % y, putD Q k (T / y), rfl, rfl, by omega, Nat.mod_lt _ hy0, hr.set k _, digsD_put' hZ hqd, hst, hb.setCell (Nat.le_refl _) _⟩)
      have Hor := Lib.hid hor
      have e3 : IntKind.u64.wrap ((T / y : Nat) : Int) % 4294967296 = ((T / y : Nat) : Int) := by
        unfold bD at hqd
        rw [u64_wrap]
        generalize T / y = q at *
        omega
      have E3 := Lib.hid e3
      have bX' := bX
      unfold bD at bX' hcb
      clear hst hT hor hr hZ hsm hb hqr e3 hbw
      go_wp2_with fail
      rw [Hor.out, e1, e2, E3.out]
      exact ⟨HF.out, by first | (simp [intOf]; done) | (simp [intOf]; omega)⟩
    · obtain rfl : i = 0 := by omega
      rw [topD_zero, topD_zero] at hsm
      obtain ⟨q1, q2⟩ := divW_end hsm hc
      have hN := HN.out wr Q (hr.raw (Nat.le_refl _) (by unfold lenMax; omega) hZ (Nat.le_refl _))
      rw [← q1] at hN
      have HN2 := Lib.hid hN
      have Hb2 := Lib.hid hbw
      have Q2 := Lib.hid q2
      have u3 : (c : Int) < 4294967296 := by omega
      clear hN hr hZ hsm hb q1 q2 hbw HN
      go_wp2_with fail
      refine HN2.out.mono ?_
      clear HN2
      rintro e w3 ⟨v', rfl, h3, hb3⟩
      have Hf := Lib.hid (show DivWF w (sumD X n) y (.returned (.tuple #[.slice (some ⟨w.heap.size, 0, none⟩) v' n, .int .u32 (c : Int)])) w3 from ⟨_, by rw [Q2.out], h3, below_next Hb2.out hb3, fun b o n c e => by cases e; exact Nat.le_refl _⟩)
      clear h3 hb3
      go_wp2_with fail
      go_ret2
      exact Hf.out
theorem divW_any (w : World) (x y : Nat) (vx : Value) (h : NatAt w w.heap.size x vx) (hxx : x < xMax) (hy : y < bD) (hy0 : 0 < y) :
    Calls Tryz.prog 109 #[vx, .int .u32 (y : Int)] w (DivWP w x y) :=
  (divW_own w x y vx h hxx hy hy0).mono fun _ _ ⟨v, e, h1, h2, _⟩ => ⟨v, e, h1, h2⟩
end Go.Proofs.YtfgjaoejcbldoaaGreatDoor

namespace Go.Proofs.YtfgjaoejcbldoaaGreatDoor
open Go Go.RowKit Go.Deep
def cmpN (x y : Nat) : Int := if x < y then -1 else if y < x then 1 else 0
def IntP (w : World) (c : Int) (e : Ending) (w' : World) : Prop := e = .returned (.int .i64 c) ∧ Below w.heap.size w w'
def CmpI (w : World) (n : Nat) (X Y : Nat → Nat) (vi : Value) (wr : World) : Prop :=
  ∃ i : Nat, vi = .int .i64 ((i : Int) - 1) ∧ i ≤ n ∧ (∀ k, i ≤ k → k < n → X k = Y k) ∧ Below w.heap.size w wr
set_option maxHeartbeats 4000000 in
set_option maxRecDepth 100000 in
theorem cmp_any (w : World) (x y : Nat) (vx vy : Value) (h : NatAt w w.heap.size x vx) (h' : NatAt w w.heap.size y vy) : Calls Tryz.prog 111 #[vx, vy] w (IntP w (cmpN x y)) := by
  obtain ⟨X, n, hx, x0, rfl⟩ := h
  obtain ⟨Y, m, hy, y0, rfl⟩ := h'
  have Hx := Lib.hid hx
  have Hy := Lib.hid hy
  obtain ⟨ax, cx, rfl, hcx, hnl, dX, _⟩ := hx
  obtain ⟨ay, cy, rfl, hcy, hml, dY, _⟩ := hy
  unfold lenMax at hnl hml
  have DX := Lib.hid dX
  have DY := Lib.hid dY
  by_cases hnm : n = m
  · subst hnm
    clear x0 y0 dX dY
    go_enter Tryz.func111, Tryz.ntmps111
    go_wp2_with fail
    go_loopw [5] (fun vi wr => CmpI w n X Y vi wr) (fun vi _ => (intOf vi + 1).toNat)
    case atStart => exact ⟨n, rfl, Nat.le_refl _, fun k h1 h2 => by omega, Below.refl _ _⟩
    case round =>
      obtain ⟨i, rfl, hi, he, hb⟩ := hrel
      by_cases h0 : 0 < i
      · obtain ⟨k, rfl⟩ : ∃ k, i = k + 1 := ⟨i - 1, by omega⟩
        have e0 : ((k + 1 : Nat) : Int) - 1 = (k : Int) := by omega
        rw [e0]
        have hin : k < n := by omega
        have u1 : (k : Int) < (n : Int) := by omega
        have u2 : (0 : Int) ≤ (k : Int) := by omega
        obtain ⟨b1, o1, c1, ex, hb1, y1⟩ := Hx.out.at hb hin
        cases ex
        obtain ⟨b2, o2, c2, ey, hb2, y2⟩ := Hy.out.at hb hin
        cases ey
        have He := Lib.hid he
        have Hb := Lib.hid hb
        clear he hb
        rcases Nat.lt_trichotomy (X k) (Y k) with c | c | c
        · have hlt : sumD X n < sumD Y n := sumD_top DX.out k (n - (k + 1)) (by omega) (fun j h1 h2 => He.out j (by omega) h2) c
          have z1 : (((X k : Nat) : Int) != ((Y k : Nat) : Int)) = true := by
            have : ((X k : Nat) : Int) ≠ ((Y k : Nat) : Int) := by omega
            simpa using this
          have z2 : ((X k : Nat) : Int) < ((Y k : Nat) : Int) := by omega
          have Hr : Hid (cmpN (sumD X n) (sumD Y n) = -1) := Lib.hid (by unfold cmpN; rw [if_pos hlt])
          clear hlt c
          go_wp2_with fail
          go_quiet (fail)
          go_wp2_with fail
          go_quiet (fail)
          go_wp2_with fail
          go_ret
          exact ⟨by rw [Hr.out]; rfl, Below.trans Hb.out ⟨rfl, rfl, rfl, Nat.le_refl _, fun _ _ => rfl⟩⟩
        · have z1 : (((X k : Nat) : Int) != ((Y k : Nat) : Int)) = false := by rw [c]; simp
          have HF : Hid (∀ w', Below w.heap.size w w' → CmpI w n X Y (.int .i64 ((k : Int) - 1)) w') := Lib.hid fun w' hb => ⟨k, rfl, by omega, fun j h1 h2 => by
            by_cases e : j = k
            · rw [e]; exact c
            · exact He.out j (by omega) h2, hb⟩
          rw [c] at y1 z1
          clear c
          go_wp2_with fail
          go_quiet (fail)
          go_wp2_with fail
          exact ⟨HF.out _ (Below.trans Hb.out ⟨rfl, rfl, rfl, Nat.le_refl _, fun _ _ => rfl⟩), by first | (simp [intOf]; done) | (simp [intOf]; omega)⟩
        · have hlt : sumD Y n < sumD X n := sumD_top DY.out k (n - (k + 1)) (by omega) (fun j h1 h2 => (He.out j (by omega) h2).symm) c
          have z1 : (((X k : Nat) : Int) != ((Y k : Nat) : Int)) = true := by
            have : ((X k : Nat) : Int) ≠ ((Y k : Nat) : Int) := by omega
            simpa using this
          have z2 : ¬ ((X k : Nat) : Int) < ((Y k : Nat) : Int) := by omega
          have Hr : Hid (cmpN (sumD X n) (sumD Y n) = 1) := Lib.hid (by unfold cmpN; rw [if_neg (by omega), if_pos hlt])
          clear hlt c
          go_wp2_with fail
          go_quiet (fail)
          go_wp2_with fail
          go_quiet (fail)
          go_wp2_with fail
          go_ret
          exact ⟨by rw [Hr.out]; rfl, Below.trans Hb.out ⟨rfl, rfl, rfl, Nat.le_refl _, fun _ _ => rfl⟩⟩
      · obtain rfl : i = 0 := by omega
        have Hr : Hid (cmpN (sumD X n) (sumD Y n) = 0) := Lib.hid (by
          have e : sumD X n = sumD Y n := sumD_congr fun k hk => he k (Nat.zero_le _) hk
          unfold cmpN
          rw [e, if_neg (Nat.lt_irrefl _), if_neg (Nat.lt_irrefl _)])
        have Hb := Lib.hid hb
        clear he hb
        go_wp2_with fail
        go_ret
        exact ⟨by rw [Hr.out]; rfl, Hb.out⟩
  · have z0 : (((n : Nat) : Int) != ((m : Nat) : Int)) = true := by
      have : ((n : Nat) : Int) ≠ ((m : Nat) : Int) := by omega
      simpa using this
    by_cases hlt : n < m
    · have h1 : sumD X n < sumD Y m := sumD_short dX hlt (y0 (by omega))
      have Hr : Hid (cmpN (sumD X n) (sumD Y m) = -1) := Lib.hid (by unfold cmpN; rw [if_pos h1])
      have u1 : (n : Int) < (m : Int) := by omega
      clear h1 x0 y0 dX dY
      go_enter Tryz.func111, Tryz.ntmps111
      go_wp2_with fail
      go_ret
      exact ⟨by rw [Hr.out]; rfl, Below.refl _ _⟩
    · have h1 : sumD Y m < sumD X n := sumD_short dY (by omega) (x0 (by omega))
      have Hr : Hid (cmpN (sumD X n) (sumD Y m) = 1) := Lib.hid (by unfold cmpN; rw [if_neg (by omega), if_pos h1])
      have u1 : ¬ (n : Int) < (m : Int) := by omega
      clear h1 x0 y0 dX dY
      go_enter Tryz.func111, Tryz.ntmps111
      go_wp2_with fail
      go_ret
      exact ⟨by rw [Hr.out]; rfl, Below.refl _ _⟩
end Go.Proofs.YtfgjaoejcbldoaaGreatDoor

namespace Go.Proofs.YtfgjaoejcbldoaaGreatDoor
open Go Go.RowKit
def I64 (n : Int) : Prop := -9223372036854775808 ≤ n ∧ n ≤ 9223372036854775807
theorem wrap_I64 (n : Int) : I64 (wrap64 n) := by unfold I64 wrap64; omega
theorem wrap_self {n : Int} (h : I64 n) : wrap64 n = n := by unfold I64 at h; unfold wrap64; omega
theorem add_ok {l r : Int} (hl : I64 l) (hr : I64 r) (h : l ≤ wrap64 (l + r) ↔ 0 ≤ r) : wrap64 (l + r) = l + r := by
  unfold I64 at hl hr
  unfold wrap64 at *
  omega
theorem sub_ok {l r : Int} (hl : I64 l) (hr : I64 r) (h : wrap64 (l - r) ≤ l ↔ 0 ≤ r) : wrap64 (l - r) = l - r := by
  unfold I64 at hl hr
  unfold wrap64 at *
  omega
theorem mul_ok {l r : Int} (hr : I64 r) (h0 : r ≠ 0) (h : (wrap64 (l * r)).tdiv r = l) : wrap64 (l * r) = l * r := by
  obtain ⟨k, hk⟩ : ∃ k : Int, wrap64 (l * r) = l * r + k * 18446744073709551616 := by
    refine ⟨-((l * r + 9223372036854775808) / 18446744073709551616), ?_⟩
    unfold wrap64
    omega
  have e := Int.mul_tdiv_add_tmod (wrap64 (l * r)) r
  rw [h, Int.mul_comm r l] at e
  have hm : ((wrap64 (l * r)).tmod r).natAbs < r.natAbs := by
    rw [Int.natAbs_tmod]
    exact Nat.mod_lt _ (by omega)
  generalize (wrap64 (l * r)).tmod r = m at *
  unfold I64 at hr
  omega
end Go.Proofs.YtfgjaoejcbldoaaGreatDoor
