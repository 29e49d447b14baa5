/- Contracts of package big's Int: Add, Sub. -/
/- Contract of package big's nat.bitLen. -/
/- Contract of package big's nat.lsh, below 32 bits. -/
/- Contract of package big's nat.rsh, below 32 bits. -/
/- package big's nat.div: the short ways; the memory of the long way. -/
/- Plain: one round of long division, digits of 32 bits. No program in sight. -/
import Derived.Test.YtfgjaoejcbldoaaGreatDoorM07
import Derived.Test.YtfgjaoejcbldoaaGreatDoorM02
import Derived.Test.YtfgjaoejcbldoaaGreatDoorM03
import Derived.Laws.CopyRow
import Derived.Test.YtfgjaoejcbldoaaGreatDoorM01
namespace Go.Proofs.YtfgjaoejcbldoaaGreatDoor
open Go Go.RowKit Go.Deep
theorem IntZ.drew {w : World} {zb : Nat} {z : Int} {e : Ending} {w' : World} (h : IntZ w.drew zb z e w') : IntZ w zb z e w' := ⟨h.1, h.2.1, (below_dr (Below.refl zb w)).trans h.2.2⟩
set_option maxHeartbeats 4000000 in
set_option maxRecDepth 100000 in
theorem intAdd_any (w : World) (zb xb yb : Nat) (z0 zx zy : Int) (hz : IntIn w w.heap.size z0 zb) (hx : IntIn w w.heap.size zx xb) (hy : IntIn w w.heap.size zy yb) (bx : zx.natAbs < xMax) (by' : zy.natAbs < xMax) :
    Calls Tryz.prog 33 #[.pointer (some ⟨zb, 0, none⟩), .pointer (some ⟨xb, 0, none⟩), .pointer (some ⟨yb, 0, none⟩)] w (IntZ w zb (zx + zy)) := by
  obtain ⟨s, a, n, c, y, hyc, hyn, rfl, _⟩ := hy.open
  rw [num_abs] at by'
  have hS := sum_any w.drew zb xb y z0 zx s _ hz hx hyn bx by'
  have HS := Lib.hid hS
  obtain ⟨y0, y1, _, _⟩ := of_block2 hyc
  clear hS hz hx hy hyn bx by' hyc
  go_enter Tryz.func33, Tryz.ntmps33
  go_wp2_with fail
  go_region_with (go_at_call 76; refine HS.out.mono ?_; rintro e w6 ⟨rfl, hv6, hb6⟩)
  all_goals have HF := Lib.hid (show IntZ w zb (zx + num s y) (.returned (.pointer (some ⟨zb, 0, none⟩))) w6 from IntZ.drew ⟨rfl, hv6, hb6⟩)
  all_goals clear hv6 hb6
  all_goals go_wp2_with fail
  all_goals go_ret
  all_goals exact HF.out
set_option maxHeartbeats 4000000 in
set_option maxRecDepth 100000 in
theorem intSub_any (w : World) (zb xb yb : Nat) (z0 zx zy : Int) (hz : IntIn w w.heap.size z0 zb) (hx : IntIn w w.heap.size zx xb) (hy : IntIn w w.heap.size zy yb) (bx : zx.natAbs < xMax) (by' : zy.natAbs < xMax) :
    Calls Tryz.prog 53 #[.pointer (some ⟨zb, 0, none⟩), .pointer (some ⟨xb, 0, none⟩), .pointer (some ⟨yb, 0, none⟩)] w (IntZ w zb (zx - zy)) := by
  obtain ⟨s, a, n, c, y, hyc, hyn, rfl, _⟩ := hy.open
  rw [num_abs] at by'
  have hS := sum_any w.drew zb xb y z0 zx (!s) _ hz hx hyn bx by'
  rw [show zx + num (!s) y = zx - num s y by unfold num; cases s <;> simp <;> omega] at hS
  have HS := Lib.hid hS
  obtain ⟨y0, y1, _, _⟩ := of_block2 hyc
  clear hS hz hx hy hyn bx by' hyc
  go_enter Tryz.func53, Tryz.ntmps53
  go_wp2_with fail
  go_region_with (go_at_call 76; refine HS.out.mono ?_; rintro e w6 ⟨rfl, hv6, hb6⟩)
  all_goals have HF := Lib.hid (show IntZ w zb (zx - num s y) (.returned (.pointer (some ⟨zb, 0, none⟩))) w6 from IntZ.drew ⟨rfl, hv6, hb6⟩)
  all_goals clear hv6 hb6
  all_goals go_wp2_with fail
  all_goals go_ret
  all_goals exact HF.out
end Go.Proofs.YtfgjaoejcbldoaaGreatDoor

namespace Go.Proofs.YtfgjaoejcbldoaaGreatDoor
open Go Go.RowKit Go.Deep
/-- What the count of bits keeps: d halved m times. -/
def BitI (w : World) (n d : Nat) (vd vn : Value) (wr : World) : Prop :=
  ∃ m : Nat, vd = .int .u32 ((d / 2 ^ m : Nat) : Int) ∧ vn = .int .i64 ((32 * (n - 1) + m : Nat) : Int) ∧ m ≤ 32 ∧ (m = 0 ∨ d / 2 ^ (m - 1) ≠ 0) ∧ Below w.heap.size w wr
/-- How bitLen answers: m bits of the highest digit. -/
def BitP (w : World) (n d : Nat) (e : Ending) (w' : World) : Prop :=
  ∃ m : Nat, e = .returned (.int .i64 ((32 * (n - 1) + m : Nat) : Int)) ∧ (0 < m ∧ m ≤ 32 ∧ 2 ^ (m - 1) ≤ d ∧ d < 2 ^ m) ∧ Below w.heap.size w w'
theorem half_step (d m : Nat) : d / 2 ^ m / 2 = d / 2 ^ (m + 1) := by rw [Nat.pow_succ, Nat.div_div_eq_div_mul]
theorem half_more {d m : Nat} (hd : d < bD) (h : d / 2 ^ m ≠ 0) : m < 32 := by
  rcases Nat.lt_or_ge m 32 with c | c
  · exact c
  · exfalso
    have h1 : 2 ^ 32 ≤ 2 ^ m := Nat.pow_le_pow_right (by decide) c
    have e : 2 ^ 32 = bD := by decide
    exact h (Nat.div_eq_of_lt (by omega))
set_option maxHeartbeats 4000000 in
set_option maxRecDepth 100000 in
theorem bitLen_any (w : World) (X : Nat → Nat) (n : Nat) (vx : Value) (hx : RawAt w w.heap.size X n vx) (hn0 : 0 < n) (hn : n ≤ lenS + 1) (h0 : X (n - 1) ≠ 0) :
    Calls Tryz.prog 154 #[vx] w (BitP w n (X (n - 1))) := by
  unfold lenS at hn
  obtain ⟨bx, ox, cx, rfl, hbx, y1⟩ := hx.at (Below.refl _ _) (i := n - 1) (by omega)
  obtain ⟨_, _, e, hcx, _, dX, _⟩ := hx
  have bX := dX (n - 1) (by omega)
  clear dX e
  generalize X (n - 1) = d at *
  have u1 : (((n : Nat) : Int) == 0) = false := by
    have : ((n : Nat) : Int) ≠ 0 := by omega
    simpa using this
  have u2 : (0 : Int) ≤ (n : Int) - 1 := by omega
  have u3 : (n : Int) - 1 < (n : Int) := by omega
  have u4 : ((n : Int) - 1).toNat = n - 1 := by omega
  have u5 : 32 * ((n : Int) - 1) = ((32 * (n - 1) : Nat) : Int) := by omega
  have Hbd := Lib.hid bX
  have Hd0 := Lib.hid h0
  unfold bD at bX
  go_enter Tryz.func154, Tryz.ntmps154
  go_wp2_with fail
  go_loopw [4, 3] (fun vd vn wr => BitI w n d vd vn wr) (fun vd _ _ => (intOf vd).toNat)
  case atStart => exact ⟨0, by simp, by simp, Nat.zero_le _, .inl rfl, Below.refl _ _⟩
  case round =>
    obtain ⟨m, rfl, rfl, hm, hc, hb⟩ := hrel
    have Hb := Lib.hid hb
    by_cases hz : d / 2 ^ m = 0
    · have Hr := Lib.hid (bits_end hz hc Hd0.out Hbd.out)
      rw [hz]
      clear hb hc hz
      go_wp2_with fail
      go_ret
      exact ⟨m, rfl, Hr.out, Hb.out⟩
    · have hm2 := half_more Hbd.out hz
      have HF := Lib.hid (show BitI w n d (.int .u32 ((d / 2 ^ (m + 1) : Nat) : Int)) (.int .i64 ((32 * (n - 1) + (m + 1) : Nat) : Int)) wr from ⟨m + 1, rfl, rfl, hm2, .inr hz, Hb.out⟩)
      have hlt : d / 2 ^ (m + 1) < d / 2 ^ m := by rw [← half_step]; exact Nat.div_lt_self (Nat.pos_of_ne_zero hz) (by decide)
      have hle : d / 2 ^ m < 4294967296 := Nat.lt_of_le_of_lt (Nat.div_le_self _ _) bX
      have hst := half_step d m
      generalize d / 2 ^ (m + 1) = d2 at *
      generalize d / 2 ^ m = d1 at *
      have z1 : (((d1 : Nat) : Int) != 0) = true := by
        have : ((d1 : Nat) : Int) ≠ 0 := by omega
        simpa using this
      have t1 : (d1 : Int) / 2 = (d2 : Int) := by omega
      have t2 : ((32 * (n - 1) + m : Nat) : Int) + 1 = ((32 * (n - 1) + (m + 1) : Nat) : Int) := by omega
      clear hb hc hz hst
      go_wp2_with fail
      exact ⟨HF.out, by first | (simp [intOf]; done) | (simp [intOf]; omega)⟩
end Go.Proofs.YtfgjaoejcbldoaaGreatDoor

namespace Go.Proofs.YtfgjaoejcbldoaaGreatDoor
open Go Go.RowKit Go.Deep
/-- What the loop of x << s keeps: the next digit is the carry. -/
def LshI (w1 : World) (B zb n s : Nat) (X : Nat → Nat) (vi : Value) (wr : World) : Prop :=
  ∃ (i : Nat) (Z : Nat → Nat), vi = .int .i64 i ∧ i ≤ n ∧ RowD wr zb (n + 1) Z ∧ DigsD Z i ∧ Z i < 2 ^ s ∧ sumD Z i + bD ^ i * Z i = 2 ^ s * sumD X i ∧ Below B w1 wr
theorem lsh_step {X Z : Nat → Nat} {i s : Nat} (hs : s < 32) (hX : X i < bD) (hZ : DigsD Z i) (hc : Z i < 2 ^ s) (h : sumD Z i + bD ^ i * Z i = 2 ^ s * sumD X i) :
    X i * 2 ^ s < 18446744073709551616 ∧ X i * 2 ^ s / bD < 2 ^ s ∧ Z i + X i * 2 ^ s % bD < bD ∧
      bits .or .u32 ((Z i : Nat) : Int) ((X i * 2 ^ s % bD : Nat) : Int) = ((Z i + X i * 2 ^ s % bD : Nat) : Int) ∧
      DigsD (putD (putD Z i (Z i + X i * 2 ^ s % bD)) (i + 1) (X i * 2 ^ s / bD)) (i + 1) ∧
      sumD (putD (putD Z i (Z i + X i * 2 ^ s % bD)) (i + 1) (X i * 2 ^ s / bD)) (i + 1) + bD ^ (i + 1) * (X i * 2 ^ s / bD) = 2 ^ s * sumD X (i + 1) := by
  have hp : 0 < 2 ^ s := Nat.pow_pos (by decide)
  have hq : 0 < 2 ^ (32 - s) := Nat.pow_pos (by decide)
  have hb : bD = 2 ^ (32 - s) * 2 ^ s := by rw [← Nat.pow_add, show 32 - s + s = 32 by omega]; rfl
  have hpl : 2 ^ s ≤ 2147483648 := Nat.le_trans (Nat.pow_le_pow_right (by decide) (show s ≤ 31 by omega)) (by decide)
  have h1 : X i * 2 ^ s < bD * 2 ^ s := Nat.mul_lt_mul_of_pos_right hX hp
  have h2 : bD * 2 ^ s ≤ bD * 2147483648 := Nat.mul_le_mul_left _ hpl
  have hm : X i * 2 ^ s % bD = X i % 2 ^ (32 - s) * 2 ^ s := by rw [hb, Nat.mul_mod_mul_right]
  have hd : X i * 2 ^ s / bD < 2 ^ s := by
    rw [Nat.div_lt_iff_lt_mul (by decide), Nat.mul_comm (2 ^ s)]
    exact h1
  have hlt : X i % 2 ^ (32 - s) < 2 ^ (32 - s) := Nat.mod_lt _ hq
  have h3 : (X i % 2 ^ (32 - s) + 1) * 2 ^ s ≤ bD := by
    rw [hb]
    exact Nat.mul_le_mul_right _ hlt
  rw [Nat.add_mul, Nat.one_mul] at h3
  have h4 : X i % 2 ^ (32 - s) * 2 ^ s < bD := by omega
  have hdm := Nat.div_add_mod (X i * 2 ^ s) bD
  have hsum : Z i + X i * 2 ^ s % bD < bD := by rw [hm]; omega
  have hdig : DigsD (putD Z i (Z i + X i * 2 ^ s % bD)) (i + 1) := digsD_put hZ hsum
  refine ⟨by unfold bD at h1 h2; omega, hd, hsum, ?_, fun k hk => by rw [putD_other (by omega)]; exact hdig k hk, ?_⟩
  · rw [hm]
    exact or32_lo hc h4 (by unfold bD; omega)
  · rw [sumD_put (Nat.le_refl _)]
    refine sumD_lsh (c := Z i) (by rw [sumD_put (Nat.le_refl _)]; exact h) ?_
    rw [putD_at, Nat.mul_comm (2 ^ s)]
    omega
set_option maxHeartbeats 4000000 in
set_option maxRecDepth 100000 in
theorem lsh_any (w : World) (x s : Nat) (vx : Value) (h : NatAt w w.heap.size x vx) (hxx : x < xMax) (hs : s < 32) :
    Calls Tryz.prog 155 #[vx, .int .u64 (s : Int)] w (NatP w (2 ^ s * x)) := by
  obtain ⟨X, n, hx, _, rfl, hn⟩ := h.open hxx
  unfold lenS at hn
  clear h hxx
  have s1 : (s : Int).tdiv 32 = 0 := by rw [Int.tdiv_eq_ediv_of_nonneg (by omega)]; omega
  have s2 : (s : Int).tmod 32 = (s : Int) := by rw [Int.tmod_eq_emod_of_nonneg (by omega)]; omega
  by_cases hn0 : n = 0
  · subst hn0
    have Hr := Lib.hid (show NatP w (2 ^ s * sumD X 0) (.returned (.slice none 0 0)) w from ⟨_, rfl, by simp only [sumD, Nat.mul_zero]; exact NatAt.zero _ _, Below.refl _ _⟩)
    obtain ⟨ax, cx, rfl, hcx, _, _, _⟩ := hx
    go_enter Tryz.func155, Tryz.ntmps155
    go_wp2_with fail
    go_ret
    exact Hr.out
  · have Hx := Lib.hid hx
    obtain ⟨ax, cx, rfl, hcx, _, dX, _⟩ := hx
    have DX := Lib.hid dX
    have hmk := make_digs (n + 1) (by unfold lenMax; omega) w
    rw [show ((n + 1 : Nat) : Int) = (n : Int) + 1 by omega] at hmk
    have hr1 := RowD.made w (n + 1)
    have hb1 := below_alloc1 w (.cells (madeCells #[.int .u32 0] (n + 1)) 120)
    have hs1 := size_alloc1 w (.cells (madeCells #[.int .u32 0] (n + 1)) 120)
    have HN := Lib.hid fun (w' : World) (Z : Nat → Nat) (v : Value) (h : RawAt w' w'.heap.size Z (n + 1) v) => norm_any w' Z (n + 1) v h
    clear dX
    obtain ⟨w1, hw1⟩ : ∃ w1, w1 = w.alloc (.cells (madeCells #[.int .u32 0] (n + 1)) 120) := ⟨_, rfl⟩
    rw [← hw1] at hr1 hb1 hs1 hmk
    have Hr1 := Lib.hid hr1
    have Hb1 := Lib.hid hb1
    have u0 : (((n : Nat) : Int) == 0) = false := by
      have : ((n : Nat) : Int) ≠ 0 := by omega
      simpa using this
    clear hr1 hb1 hw1
    go_enter Tryz.func155, Tryz.ntmps155
    go_wp2_with fail
    go_loopw [27] (fun vi wr => LshI w1 w.heap.size w.heap.size n s X vi wr) (fun vi _ => n - (intOf vi).toNat)
    case atStart => exact ⟨0, fun _ => 0, by go_num, Nat.zero_le _, Hr1.out, fun i hi => by omega, Nat.pow_pos (by decide), by simp [sumD], Below.refl _ _⟩
    case round =>
      obtain ⟨i, Z, rfl, hi, hr, hZ, hc, hsm, hb⟩ := hrel
      have hbw := Hb1.out.trans hb
      by_cases hin : i < n
      · have u1 : (i : Int) < (n : Int) := by omega
        have u2 : (0 : Int) ≤ (i : Int) := by omega
        have u3 : (i : Int) < (n : Int) + 1 := by omega
        have u4 : (i : Int) + 1 < (n : Int) + 1 := by omega
        have u5 : (0 : Int) ≤ (i : Int) + 1 := by omega
        have u6 : ((i : Int) + 1).toNat = i + 1 := by omega
        obtain ⟨bx, ox, cx', ex, hbx, y1⟩ := Hx.out.at hbw hin
        cases ex
        have bX := DX.out i hin
        obtain ⟨q1, q2, q3, q4, q5, q6⟩ := lsh_step hs bX hZ hc hsm
        obtain ⟨y3, y4⟩ := hr.at (i := i) (by omega)
        have hr2 := hr.set i (Z i + X i * 2 ^ s % bD)
        have hb2 := hb.setCell (p := ⟨w.heap.size, i, none⟩) (Nat.le_refl _) (.int .u32 ((Z i + X i * 2 ^ s % bD : Nat) : Int))
        obtain ⟨y5, y6⟩ := hr2.at (i := i + 1) (by omega)
        have HF := Lib.hid (show LshI w1 w.heap.size w.heap.size n s X (.int .i64 ((i : Int) + 1)) (((wr.setCell ⟨w.heap.size, i, none⟩ (.int .u32 ((Z i + X i * 2 ^ s % bD : Nat) : Int)))).setCell ⟨w.heap.size, i + 1, none⟩ (.int .u32 ((X i * 2 ^ s / bD : Nat) : Int))) from
          ⟨i + 1, _, by go_num, hin, hr2.set (i + 1) _, q5, by rw [putD_at]; exact q2, by rw [putD_at]; exact q6, hb2.setCell (Nat.le_refl _) _⟩)
        have hP : ((X i : Nat) : Int) * 2 ^ s = ((X i * 2 ^ s : Nat) : Int) := by rw [Int.natCast_mul, Int.natCast_pow]; rfl
        have q7 : X i * 2 ^ s / bD < 4294967296 := Nat.lt_of_lt_of_le q2 (Nat.le_trans (Nat.pow_le_pow_right (by decide) (show s ≤ 31 by omega)) (by decide))
        generalize X i * 2 ^ s = P at *
        have t1 : (P : Int) % 4294967296 = ((P % bD : Nat) : Int) := by unfold bD; omega
        have t2 : (P : Int) / 4294967296 = ((P / bD : Nat) : Int) := by unfold bD; omega
        generalize P % bD = lo at *
        generalize P / bD = hi at *
        generalize Z i + lo = z2 at *
        unfold bD at bX
        clear hZ hsm hc q2 q5 q6 hr hr2 hb hb2
        go_wp2_with fail
        exact ⟨HF.out, by simp [intOf]; omega⟩
      · have u1 : ¬ (i : Int) < (n : Int) := by omega
        obtain rfl : i = n := by omega
        have hdz : DigsD Z (i + 1) := fun k hk => by
          by_cases e : k = i
          · rw [e]
            exact Nat.lt_of_lt_of_le hc (Nat.le_trans (Nat.pow_le_pow_right (by decide) (show s ≤ 31 by omega)) (by decide))
          · exact hZ k (by omega)
        have hN := HN.out _ _ _ (hr.raw (m := i + 1) (Nat.le_refl _) (by unfold lenMax; omega) hdz (c := i + 1) (Nat.le_refl _))
        rw [show sumD Z (i + 1) = sumD Z i + bD ^ i * Z i from rfl, hsm] at hN
        have HN2 := Lib.hid hN
        have Hb2 := Lib.hid hbw
        clear hN hr hZ hsm hb hc hdz hbw HN
        go_wp2_with fail
        refine HN2.out.mono ?_
        clear HN2
        rintro e w3 ⟨v', rfl, h3, hb3⟩
        have Hf := Lib.hid (show NatAt w3 w3.heap.size (2 ^ s * sumD X i) v' ∧ Below w.heap.size w w3 from ⟨h3, below_next Hb2.out hb3⟩)
        clear h3 hb3
        go_wp2_with fail
        go_ret
        exact ⟨_, rfl, Hf.out.1, Hf.out.2⟩
end Go.Proofs.YtfgjaoejcbldoaaGreatDoor

namespace Go.Proofs.YtfgjaoejcbldoaaGreatDoor
open Go Go.RowKit Go.Deep
/-- A digit of x >> s. -/
def rshD (X : Nat → Nat) (n s i : Nat) : Nat := ((X i + bD * (if i + 1 < n then X (i + 1) else 0)) / 2 ^ s) % bD
theorem rsh_done {X Z : Nat → Nat} {n s : Nat} (hX : DigsD X n) (hs : s ≤ 32) (hz : ∀ k, k < n → Z k = rshD X n s k) : sumD Z n = sumD X n / 2 ^ s := by
  have h : ∀ m i, i + m = n → topD Z n i = topD X n i / 2 ^ s := by
    intro m
    induction m with
    | zero =>
      intro i hi
      obtain rfl : i = n := by omega
      rw [topD_end, topD_end, Nat.zero_div]
    | succ m ih =>
      intro i hi
      exact topD_rsh (by omega) hX hs (ih (i + 1) (by omega)) (hz i (by omega))
  have := h n 0 (by omega)
  rwa [topD_zero, topD_zero] at this
/-- What the loop of x >> s keeps. -/
def RshI (w1 : World) (B zb n s : Nat) (X : Nat → Nat) (vi : Value) (wr : World) : Prop :=
  ∃ (i : Nat) (Z : Nat → Nat), vi = .int .i64 i ∧ i ≤ n ∧ RowD wr zb n Z ∧ (∀ k, k < i → Z k = rshD X n s k) ∧ Below B w1 wr
theorem rshD_lt (X : Nat → Nat) (n s i : Nat) : rshD X n s i < bD := Nat.mod_lt _ (by decide)
set_option maxHeartbeats 4000000 in
set_option maxRecDepth 100000 in
theorem rsh_any (w : World) (X : Nat → Nat) (n s : Nat) (vx : Value) (hx : RawAt w w.heap.size X n vx) (hn : n ≤ lenS + 1) (hs : s < 32) :
    Calls Tryz.prog 156 #[vx, .int .u64 (s : Int)] w (NatP w (sumD X n / 2 ^ s)) := by
  unfold lenS at hn
  have s1 : (s : Int).tdiv 32 = 0 := by rw [Int.tdiv_eq_ediv_of_nonneg (by omega)]; omega
  have s2 : (s : Int).tmod 32 = (s : Int) := by rw [Int.tmod_eq_emod_of_nonneg (by omega)]; omega
  by_cases hn0 : n = 0
  · subst hn0
    have Hr := Lib.hid (show NatP w (sumD X 0 / 2 ^ s) (.returned (.slice none 0 0)) w from ⟨_, rfl, by simp only [sumD, Nat.zero_div]; exact NatAt.zero _ _, Below.refl _ _⟩)
    obtain ⟨ax, cx, rfl, hcx, _, _, _⟩ := hx
    go_enter Tryz.func156, Tryz.ntmps156
    go_wp2_with fail
    go_ret
    exact Hr.out
  · have Hx := Lib.hid hx
    obtain ⟨bx, ox, cx, rfl, hbx, _⟩ := hx.at (Below.refl _ _) (i := 0) (by omega)
    obtain ⟨ax, cx', ex, hcx, _, dX, _⟩ := hx
    cases ex
    have DX := Lib.hid dX
    have hmk := make_digs n (by unfold lenMax; omega) w
    have hr1 := RowD.made w n
    have hb1 := below_alloc1 w (.cells (madeCells #[.int .u32 0] n) 120)
    have hs1 := size_alloc1 w (.cells (madeCells #[.int .u32 0] n) 120)
    have HN := Lib.hid fun (w' : World) (Z : Nat → Nat) (v : Value) (h : RawAt w' w'.heap.size Z n v) => norm_any w' Z n v h
    clear dX
    obtain ⟨w1, hw1⟩ : ∃ w1, w1 = w.alloc (.cells (madeCells #[.int .u32 0] n) 120) := ⟨_, rfl⟩
    rw [← hw1] at hr1 hb1 hs1 hmk
    have Hr1 := Lib.hid hr1
    have Hb1 := Lib.hid hb1
    have u0 : ¬ ((n : Nat) : Int) ≤ 0 := by omega
    clear hr1 hb1 hw1
    go_enter Tryz.func156, Tryz.ntmps156
    go_wp2_with fail
    go_loopw [27] (fun vi wr => RshI w1 w.heap.size w.heap.size n s X vi wr) (fun vi _ => n - (intOf vi).toNat)
    case atStart => exact ⟨0, fun _ => 0, by go_num, Nat.zero_le _, Hr1.out, fun k hk => by omega, Below.refl _ _⟩
    case round =>
      obtain ⟨i, Z, rfl, hi, hr, hZ, hb⟩ := hrel
      have hbw := Hb1.out.trans hb
      by_cases hin : i < n
      · have u1 : (i : Int) < (n : Int) := by omega
        have u2 : (0 : Int) ≤ (i : Int) := by omega
        obtain ⟨b1, o1, c1, ex, _, y1⟩ := Hx.out.at hbw hin
        cases ex
        have bX := DX.out i hin
        obtain ⟨y3, y4⟩ := hr.at (i := i) (by omega)
        have HF := Lib.hid (show RshI w1 w.heap.size w.heap.size n s X (.int .i64 ((i : Int) + 1)) (wr.setCell ⟨w.heap.size, i, none⟩ (.int .u32 ((rshD X n s i : Nat) : Int))) from
          ⟨i + 1, putD Z i (rshD X n s i), by go_num, hin, hr.set i _, fun k hk => by
            by_cases e : k = i
            · rw [e, putD_at]
            · rw [putD_other e]; exact hZ k (by omega), hb.setCell (Nat.le_refl _) _⟩)
        have hrs := rshD_lt X n s i
        obtain ⟨T, hT⟩ : ∃ T, T = X i + bD * (if i + 1 < n then X (i + 1) else 0) := ⟨_, rfl⟩
        have hdef : rshD X n s i = T / 2 ^ s % bD := by rw [hT]; rfl
        have tq : (T : Int) / 2 ^ s = ((T / 2 ^ s : Nat) : Int) := by rw [Int.natCast_ediv, Int.natCast_pow]; rfl
        generalize rshD X n s i = D at *
        generalize T / 2 ^ s = Q at *
        have t1 : (Q : Int) % 4294967296 = (D : Int) := by rw [hdef]; unfold bD; omega
        have hin2 := hin
        clear hdef hZ hr hb
        by_cases h2 : i + 1 < n
        · have u3 : (i : Int) + 1 < (n : Int) := by omega
          have u4 : (0 : Int) ≤ (i : Int) + 1 := by omega
          have u6 : ((i : Int) + 1).toNat = i + 1 := by omega
          obtain ⟨b2, o2, c2, ex, _, y2⟩ := Hx.out.at hbw h2
          cases ex
          rw [if_pos h2] at hT
          have bX2 := DX.out (i + 1) h2
          have hor := or64_lo bX2 bX
          rw [← hT] at hor
          unfold bD at bX2 bX
          clear hT hbw
          go_wp2_with fail
          exact ⟨HF.out, by simp [intOf]; omega⟩
        · have u3 : ¬ (i : Int) + 1 < (n : Int) := by omega
          rw [if_neg h2, Nat.mul_zero, Nat.add_zero] at hT
          rw [hT] at tq
          unfold bD at bX
          clear hT hbw
          go_wp2_with fail
          exact ⟨HF.out, by simp [intOf]; omega⟩
      · have u1 : ¬ (i : Int) < (n : Int) := by omega
        obtain rfl : i = n := by omega
        have hdz : DigsD Z i := fun k hk => by rw [hZ k hk]; exact rshD_lt _ _ _ _
        have hN := HN.out _ _ _ (hr.raw (m := i) (Nat.le_refl _) (by unfold lenMax; omega) hdz (c := i) (Nat.le_refl _))
        rw [rsh_done DX.out (by omega) hZ] at hN
        have HN2 := Lib.hid hN
        have Hb2 := Lib.hid hbw
        clear hN hr hZ hb hdz hbw HN
        go_wp2_with fail
        refine HN2.out.mono ?_
        clear HN2
        rintro e w3 ⟨v', rfl, h3, hb3⟩
        have Hf := Lib.hid (show NatAt w3 w3.heap.size (sumD X i / 2 ^ s) v' ∧ Below w.heap.size w w3 from ⟨h3, below_next Hb2.out hb3⟩)
        clear h3 hb3
        go_wp2_with fail
        go_ret
        exact ⟨_, rfl, Hf.out.1, Hf.out.2⟩
end Go.Proofs.YtfgjaoejcbldoaaGreatDoor

namespace Go.Proofs.YtfgjaoejcbldoaaGreatDoor
open Go Go.RowKit Go.Deep
/-- How a division answers. -/
def DivP (w : World) (x y : Nat) (e : Ending) (w' : World) : Prop :=
  ∃ q r, e = .returned (.tuple #[q, r]) ∧ NatAt w' w'.heap.size (x / y) q ∧ NatAt w' w'.heap.size (x % y) r ∧ Below w.heap.size w w'
set_option maxHeartbeats 4000000 in
set_option maxRecDepth 100000 in
theorem div_small (w : World) (x y : Nat) (vx vy : Value) (h : NatAt w w.heap.size x vx) (h' : NatAt w w.heap.size y vy) (hxy : x < y) : Calls Tryz.prog 125 #[vx, vy] w (DivP w x y) := by
  have hc := cmp_any w x y vx vy h h'
  have hc1 : cmpN x y = -1 := by unfold cmpN; rw [if_pos hxy]
  rw [hc1] at hc
  have Hc := Lib.hid hc
  have HF := Lib.hid (fun (w' : World) (hb : Below w.heap.size w w') => (show DivP w x y (.returned (.tuple #[.slice none 0 0, vx])) w' from ⟨_, _, rfl, by rw [Nat.div_eq_of_lt hxy]; exact NatAt.zero _ _, by rw [Nat.mod_eq_of_lt hxy]; exact h.carry hb hb.size, hb⟩))
  obtain ⟨Y, m, hy, _, hyy⟩ := h'
  obtain ⟨ay, cy, rfl, _⟩ := hy
  have u0 : (((m : Nat) : Int) == 0) = false := by
    have : ((m : Nat) : Int) ≠ 0 := by
      intro e
      obtain rfl : m = 0 := by omega
      simp only [sumD] at hyy
      omega
    simpa using this
  clear h hc hc1 hyy
  go_enter Tryz.func125, Tryz.ntmps125
  go_wp2_with fail
  refine Hc.out.mono ?_
  rintro e w1 ⟨rfl, hb⟩
  go_wp2_with fail
  go_ret2
  exact HF.out _ hb
set_option maxHeartbeats 4000000 in
set_option maxRecDepth 100000 in
theorem div_one (w : World) (x : Nat) (Y : Nat → Nat) (vx vy : Value) (h : NatAt w w.heap.size x vx) (hxx : x < xMax) (hy : RawAt w w.heap.size Y 1 vy) (h0 : Y 0 ≠ 0) (hxy : Y 0 ≤ x) :
    Calls Tryz.prog 125 #[vx, vy] w (DivP w x (Y 0)) := by
  have hyn : NatAt w w.heap.size (Y 0) vy := ⟨Y, 1, hy, fun _ => h0, by simp [sumD]⟩
  have hc := cmp_any w x (Y 0) vx vy h hyn
  have hc1 : ∃ c : Int, cmpN x (Y 0) = c ∧ ¬ c < 0 := ⟨_, rfl, by unfold cmpN; rw [if_neg (by omega)]; split <;> decide⟩
  obtain ⟨c, hc1, hc0⟩ := hc1
  rw [hc1] at hc
  have Hc := Lib.hid hc
  obtain ⟨by', oy, cy, rfl, hby, y1⟩ := hy.at (Below.refl _ _) (i := 0) (by omega)
  obtain ⟨_, _, e, hcy, _, dY, _⟩ := hy
  have bY := dY 0 (by omega)
  have HD := Lib.hid fun (w' : World) (hb : Below w.heap.size w w') => divW_any w' x (Y 0) vx (h.carry hb hb.size) hxx bY (by omega)
  have HO := Lib.hid fun (w' : World) => natOf_any (x % Y 0) (by have := Nat.mod_lt x (show 0 < Y 0 by omega); unfold bD at bY; omega) w'
  have hd0 : 0 < Y 0 := by omega
  generalize Y 0 = d at *
  clear h hc hyn dY e hc1 hxx hxy h0
  unfold bD at bY
  have y1' := Lib.hid y1
  clear y1
  go_enter Tryz.func125, Tryz.ntmps125
  go_wp2_with fail
  refine Hc.out.mono ?_
  clear Hc
  rintro e w1 ⟨rfl, hb⟩
  have y2 := (hb.cell (p := ⟨by', oy + 0, none⟩) hby).trans y1'.out
  rw [Nat.add_zero] at y2
  have hD := HD.out w1 hb
  have Hb := Lib.hid hb
  clear hb
  go_wp2_with fail
  refine hD.mono ?_
  clear hD
  rintro e w2 ⟨q, rfl, hq, hb2⟩
  have hO := HO.out w2
  have Hq := Lib.hid hq
  have Hb2 := Lib.hid (below_next Hb.out hb2)
  have hdl : x % d < 4294967296 := by
    have := Nat.mod_lt x hd0
    omega
  clear hq hb2 y2
  go_wp2_with fail
  refine hO.mono ?_
  rintro e w3 ⟨r, rfl, hr, hb3⟩
  have Hf := Lib.hid (show DivP w x d (.returned (.tuple #[q, r])) w3 from ⟨_, _, rfl, Hq.out.carry hb3 hb3.size, hr, below_next Hb2.out hb3⟩)
  clear hr hb3
  go_wp2_with fail
  go_ret2
  exact Hf.out
/-- What the long division keeps in memory: u, q and v apart. -/
structure Mem (w0 : World) (B ub qb vb vo N M n : Nat) (V U Q : Nat → Nat) (wr : World) : Prop where
  below : Below B w0 wr
  rowU : RowD wr ub (N + 1) U
  rowQ : RowD wr qb M Q
  cellV : ∀ i, i < n → wr.cell? ⟨vb, vo + i, none⟩ = some (.int .u32 ((V i : Nat) : Int))
  hub : B ≤ ub
  hqb : B ≤ qb
  nuq : ub ≠ qb
  nuv : ub ≠ vb
  nqv : qb ≠ vb
variable {w0 : World} {B ub qb vb vo N M n : Nat} {V U Q : Nat → Nat} {wr : World}
theorem Mem.setU (h : Mem w0 B ub qb vb vo N M n V U Q wr) (i z : Nat) : Mem w0 B ub qb vb vo N M n V (putD U i z) Q (wr.setCell ⟨ub, i, none⟩ (.int .u32 (z : Int))) :=
  ⟨h.below.setCell h.hub _, h.rowU.set i z, h.rowQ.same (heap_setCell_other _ _ _ _ (fun e => h.nuq e.symm)), fun i hi => by rw [World.cell?_setCell_other _ _ _ _ (fun e => h.nuv (congrArg Addr.block e))]; exact h.cellV i hi, h.hub, h.hqb, h.nuq, h.nuv, h.nqv⟩
theorem Mem.setQ (h : Mem w0 B ub qb vb vo N M n V U Q wr) (i z : Nat) : Mem w0 B ub qb vb vo N M n V U (putD Q i z) (wr.setCell ⟨qb, i, none⟩ (.int .u32 (z : Int))) :=
  ⟨h.below.setCell h.hqb _, h.rowU.same (heap_setCell_other _ _ _ _ h.nuq), h.rowQ.set i z, fun i hi => by rw [World.cell?_setCell_other _ _ _ _ (fun e => h.nqv (congrArg Addr.block e))]; exact h.cellV i hi, h.hub, h.hqb, h.nuq, h.nuv, h.nqv⟩
theorem Mem.congr {U' : Nat → Nat} (h : Mem w0 B ub qb vb vo N M n V U Q wr) (e : ∀ i, i < N + 1 → U i = U' i) : Mem w0 B ub qb vb vo N M n V U' Q wr :=
  ⟨h.below, World.rowIs.congr h.rowU fun k hk => by rw [e k hk], h.rowQ, h.cellV, h.hub, h.hqb, h.nuq, h.nuv, h.nqv⟩
/-- After a draw. -/
theorem Mem.drew (h : Mem w0 B ub qb vb vo N M n V U Q wr) : Mem w0 B ub qb vb vo N M n V U Q wr.drew :=
  ⟨h.below.trans ⟨rfl, rfl, rfl, Nat.le_refl _, fun _ _ => rfl⟩, h.rowU.same rfl, h.rowQ.same rfl, fun i hi => h.cellV i hi, h.hub, h.hqb, h.nuq, h.nuv, h.nqv⟩
theorem Mem.drewN (h : Mem w0 B ub qb vb vo N M n V U Q wr) (k : Nat) : Mem w0 B ub qb vb vo N M n V U Q (wr.drewN k) :=
  ⟨h.below.trans ⟨rfl, rfl, rfl, Nat.le_refl _, fun _ _ => rfl⟩, h.rowU.same rfl, h.rowQ.same rfl, fun i hi => h.cellV i hi, h.hub, h.hqb, h.nuq, h.nuv, h.nqv⟩
/-- copy(u, digits). -/
theorem copy_digs {w : World} {ub K m : Nat} {Z L : Nat → Nat} {a : Option Addr} {c B : Nat} (hr : RowD w ub K Z) (hL : RawAt w B L m (.slice a m c)) (h0 : 0 < m) (hm : m ≤ K) :
    ∃ w', (Builtin.copy_ #[49, 49] 3 #[.slice (some ⟨ub, 0, none⟩) K K, .slice a m c]).run Tryz.prog w = .ok (.int .i64 (m : Int)) w' ∧
      RowD w' ub K (fun k => if k < m then L k else Z k) ∧ (∀ C, C ≤ ub → Below C w w') ∧ (∀ b, b ≠ ub → w'.heap[b]? = w.heap[b]?) := by
  obtain ⟨_, _, e, _, _, _, h4⟩ := hL
  cases e
  obtain ⟨b, o, rfl, _, hc⟩ := h4 h0
  obtain ⟨cur, hg, hsz, hcur⟩ := hr
  have hlen : ((List.range m).map fun i => (Value.int .u32 ((L i : Nat) : Int))).length = Nat.min m K := by rw [List.length_map, List.length_range]; exact (Nat.min_eq_left hm).symm
  have h := run_copy_row (P := Tryz.prog) w 49 49 3 120 ub 0 K K ⟨b, o, none⟩ m c cur 120 ((List.range m).map fun i => (Value.int .u32 ((L i : Nat) : Int))) Tryz.underlying49 (by kernel_rfl) hg hlen
    (fun j v hv => by
      have hj : j < m := by
        rcases Nat.lt_or_ge j m with c | c
        · exact c
        · rw [List.getElem?_eq_none (by simpa using c)] at hv
          cases hv
      have hadd : (⟨b, o, none⟩ : Addr).add j = ⟨b, o + j, none⟩ := by unfold Addr.add; split <;> simp_all
      rw [hadd, hc j hj]
      simpa [List.getElem?_map, List.getElem?_range hj] using hv) (by simp; omega) (fun v hv => by
      obtain ⟨i, _, rfl⟩ := List.mem_map.1 hv
      rfl)
  refine ⟨_, by simpa [goInt] using h, ⟨_, setRow_heap w ub _ _ 120 _ hg, ?_, fun i hi => ?_⟩, fun C hC => ⟨rfl, rfl, rfl, by simp [World.setRow], fun k hk => setRow_other w ub k _ (by omega)⟩, fun k hk => setRow_other w ub k _ hk⟩
  · simp
    omega
  · by_cases hi2 : i < m
    · simp [List.getElem?_append, hi2]
    · have := hcur i hi
      simp [List.getElem?_append, hi2]
      rw [show m + (i - m) = i by omega]
      exact this
end Go.Proofs.YtfgjaoejcbldoaaGreatDoor

namespace Go.Proofs.YtfgjaoejcbldoaaGreatDoor
/-- What a round begins with: U of n + 1 digits, V of n, its highest bit set, U / V a digit. -/
structure Rnd (U V : Nat → Nat) (n : Nat) : Prop where
  two : 2 ≤ n
  dU : DigsD U (n + 1)
  dV : DigsD V n
  top : 2147483648 ≤ V (n - 1)
  less : sumD U (n + 1) < sumD V n * bD
section
variable {U V : Nat → Nat} {n : Nat}
theorem Rnd.vparts (h : Rnd U V n) : sumD V n = (V (n - 1) * bD + V (n - 2)) * bD ^ (n - 2) + sumD V (n - 2) := by
  obtain ⟨m, rfl⟩ : ∃ m, n = m + 2 := ⟨n - 2, by have := h.two; omega⟩
  show sumD V (m + 1 + 1) = _
  rw [sumD, sumD, show m + 2 - 1 = m + 1 by omega, show m + 2 - 2 = m by omega, Nat.pow_succ, Nat.add_mul]
  have : bD ^ m * bD * V (m + 1) = V (m + 1) * bD * bD ^ m := by ac_rfl
  have : bD ^ m * V m = V m * bD ^ m := Nat.mul_comm _ _
  omega
theorem Rnd.uparts (h : Rnd U V n) : sumD U (n + 1) = ((U n * bD + U (n - 1)) * bD + U (n - 2)) * bD ^ (n - 2) + sumD U (n - 2) := by
  obtain ⟨m, rfl⟩ : ∃ m, n = m + 2 := ⟨n - 2, by have := h.two; omega⟩
  show sumD U (m + 1 + 1 + 1) = _
  rw [sumD, sumD, sumD, show m + 2 - 1 = m + 1 by omega, show m + 2 - 2 = m by omega, show m + 1 + 1 = m + 2 by omega, show bD ^ (m + 2) = bD ^ m * bD * bD by rw [Nat.pow_succ, Nat.pow_succ], Nat.pow_succ, Nat.add_mul, Nat.add_mul, Nat.add_mul]
  have e1 : bD ^ m * bD * bD * U (m + 2) = U (m + 2) * bD * bD * bD ^ m := by ac_rfl
  have e2 : bD ^ m * bD * U (m + 1) = U (m + 1) * bD * bD ^ m := by ac_rfl
  have e3 : bD ^ m * U m = U m * bD ^ m := Nat.mul_comm _ _
  omega
theorem Rnd.ulow (h : Rnd U V n) : sumD U (n - 2) < bD ^ (n - 2) := sumD_lt fun i hi => h.dU i (by omega)
theorem Rnd.vlow (h : Rnd U V n) : sumD V (n - 2) < bD ^ (n - 2) := sumD_lt fun i hi => h.dV i (by omega)
theorem Rnd.vpos (h : Rnd U V n) : 0 < sumD V n := by
  rw [h.vparts]
  have h1 := h.top
  have h2 := bD_pos (n - 2)
  have : 0 < (V (n - 1) * bD + V (n - 2)) * bD ^ (n - 2) := Nat.mul_pos (by unfold bD; omega) h2
  omega
/-- The quotient. -/
def quoD (U V : Nat → Nat) (n : Nat) : Nat := sumD U (n + 1) / sumD V n
theorem Rnd.quo (h : Rnd U V n) : quoD U V n * sumD V n ≤ sumD U (n + 1) ∧ sumD U (n + 1) < (quoD U V n + 1) * sumD V n ∧ quoD U V n < bD := by
  have hv := h.vpos
  have h1 := Nat.div_add_mod (sumD U (n + 1)) (sumD V n)
  have h2 := Nat.mod_lt (sumD U (n + 1)) hv
  unfold quoD
  rw [Nat.mul_comm] at h1
  refine ⟨by omega, by rw [Nat.add_mul, Nat.one_mul]; omega, ?_⟩
  rw [Nat.div_lt_iff_lt_mul hv, Nat.mul_comm]
  exact h.less
/-- The highest digits. -/
theorem Rnd.high (h : Rnd U V n) : U n * bD + U (n - 1) ≤ V (n - 1) * bD + (bD - 1) := by
  have hu := h.dU (n - 1) (by omega)
  have hle : U n ≤ V (n - 1) := by
    rcases Nat.lt_or_ge (V (n - 1)) (U n) with c | c
    · exfalso
      have h1 : (V (n - 1) + 1) * bD ^ n ≤ sumD U (n + 1) := by
        rw [sumD, Nat.mul_comm (bD ^ n)]
        have := Nat.mul_le_mul_right (bD ^ n) (show V (n - 1) + 1 ≤ U n from c)
        omega
      have h2 : sumD V n < (V (n - 1) + 1) * bD ^ (n - 1) := by
        have e : sumD V n = sumD V (n - 1) + bD ^ (n - 1) * V (n - 1) := by
          obtain ⟨m, rfl⟩ : ∃ m, n = m + 1 := ⟨n - 1, by have := h.two; omega⟩
          rfl
        have h3 : sumD V (n - 1) < bD ^ (n - 1) := sumD_lt fun i hi => h.dV i (by omega)
        rw [e, Nat.add_mul, Nat.one_mul, Nat.mul_comm]
        omega
      have h3 : sumD V n * bD < (V (n - 1) + 1) * bD ^ n := by
        have e : bD ^ n = bD ^ (n - 1) * bD := by
          obtain ⟨m, rfl⟩ : ∃ m, n = m + 1 := ⟨n - 1, by have := h.two; omega⟩
          rw [Nat.add_sub_cancel, Nat.pow_succ]
        rw [e, ← Nat.mul_assoc]
        exact Nat.mul_lt_mul_of_pos_right h2 (by decide)
      have := h.less
      omega
    · exact c
  have := Nat.mul_le_mul_right bD hle
  omega
/-- The estimate's loop: p is not too small. -/
structure Est (U V : Nat → Nat) (n p t : Nat) : Prop where
  eq : U n * bD + U (n - 1) = p * V (n - 1) + t
  big : quoD U V n ≤ p
theorem Rnd.start (h : Rnd U V n) : Est U V n ((U n * bD + U (n - 1)) / V (n - 1)) ((U n * bD + U (n - 1)) % V (n - 1)) ∧ (U n * bD + U (n - 1)) / V (n - 1) ≤ bD + 1 := by
  have ht := h.top
  have h0 := Nat.div_add_mod (U n * bD + U (n - 1)) (V (n - 1))
  refine ⟨⟨by have := Nat.mul_comm (V (n - 1)) ((U n * bD + U (n - 1)) / V (n - 1)); omega, kd_first h.vparts h.uparts h.ulow (h.dU _ (by omega)) (by omega) h.quo.1⟩, ?_⟩
  have hh := h.high
  rw [Nat.div_le_iff_le_mul_add_pred (by omega)]
  have hb : bD ≤ 2 * V (n - 1) := by unfold bD; omega
  have : V (n - 1) * (bD + 1) = V (n - 1) * bD + V (n - 1) := by rw [Nat.mul_add, Nat.mul_one]
  have : (bD + 1) * V (n - 1) = V (n - 1) * bD + V (n - 1) := by rw [Nat.mul_comm, this]
  omega
theorem Est.dec {p t : Nat} (h : Rnd U V n) (e : Est U V n p t) (hc : bD ≤ p ∨ t * bD + U (n - 2) < p * V (n - 2)) : 1 ≤ p ∧ Est U V n (p - 1) (t + V (n - 1)) := by
  have := kd_great h.vparts h.uparts h.ulow h.quo.1 h.quo.2.2 e.eq hc
  obtain ⟨m, rfl⟩ : ∃ m, p = m + 1 := ⟨p - 1, by omega⟩
  refine ⟨by omega, ?_, by omega⟩
  rw [e.eq, Nat.add_sub_cancel, Nat.add_mul, Nat.one_mul]
  omega
theorem Est.stop {p t : Nat} (h : Rnd U V n) (e : Est U V n p t) (hp : p < bD) (hc : p * V (n - 2) ≤ t * bD + U (n - 2)) : p ≤ quoD U V n + 1 :=
  kd_near h.vparts h.uparts h.vlow (by have := h.top; omega) h.quo.2.1 hp e.eq hc
theorem Est.low {p t : Nat} (h : Rnd U V n) (e : Est U V n p t) (ht : bD ≤ t) : p < bD := by
  rcases Nat.lt_or_ge p bD with c | c
  · exact c
  · exfalso
    have h1 := h.high
    have h2 := e.eq
    have h3 : bD * V (n - 1) ≤ p * V (n - 1) := Nat.mul_le_mul_right _ c
    rw [Nat.mul_comm bD] at h3
    have hpos : 0 < bD := by decide
    omega
theorem Est.break {p t : Nat} (h : Rnd U V n) (e : Est U V n p t) (ht : bD ≤ t) : p < bD ∧ p ≤ quoD U V n + 1 := by
  have hp := e.low h ht
  refine ⟨hp, e.stop h hp ?_⟩
  have hv := h.dV (n - 2) (by have := h.two; omega)
  have h1 : p * V (n - 2) ≤ bD * bD := Nat.mul_le_mul (Nat.le_of_lt hp) (Nat.le_of_lt hv)
  have h2 : bD * bD ≤ t * bD := Nat.mul_le_mul_right _ ht
  omega
/-- One digit of U - p * V. -/
theorem msub_step {Z : Nat → Nat} {i p c b : Nat} (hU : U i < bD) (hV : V i < bD) (hp : p < bD) (hc : c < bD) (hb : b ≤ 1) (hs : sumD Z i + p * sumD V i = sumD U i + bD ^ i * (c + b)) :
    c + p * V i < 18446744073709551616 ∧ (c + p * V i) / bD < bD ∧ subD (U i) ((c + p * V i) % bD) b / 9223372036854775808 ≤ 1 ∧
      sumD (putD Z i (subD (U i) ((c + p * V i) % bD) b % bD)) (i + 1) + p * sumD V (i + 1) = sumD U (i + 1) + bD ^ (i + 1) * ((c + p * V i) / bD + subD (U i) ((c + p * V i) % bD) b / 9223372036854775808) := by
  have h1 : p * V i ≤ (bD - 1) * (bD - 1) := Nat.mul_le_mul (by omega) (by omega)
  have h2 : (bD - 1) * (bD - 1) = 18446744065119617025 := by decide
  have h3 : c + p * V i < 18446744073709551616 := by unfold bD at *; omega
  have h4 : (c + p * V i) % bD < bD := Nat.mod_lt _ (by decide)
  refine ⟨h3, ?_, ?_, kd_step (Z := putD Z i _) (V := V) (U := U) (b := b) (b' := subD (U i) ((c + p * V i) % bD) b / 9223372036854775808) (by rw [sumD_put (Nat.le_refl _)]; exact hs) ?_⟩
  · rw [Nat.div_lt_iff_lt_mul (by decide)]
    have : bD * bD = 18446744073709551616 := by decide
    omega
  · have hd : subD (U i) ((c + p * V i) % bD) b < 18446744073709551616 := Nat.mod_lt _ (by decide)
    omega
  · rw [putD_at]
    generalize (c + p * V i) % bD = m at *
    unfold subD bD at *
    omega
/-- The rest, where the estimate was right. -/
theorem msub_right {Z : Nat → Nat} {p c b : Nat} (h : Rnd U V n) (hq : quoD U V n ≤ p) (hs : sumD Z n + p * sumD V n = sumD U n + bD ^ n * (c + b)) (hcb : c + b ≤ U n) :
    p = quoD U V n ∧ sumD (putD Z n (U n - c - b)) (n + 1) + p * sumD V n = sumD U (n + 1) := by
  have hu := h.dU n (by omega)
  have e : sumD (putD Z n (U n - c - b)) (n + 1) + p * sumD V n = sumD U (n + 1) := by
    rw [sumD, sumD_put (Nat.le_refl _), putD_at]
    have e1 : sumD U (n + 1) = sumD U n + bD ^ n * U n := rfl
    have e2 : bD ^ n * U n = bD ^ n * (U n - c - b) + bD ^ n * (c + b) := by rw [← Nat.mul_add]; congr 1; omega
    omega
  refine ⟨?_, e⟩
  have h1 := h.quo
  have h2 : p * sumD V n < (quoD U V n + 1) * sumD V n := by omega
  have := Nat.lt_of_mul_lt_mul_right h2
  omega
/-- .. and where it was one too great. -/
theorem msub_wrong {Z Z' : Nat → Nat} {p c b c' : Nat} (h : Rnd U V n) (hZ : DigsD Z n) (hp1 : p ≤ quoD U V n + 1) (hs : sumD Z n + p * sumD V n = sumD U n + bD ^ n * (c + b)) (hcb : U n < c + b) (hle : c + b ≤ bD + U n)
    (hZ' : DigsD Z' n) (hs' : sumD Z' n + bD ^ n * c' = sumD Z n + sumD V n) (hc' : c' ≤ 1) :
    p = quoD U V n + 1 ∧ (bD + U n - c - b + c') % bD = 0 ∧ sumD Z' n + (p - 1) * sumD V n = sumD U (n + 1) := by
  have hu := h.dU n (by omega)
  have hz := sumD_lt hZ
  have hz' := sumD_lt hZ'
  have hv : sumD V n < bD ^ n := sumD_lt h.dV
  have e1 : sumD U (n + 1) = sumD U n + bD ^ n * U n := rfl
  -- U < p * V
  have e2 : bD ^ n * (U n + 1) ≤ bD ^ n * (c + b) := Nat.mul_le_mul_left _ hcb
  rw [Nat.mul_add, Nat.mul_one] at e2
  have hlt : sumD U (n + 1) < p * sumD V n := by omega
  have hq := h.quo
  have hpq : quoD U V n < p := by
    have : quoD U V n * sumD V n < p * sumD V n := by omega
    exact Nat.lt_of_mul_lt_mul_right this
  have hp : p = quoD U V n + 1 := by omega
  refine ⟨hp, ?_⟩
  have e3 : p * sumD V n = quoD U V n * sumD V n + sumD V n := by rw [hp, Nat.add_mul, Nat.one_mul]
  have e4 : (p - 1) * sumD V n = quoD U V n * sumD V n := by rw [hp, Nat.add_sub_cancel]
  -- R = U - q * V
  obtain ⟨R, hR⟩ : ∃ R, sumD U (n + 1) = quoD U V n * sumD V n + R := ⟨sumD U (n + 1) - quoD U V n * sumD V n, by omega⟩
  have hRv : R < sumD V n := by
    have := hq.2.1
    rw [Nat.add_mul, Nat.one_mul] at this
    omega
  -- sumD Z' n + bD^n * c' + bD^n * U n = R + bD^n * (c + b)
  have e5 : sumD Z' n + bD ^ n * (c' + U n) = R + bD ^ n * (c + b) := by rw [Nat.mul_add]; omega
  have hk : c' + U n = c + b := by
    rcases Nat.lt_trichotomy (c' + U n) (c + b) with k | k | k
    · exfalso
      have := Nat.mul_le_mul_left (bD ^ n) (show c' + U n + 1 ≤ c + b from k)
      rw [Nat.mul_add, Nat.mul_one] at this
      omega
    · exact k
    · exfalso
      have := Nat.mul_le_mul_left (bD ^ n) (show c + b + 1 ≤ c' + U n from k)
      rw [Nat.mul_add, Nat.mul_one] at this
      omega
  rw [hk] at e5
  refine ⟨?_, by rw [e4]; omega⟩
  have : bD + U n - c - b + c' = bD := by omega
  rw [this, Nat.mod_self]
end
end Go.Proofs.YtfgjaoejcbldoaaGreatDoor
