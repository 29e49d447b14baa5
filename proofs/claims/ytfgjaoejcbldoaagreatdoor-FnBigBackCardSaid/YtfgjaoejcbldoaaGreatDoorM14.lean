/- Contract of package big's Int.Mul. -/
import Derived.Test.YtfgjaoejcbldoaaGreatDoorM08
import Derived.Test.YtfgjaoejcbldoaaGreatDoorM02
namespace Go.Proofs.YtfgjaoejcbldoaaGreatDoor
open Go Go.RowKit Go.Deep
theorem num_mul (s t : Bool) (x y : Nat) : num s x * num t y = num (s != t) (x * y) := by
  unfold num
  cases s <;> cases t <;> simp [Int.neg_mul, Int.mul_neg]
set_option maxHeartbeats 4000000 in
set_option maxRecDepth 100000 in
theorem intMul_any (w : World) (zb xb yb : Nat) (z0 zx zy : Int) (hz : IntIn w w.heap.size z0 zb) (hx : IntIn w w.heap.size zx xb) (hy : IntIn w w.heap.size zy yb) (bx : zx.natAbs < xMax) (by' : zy.natAbs < xMax) :
    Calls Tryz.prog 43 #[.pointer (some ⟨zb, 0, none⟩), .pointer (some ⟨xb, 0, none⟩), .pointer (some ⟨yb, 0, none⟩)] w (IntZ w zb (zx * zy)) := by
  obtain ⟨s, a, n, c, x, hxc, hxn, rfl, _, hxb, _⟩ := hx.open
  obtain ⟨t, a', n', c', y, hyc, hyn, rfl, _, hyb, _⟩ := hy.open
  rw [num_abs] at bx by'
  have HM := Lib.hid (mul_any w.drew x y _ _ hxn hyn bx by')
  obtain ⟨s0, a0, n0, c0, x0, hzc, _, _, _, hzb, _⟩ := hz.open
  have Hx := Lib.hid hxc
  have Hy := Lib.hid hyc
  have Hz := Lib.hid hzc
  have HZ := Lib.hid hz
  obtain ⟨y0, y1, _, _⟩ := of_block2 hyc
  obtain ⟨x0, x1, _, _⟩ := of_block2 hxc
  clear hz hx hy hyn hxn bx by' hyc hxc hzc
  go_enter Tryz.func43, Tryz.ntmps43
  go_upto_region 1 with fail
  go_cut [] (fun wx => ∃ v, RawI w zb (x * y) v (s != t) wx)
  case first =>
    go_region_with (go_at_call 78; refine HM.out.mono ?_; rintro e w6 ⟨v6, rfl, hv6, hb6⟩; obtain ⟨a6, m6, c6, rfl, hm6, _⟩ := hv6.slice; have hbw : Below w.heap.size w w6 := (below_dr (Below.refl _ _)).trans hb6; obtain ⟨p0, p1, p2, p3⟩ := of_block2 ((hbw.block zb hzb).trans Hz.out); obtain ⟨p4, p5, _, _⟩ := of_block2 ((hbw.block xb hxb).trans Hx.out); obtain ⟨p6, p7, _, _⟩ := of_block2 ((hbw.block yb hyb).trans Hy.out))
    all_goals go_wp2_with fail
    all_goals go_meet
    all_goals exact ⟨_, by first | exact rawI_a (s != t) HZ.out hbw hv6 | exact rawI_b (s != t) HZ.out hbw hv6 | exact (rawI_a (s != t) HZ.out hbw hv6).drew | exact (rawI_b (s != t) HZ.out hbw hv6).drew⟩
  case rest =>
    obtain ⟨v, hw⟩ := hcut
    obtain ⟨a6, m6, c6, rfl, hm6, _⟩ := hw.2.1.slice
    obtain ⟨p0, p1, p2, p3⟩ := of_block2 hw.1
    have HF := Lib.hid hw.done
    rw [← num_mul] at HF
    clear hw
    generalize (s != t) = q at *
    generalize x * y = r at *
    rcases Nat.eq_zero_or_pos r with hr | hr
    · subst hr
      have hm0 : m6 = 0 := hm6.2 rfl
      subst hm0
      rw [sgn_zero _ _ rfl] at HF
      go_wp2_with fail
      go_ret
      exact HF.out
    · have hm0 : (0 : Int) < (m6 : Int) := by omega
      rw [show sgn q r = q by simp [sgn, hr]] at HF
      go_wp2_with fail
      go_ret
      exact HF.out
end Go.Proofs.YtfgjaoejcbldoaaGreatDoor
