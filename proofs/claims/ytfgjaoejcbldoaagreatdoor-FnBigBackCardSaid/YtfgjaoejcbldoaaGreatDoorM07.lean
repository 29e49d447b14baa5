/- Contracts of package big's Int: sum, Add, Sub. -/
import Derived.Test.YtfgjaoejcbldoaaGreatDoorM03
import Derived.Test.YtfgjaoejcbldoaaGreatDoorM02
import Derived.Deep.CutBlock
import Derived.Deep.CutRange
namespace Go.Proofs.YtfgjaoejcbldoaaGreatDoor
open Go Go.RowKit Go.Deep
/-- The sum by signs. -/
theorem num_add (s : Bool) (x y : Nat) : num s x + num s y = num s (x + y) := by
  unfold num
  cases s <;> simp <;> omega
theorem num_sub {s t : Bool} {x y : Nat} (h : s ≠ t) (hle : y ≤ x) : num s x + num t y = num s (x - y) := by
  unfold num
  cases s <;> cases t <;> simp at h ⊢ <;> omega
set_option maxHeartbeats 4000000 in
set_option maxRecDepth 100000 in
theorem sum_any (w : World) (zb xb y : Nat) (z0 zx : Int) (t : Bool) (vy : Value) (hz : IntIn w w.heap.size z0 zb) (hx : IntIn w w.heap.size zx xb) (hy : NatAt w w.heap.size y vy) (bx : zx.natAbs < xMax) (by' : y < xMax) :
    Calls Tryz.prog 76 #[.pointer (some ⟨zb, 0, none⟩), .pointer (some ⟨xb, 0, none⟩), vy, .bool t] w (IntZ w zb (zx + num t y)) := by
  obtain ⟨s, a, n, c, x, hxc, hxn, rfl, _, hxb, _⟩ := hx.open
  rw [num_abs] at bx
  obtain ⟨ay, my, cy, rfl, _⟩ := hy.slice
  have hc := cmp_any w x y _ _ hxn hy
  have HC := Lib.hid hc
  have Hx := Lib.hid hxc
  have HA := Lib.hid fun (w' : World) (hb : Below w.heap.size w w') => add_any w' x y _ _ (hxn.carry hb hb.size) (hy.carry hb hb.size) bx by'
  have HS := Lib.hid fun (w' : World) (hb : Below w.heap.size w w') (h : y ≤ x) => sub_any w' x y _ _ (hxn.carry hb hb.size) (hy.carry hb hb.size) bx h
  have HT := Lib.hid fun (w' : World) (hb : Below w.heap.size w w') (h : x ≤ y) => sub_any w' y x _ _ (hy.carry hb hb.size) (hxn.carry hb hb.size) by' h
  have HZ := Lib.hid hz
  obtain ⟨s0, a0, n0, c0, x0, hzc, _, _, _, hzb, _⟩ := hz.open
  have Hz := Lib.hid hzc
  obtain ⟨c', hc', hcx⟩ : ∃ c' : Int, cmpN x y = c' ∧ ((0 ≤ c' ∧ y ≤ x) ∨ (c' < 0 ∧ x ≤ y)) := ⟨_, rfl, by
    unfold cmpN
    split
    · exact .inr ⟨by decide, by omega⟩
    · split
      · exact .inl ⟨by decide, by omega⟩
      · exact .inl ⟨by decide, by omega⟩⟩
  rw [hc'] at HC
  obtain ⟨y0, y1, _, _⟩ := of_block2 hxc
  clear hz hx hxn hy hc hxc hzc bx by' hc'
  go_enter Tryz.func76, Tryz.ntmps76
  go_wp2_with fail
  refine HC.out.mono ?_
  clear HC
  rintro e w1 ⟨rfl, hb1⟩
  obtain ⟨y2, y3, _, _⟩ := of_block2 ((hb1.block xb hxb).trans Hx.out)
  go_upto_block 0 with fail
  go_cut [] (fun wx => ∃ q r v, num q r = num s x + num t y ∧ RawI w zb r v q wx)
  case first =>
    by_cases hst : s = t
    · subst hst
      have hne : (s == s) = true := by simp
      clear hcx
      go_upto_region 4 with fail
      go_region_with (go_at_call 112; refine (HA.out _ (below_dr hb1)).mono ?_; rintro e w6 ⟨v6, rfl, hv6, hb6⟩; obtain ⟨a6, m6, c6, rfl, hm6, _⟩ := hv6.slice; have hbw := below_next (below_dr hb1) hb6; obtain ⟨p0, p1, p2, p3⟩ := of_block2 ((hbw.block zb hzb).trans Hz.out); obtain ⟨p4, p5, _, _⟩ := of_block2 ((hbw.block xb hxb).trans Hx.out))
      all_goals go_wp2_with fail
      all_goals go_meet
      all_goals exact ⟨s, _, _, (num_add s x y).symm, by first | exact rawI_a s HZ.out hbw hv6 | exact rawI_b s HZ.out hbw hv6 | exact (rawI_a s HZ.out hbw hv6).drew | exact (rawI_b s HZ.out hbw hv6).drew⟩
    · rcases hcx with ⟨h0, hle⟩ | ⟨h0, hle⟩
      · have hne : (s == t) = false := by simpa using hst
        go_upto_region 6 with fail
        go_region_with (go_at_call 113; refine (HS.out _ (below_dr hb1) hle).mono ?_; rintro e w6 ⟨v6, rfl, hv6, hb6⟩; obtain ⟨a6, m6, c6, rfl, hm6, _⟩ := hv6.slice; have hbw := below_next (below_dr hb1) hb6; obtain ⟨p0, p1, p2, p3⟩ := of_block2 ((hbw.block zb hzb).trans Hz.out); obtain ⟨p4, p5, _, _⟩ := of_block2 ((hbw.block xb hxb).trans Hx.out))
        all_goals go_wp2_with fail
        all_goals go_meet
        all_goals exact ⟨s, _, _, (num_sub hst hle).symm, by first | exact rawI_a s HZ.out hbw hv6 | exact rawI_b s HZ.out hbw hv6 | exact (rawI_a s HZ.out hbw hv6).drew | exact (rawI_b s HZ.out hbw hv6).drew⟩
      · have hne : (s == t) = false := by simpa using hst
        have hT := HT.out w1 hb1 hle
        have h00 : ¬ 0 ≤ c' := by omega
        clear y0 y1
        go_wp2_with fail
        refine hT.mono ?_
        clear hT
        rintro e w6 ⟨v6, rfl, hv6, hb6⟩
        obtain ⟨a6, m6, c6, rfl, hm6, _⟩ := hv6.slice
        have hbw := below_next hb1 hb6
        have HF := Lib.hid (rawI_a t HZ.out hbw hv6)
        obtain ⟨p0, p1, p2, p3⟩ := of_block2 ((hbw.block zb hzb).trans Hz.out)
        clear hv6 hb6 hbw HA HS HT
        go_wp2_with fail
        go_meet
        exact ⟨t, _, _, by rw [Int.add_comm, num_sub (fun e => hst e.symm) hle], HF.out⟩
  case rest =>
    obtain ⟨q, r, v, he, hw⟩ := hcut
    obtain ⟨a6, m6, c6, rfl, hm6, _⟩ := hw.2.1.slice
    obtain ⟨p0, p1, p2, p3⟩ := of_block2 hw.1
    have HF := Lib.hid hw.done
    rw [he] at HF
    clear hw he
    rcases Nat.eq_zero_or_pos r with hr | hr
    · subst hr
      have hm0 : m6 = 0 := hm6.2 rfl
      subst hm0
      rw [sgn_zero _ _ rfl] at HF
      go_wp2_with fail
      go_ret
      exact HF.out
    · have hm0 : (0 : Int) < (m6 : Int) := by omega
      rw [show sgn q r = q by simp [sgn, hr]] at HF
      go_wp2_with fail
      go_ret
      exact HF.out
end Go.Proofs.YtfgjaoejcbldoaaGreatDoor
