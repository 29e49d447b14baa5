/- Package big's Int in memory: what a store leaves; contracts of SetInt64, NewInt. -/
/- Plain: a number's text, nine digits at once; bits of a digit; what a shift makes of the highest digit. No program in sight. -/
/- Plain: a row turned about, place by place. No program in sight. -/
/- Plain: sizes of integers and of their texts. No program in sight. -/
/- Contract of package big's nat.text at base 10. -/
import Derived.Test.YtfgjaoejcbldoaaGreatDoorM02
import Derived.Deep.RegionWith
import Derived.Deep.DeepCutAuto
import Derived.BigRegion
import Derived.Test.YtfgjaoejcbldoaaGreatDoorM01
import Derived.Maps.AppendAt
import Derived.Deep.OwnRows
namespace Go.Proofs.YtfgjaoejcbldoaaGreatDoor
open Go Go.RowKit Go.Deep
/-- A number by its sign and its size. -/
def num (s : Bool) (x : Nat) : Int := if s = true then -(x : Int) else x
theorem of_block2 {w : World} {b : Nat} {c0 c1 : Value} {t : TypeId} (h : w.heap[b]? = some (.cells #[c0, c1] t)) :
    w.cell? ⟨b, 0, none⟩ = some c0 ∧ w.cell? ⟨b, 1, none⟩ = some c1 ∧ w.frozen? ⟨b, 0, none⟩ = false ∧ w.frozen? ⟨b, 1, none⟩ = false := by
  simp [World.cell?, World.frozen?, h]
theorem NatAt.slice {w : World} {B x : Nat} {v : Value} (h : NatAt w B x v) : ∃ a n c, v = .slice a n c ∧ (n = 0 ↔ x = 0) ∧ n ≤ lenMax := by
  obtain ⟨D, n, ⟨a, c, rfl, _, hn, _⟩, h0, he⟩ := h
  refine ⟨a, n, c, rfl, ⟨fun e => ?_, fun e => ?_⟩, hn⟩
  · subst e; exact he
  · rcases Nat.eq_zero_or_pos n with e' | e'
    · exact e'
    · exfalso
      have h1 := sumD_ge e' (h0 (by omega))
      have h2 := bD_pos (n - 1)
      omega
theorem IntIn.open {w : World} {B b : Nat} {z : Int} (h : IntIn w B z b) :
    ∃ s a n c x, w.heap[b]? = some (.cells #[.bool s, .slice a n c] 51) ∧ NatAt w B x (.slice a n c) ∧ z = num s x ∧ (x = 0 → s = false) ∧ b < B ∧ (n = 0 ↔ x = 0) ∧ n ≤ lenMax := by
  obtain ⟨hb, s, v, x, h1, h2, h3, h4⟩ := h
  obtain ⟨a, n, c, rfl, h5, h6⟩ := h2.slice
  exact ⟨s, a, n, c, x, h1, h2, h3, h4, hb, h5, h6⟩
theorem num_abs (s : Bool) (x : Nat) : (num s x).natAbs = x := by
  unfold num
  cases s <;> simp
/-- The digits of a number lie apart from an Int. -/
theorem NatAt.off {w w' : World} {B x zb : Nat} {v : Value} (h : NatAt w B x v) {s : Bool} {a : Option Addr} {n c : Nat} (hz : w.heap[zb]? = some (.cells #[.bool s, .slice a n c] 51))
    (hk : ∀ k, k ≠ zb → w'.heap[k]? = w.heap[k]?) : NatAt w' B x v := by
  obtain ⟨D, m, ⟨a1, c1, rfl, q1, q2, q3, q4⟩, h5⟩ := h
  refine ⟨D, m, ⟨a1, c1, rfl, q1, q2, q3, fun h0 => ?_⟩, h5⟩
  obtain ⟨b, o, rfl, hb, hc⟩ := q4 h0
  have hne : b ≠ zb := by
    rintro rfl
    have h1 := hc 0 h0
    simp only [Nat.add_zero, World.cell?, hz] at h1
    rcases o with _ | _ | o
    · simp at h1
    · simp at h1
    · simp at h1
  refine ⟨b, o, rfl, hb, fun i hi => ?_⟩
  rw [← hc i hi]
  unfold World.cell?
  rw [show w'.heap[(⟨b, o + i, none⟩ : Addr).block]? = w.heap[(⟨b, o + i, none⟩ : Addr).block]? from hk b hne]
/-- An Int is written. -/
theorem IntIn.write {w W : World} {B zb x : Nat} {z0 : Int} {v : Value} (hz : IntIn w B z0 zb) (hv : NatAt w w.heap.size x v) (s : Bool) (hs : x = 0 → s = false) (hW : W.heap[zb]? = some (.cells #[.bool s, v] 51))
    (hk : ∀ k, k ≠ zb → W.heap[k]? = w.heap[k]?) (hn : W.heap.size = w.heap.size) : IntIn W W.heap.size (num s x) zb := by
  obtain ⟨s0, a, n, c, x0, h1, _⟩ := hz.open
  have hv' := hv.off h1 hk
  rw [← hn] at hv'
  exact ⟨(Array.getElem?_eq_some_iff.1 hW).1, s, v, x, hW, hv', rfl, hs⟩
theorem set_int {w : World} {b : Nat} {c0 c1 : Value} {t : TypeId} (h : w.heap[b]? = some (.cells #[c0, c1] t)) (s v : Value) : ((w.setCell ⟨b, 1, none⟩ v).setCell ⟨b, 0, none⟩ s).heap[b]? = some (.cells #[s, v] t) := by
  have h0 := heap_setCell_same _ b 1 _ t v h
  have h1 := heap_setCell_same _ b 0 _ t s h0
  simpa using h1
theorem set_other {w : World} {b k : Nat} (h : k ≠ b) (i j : Nat) (u v : Value) : ((w.setCell ⟨b, i, none⟩ u).setCell ⟨b, j, none⟩ v).heap[k]? = w.heap[k]? := by
  rw [heap_setCell_other _ _ _ _ h, heap_setCell_other _ _ _ _ h]
theorem below_set (w : World) (b i j : Nat) (u v : Value) : Below b w ((w.setCell ⟨b, i, none⟩ u).setCell ⟨b, j, none⟩ v) :=
  ((Below.refl b w).setCell (show b ≤ (⟨b, i, none⟩ : Addr).block from Nat.le_refl _) _).setCell (show b ≤ (⟨b, j, none⟩ : Addr).block from Nat.le_refl _) _
theorem below_dr {B : Nat} {w w' : World} (h : Below B w w') : Below B w w'.drew := h.trans ⟨rfl, rfl, rfl, Nat.le_refl _, fun _ _ => rfl⟩
/-- How a function that writes an Int answers. -/
def IntZ (w : World) (zb : Nat) (z : Int) (e : Ending) (w' : World) : Prop := e = .returned (.pointer (some ⟨zb, 0, none⟩)) ∧ IntIn w' w'.heap.size z zb ∧ Below zb w w'
/-- An Int's two cells. -/
def RawI (w : World) (zb x : Nat) (v : Value) (s : Bool) (wx : World) : Prop := wx.heap[zb]? = some (.cells #[.bool s, v] 51) ∧ NatAt wx wx.heap.size x v ∧ Below zb w wx
theorem RawI.drew {w wx : World} {zb x : Nat} {v : Value} {s : Bool} (h : RawI w zb x v s wx) : RawI w zb x v s wx.drew := ⟨h.1, h.2.1, below_dr h.2.2⟩
theorem rawI_a {w w6 : World} {zb x : Nat} {z0 : Int} {v : Value} (s : Bool) (hz : IntIn w w.heap.size z0 zb) (hb : Below w.heap.size w w6) (hv : NatAt w6 w6.heap.size x v) :
    RawI w zb x v s ((w6.setCell ⟨zb, 1, none⟩ v).setCell ⟨zb, 0, none⟩ (.bool s)) := by
  obtain ⟨s0, a0, n0, c0, x0, hzc, _, _, _, hzb, _⟩ := hz.open
  have h1 := (hb.block zb hzb).trans hzc
  refine ⟨set_int h1 _ _, ?_, (hb.mono (Nat.le_of_lt hzb)).trans (below_set w6 zb 1 0 v _)⟩
  have := hv.off (w' := (w6.setCell ⟨zb, 1, none⟩ v).setCell ⟨zb, 0, none⟩ (.bool s)) h1 (fun k hk => set_other hk _ _ _ _)
  simpa using this
theorem rawI_b {w w6 : World} {zb x : Nat} {z0 : Int} {v : Value} (s : Bool) (hz : IntIn w w.heap.size z0 zb) (hb : Below w.heap.size w w6) (hv : NatAt w6 w6.heap.size x v) :
    RawI w zb x v s ((w6.setCell ⟨zb, 0, none⟩ (.bool s)).setCell ⟨zb, 1, none⟩ v) := by
  obtain ⟨s0, a0, n0, c0, x0, hzc, _, _, _, hzb, _⟩ := hz.open
  have h1 := (hb.block zb hzb).trans hzc
  have h2 : ((w6.setCell ⟨zb, 0, none⟩ (.bool s)).setCell ⟨zb, 1, none⟩ v).heap[zb]? = some (.cells #[.bool s, v] 51) := by
    have e0 := heap_setCell_same _ zb 0 _ _ (.bool s) h1
    have e1 := heap_setCell_same _ zb 1 _ _ v e0
    simpa using e1
  refine ⟨h2, ?_, (hb.mono (Nat.le_of_lt hzb)).trans (below_set w6 zb 0 1 _ v)⟩
  have := hv.off (w' := (w6.setCell ⟨zb, 0, none⟩ (.bool s)).setCell ⟨zb, 1, none⟩ v) h1 (fun k hk => set_other hk _ _ _ _)
  simpa using this
/-- The sign of 0 is none. -/
def sgn (s : Bool) (x : Nat) : Bool := decide (0 < x) && s
theorem num_sgn (s : Bool) (x : Nat) : num (sgn s x) x = num s x := by
  unfold num sgn
  cases s
  · simp
  · rcases Nat.eq_zero_or_pos x with e | e
    · subst e; simp
    · simp [e]
theorem sgn_zero (s : Bool) (x : Nat) (h : x = 0) : sgn s x = false := by subst h; simp [sgn]
/-- The sign is set right. -/
theorem RawI.done {w wx : World} {zb x : Nat} {v : Value} {s : Bool} (h : RawI w zb x v s wx) : IntZ w zb (num s x) (.returned (.pointer (some ⟨zb, 0, none⟩))) (wx.setCell ⟨zb, 0, none⟩ (.bool (sgn s x))) := by
  obtain ⟨h1, h2, h3⟩ := h
  obtain ⟨a, n, c, rfl, _⟩ := h2.slice
  have e0 := heap_setCell_same _ zb 0 _ _ (.bool (sgn s x)) h1
  have hv := h2.off (w' := wx.setCell ⟨zb, 0, none⟩ (.bool (sgn s x))) h1 (fun k hk => heap_setCell_other _ _ _ _ hk)
  refine ⟨rfl, ⟨?_, sgn s x, _, x, by simpa using e0, by simpa using hv, ?_, sgn_zero s x⟩, h3.setCell (show zb ≤ (⟨zb, 0, none⟩ : Addr).block from Nat.le_refl _) _⟩
  · simpa using (Array.getElem?_eq_some_iff.1 h1).1
  · exact (num_sgn s x).symm
theorem IntIn.zero (w : World) : IntIn (w.alloc (.cells #[.bool false, .slice none 0 0] 51)) (w.alloc (.cells #[.bool false, .slice none 0 0] 51)).heap.size 0 w.heap.size :=
  ⟨by rw [size_alloc1]; omega, false, _, 0, heap_alloc_new w _, NatAt.zero _ _, rfl, fun _ => rfl⟩
set_option maxHeartbeats 2000000 in
set_option maxRecDepth 100000 in
theorem setInt64_any (w : World) (zb : Nat) (z0 n : Int) (hz : IntIn w w.heap.size z0 zb) (hn : I64 n) :
    Calls Tryz.prog 75 #[.pointer (some ⟨zb, 0, none⟩), .int .i64 n] w (IntZ w zb n) := by
  have hN := natOf_any n.natAbs (by unfold I64 at hn; omega) w
  have Hz := Lib.hid hz
  obtain ⟨s0, a0, n0, c0, x0, hzc, _, _, _, hzb, _⟩ := hz.open
  have Hzc := Lib.hid hzc
  unfold I64 at hn
  have HZ := Lib.hid fun (w1 : World) (v : Value) (s : Bool) (hb : Below w.heap.size w w1) (hv : NatAt w1 w1.heap.size n.natAbs v) (hs : n = num s n.natAbs) (hs0 : n.natAbs = 0 → s = false) =>
    (show IntZ w zb n (.returned (.pointer (some ⟨zb, 0, none⟩))) ((w1.setCell ⟨zb, 1, none⟩ v).setCell ⟨zb, 0, none⟩ (.bool s)) from
      ⟨rfl, by
        have h1 : w1.heap[zb]? = some (.cells #[.bool s0, .slice a0 n0 c0] 51) := (hb.block zb hzb).trans Hzc.out
        have h2 := (Hz.out.carry hb hb.size).write hv s hs0 (set_int h1 (.bool s) v) (fun k hk => set_other hk _ _ _ _) (by simp)
        rw [← hs] at h2
        exact h2, (hb.mono (Nat.le_of_lt hzb)).trans (below_set _ _ _ _ _ _)⟩)
  clear hz hzc
  have hway : (n < 0 ∧ n = num true n.natAbs ∧ (n.natAbs = 0 → true = false) ∧ IntKind.u64.wrap (-(IntKind.u64.wrap n)) = ((n.natAbs : Nat) : Int)) ∨ (¬ n < 0 ∧ n = num false n.natAbs ∧ (n.natAbs = 0 → false = false) ∧ IntKind.u64.wrap n = ((n.natAbs : Nat) : Int)) := by
    rcases Int.lt_or_le n 0 with hneg | hpos
    · exact .inl ⟨hneg, by unfold num; rw [if_pos rfl]; omega, fun e => by omega, by rw [u64_wrap, u64_wrap]; omega⟩
    · exact .inr ⟨by omega, by unfold num; rw [if_neg (by decide)]; omega, fun _ => rfl, by rw [u64_wrap]; omega⟩
  generalize n.natAbs = u at *
  have HN := Lib.hid hN
  clear hN hn
  rcases hway with ⟨hneg, hs, hs0, hw⟩ | ⟨hneg, hs, hs0, hw⟩
  all_goals
    have HS := Lib.hid (And.intro hs hs0)
    try (have hdn : decide (n < 0) = false := decide_eq_false hneg)
    clear hs hs0
    go_enter Tryz.func75, Tryz.ntmps75
    go_wp2_with fail
    refine HN.out.mono ?_
    clear HN
    rintro e w1 ⟨v, rfl, hv, hb⟩
    obtain ⟨a1, m1, c1, rfl, _⟩ := hv.slice
    have HF := Lib.hid (by first | exact HZ.out w1 _ true hb hv HS.out.1 HS.out.2 | exact HZ.out w1 _ false hb hv HS.out.1 (fun _ => rfl))
    obtain ⟨y0, y1, y2, y3⟩ := of_block2 ((hb.block zb hzb).trans Hzc.out)
    clear hv hb HZ HS
    go_wp2_with fail
    go_ret
    exact HF.out
set_option maxHeartbeats 2000000 in
set_option maxRecDepth 100000 in
theorem newInt_any (w : World) (n : Int) (hn : I64 n) : Calls Tryz.prog 32 #[.int .i64 n] w (IntZ w w.heap.size n) := by
  have hS := setInt64_any (w.alloc (.cells #[.bool false, .slice none 0 0] 51)) w.heap.size 0 n (IntIn.zero w) hn
  have HS := Lib.hid hS
  clear hS
  go_enter Tryz.func32, Tryz.ntmps32
  go_wp2_with fail
  refine HS.out.mono ?_
  rintro e w1 ⟨rfl, h1, h2⟩
  have HF := Lib.hid (show IntZ w w.heap.size n (.returned (.pointer (some ⟨w.heap.size, 0, none⟩))) w1 from ⟨rfl, h1, (below_alloc1 _ _).trans h2⟩)
  clear h1 h2
  go_wp2_with fail
  go_ret
  exact HF.out
end Go.Proofs.YtfgjaoejcbldoaaGreatDoor

namespace Go.Proofs.YtfgjaoejcbldoaaGreatDoor
/-- One digit of nine. -/
theorem chunk_step {x r i : Nat} (hi : i < 9) (hr : r < 10 ^ (9 - i)) (h : 0 < x ∨ 0 < r) :
    backT (x * 10 ^ (9 - i) + r) = UInt8.ofNat (48 + r % 10) :: backT (x * 10 ^ (9 - (i + 1)) + r / 10) ∧ r / 10 < 10 ^ (9 - (i + 1)) := by
  have e : 10 ^ (9 - i) = 10 ^ (9 - (i + 1)) * 10 := by rw [show 9 - i = (9 - (i + 1)) + 1 by omega, Nat.pow_succ]
  have hp : 0 < 10 ^ (9 - (i + 1)) := Nat.pow_pos (by decide)
  generalize 10 ^ (9 - (i + 1)) = p at *
  rw [e] at hr ⊢
  rw [← Nat.mul_assoc]
  have hne : x * p * 10 + r ≠ 0 := by
    rcases h with h | h
    · have : 0 < x * p := Nat.mul_pos h hp
      omega
    · omega
  refine ⟨?_, by omega⟩
  rw [backT_pos hne, show (x * p * 10 + r) % 10 = r % 10 by omega, show (x * p * 10 + r) / 10 = x * p + r / 10 by omega]
/-- How many bits a digit has: m with 2^(m-1) ≤ d < 2^m. -/
theorem bits_end {d m : Nat} (h1 : d / 2 ^ m = 0) (h2 : m = 0 ∨ d / 2 ^ (m - 1) ≠ 0) (hd : d ≠ 0) (hb : d < bD) : 0 < m ∧ m ≤ 32 ∧ 2 ^ (m - 1) ≤ d ∧ d < 2 ^ m := by
  have hp : ∀ k, 0 < 2 ^ k := fun k => Nat.pow_pos (by decide)
  have h3 : d < 2 ^ m := by
    rcases Nat.lt_or_ge d (2 ^ m) with c | c
    · exact c
    · exact absurd h1 (Nat.ne_of_gt (Nat.div_pos c (hp m)))
  have hm : m ≠ 0 := by
    rintro rfl
    simp at h3
    exact hd h3
  have h4 : 2 ^ (m - 1) ≤ d := by
    rcases h2 with h | h
    · exact absurd h hm
    · rcases Nat.lt_or_ge d (2 ^ (m - 1)) with c | c
      · exact absurd (Nat.div_eq_of_lt c) h
      · exact c
  refine ⟨by omega, ?_, h4, h3⟩
  rcases Nat.lt_or_ge 32 m with c | c
  · exfalso
    have : 2 ^ 32 ≤ 2 ^ (m - 1) := Nat.pow_le_pow_right (by decide) (by omega)
    have e : 2 ^ 32 = bD := by decide
    omega
  · exact c
/-- A number shifted so that its highest bit is set: as many digits, the highest from 2^31 on. -/
theorem shift_top {Y V : Nat → Nat} {n n' m : Nat} (hn : 0 < n) (dY : DigsD Y n) (dV : DigsD V n') (hV0 : n' ≠ 0 → V (n' - 1) ≠ 0) (hm0 : 0 < m) (hm : m ≤ 32) (h1 : 2 ^ (m - 1) ≤ Y (n - 1)) (h2 : Y (n - 1) < 2 ^ m) (hs : sumD V n' = 2 ^ (32 - m) * sumD Y n) :
    n' = n ∧ 2147483648 ≤ V (n - 1) := by
  obtain ⟨k, rfl⟩ : ∃ k, n = k + 1 := ⟨n - 1, by omega⟩
  rw [Nat.add_sub_cancel] at *
  have eY : sumD Y (k + 1) = sumD Y k + bD ^ k * Y k := rfl
  have hlow : sumD Y k < bD ^ k := sumD_lt fun i hi => dY i (by omega)
  have hp : 0 < bD ^ k := bD_pos k
  have q1 : 2 ^ (32 - m) * 2 ^ m = bD := by rw [← Nat.pow_add, show 32 - m + m = 32 by omega]; rfl
  have q2 : 2 ^ (32 - m) * 2 ^ (m - 1) = 2147483648 := by rw [← Nat.pow_add, show 32 - m + (m - 1) = 31 by omega]
  have hps : 0 < 2 ^ (32 - m) := Nat.pow_pos (by decide)
  -- bounds of the shifted number
  have b1 : bD ^ k * 2147483648 ≤ sumD V n' := by
    rw [hs, eY, ← q2]
    have := Nat.mul_le_mul_left (2 ^ (32 - m) * bD ^ k) h1
    have e : bD ^ k * (2 ^ (32 - m) * 2 ^ (m - 1)) = 2 ^ (32 - m) * bD ^ k * 2 ^ (m - 1) := by ac_rfl
    rw [e, Nat.mul_add]
    have e2 : 2 ^ (32 - m) * (bD ^ k * Y k) = 2 ^ (32 - m) * bD ^ k * Y k := by ac_rfl
    omega
  have b2 : sumD V n' < bD ^ (k + 1) := by
    have q3 : bD ^ (k + 1) = bD ^ k * (2 ^ (32 - m) * 2 ^ m) := by rw [q1, Nat.pow_succ]
    rw [hs, eY, q3]
    have h3 : sumD Y k + bD ^ k * Y k < bD ^ k * 2 ^ m := by
      have := Nat.mul_le_mul_left (bD ^ k) (show Y k + 1 ≤ 2 ^ m from h2)
      rw [Nat.mul_add, Nat.mul_one] at this
      omega
    have h4 := Nat.mul_lt_mul_of_pos_left h3 hps
    have e : 2 ^ (32 - m) * (bD ^ k * 2 ^ m) = bD ^ k * (2 ^ (32 - m) * 2 ^ m) := by ac_rfl
    omega
  have l1 : n' ≤ k + 1 := sumD_len hV0 b2
  have l2 : k + 1 ≤ n' := by
    rcases Nat.lt_or_ge n' (k + 1) with c | c
    · exfalso
      have h5 := sumD_lt dV
      have h6 : bD ^ n' ≤ bD ^ k := Nat.pow_le_pow_right (by decide) (by omega)
      have h7 : bD ^ k * 1 ≤ bD ^ k * 2147483648 := Nat.mul_le_mul_left _ (by decide)
      omega
    · exact c
  obtain rfl : n' = k + 1 := by omega
  refine ⟨rfl, ?_⟩
  have eV : sumD V (k + 1) = sumD V k + bD ^ k * V k := rfl
  have hv : sumD V k < bD ^ k := sumD_lt fun i hi => dV i (by omega)
  rcases Nat.lt_or_ge (V k) 2147483648 with c | c
  · exfalso
    have := Nat.mul_le_mul_left (bD ^ k) (show V k + 1 ≤ 2147483648 from c)
    rw [Nat.mul_add, Nat.mul_one] at this
    omega
  · exact c
end Go.Proofs.YtfgjaoejcbldoaaGreatDoor

namespace Go.Proofs.YtfgjaoejcbldoaaGreatDoor
/-- A row of n after k changes. -/
def revD (D : Nat → Nat) (n k i : Nat) : Nat := if i < k ∨ n ≤ i + k then D (n - 1 - i) else D i
theorem revD_start (D : Nat → Nat) {n i : Nat} (h : i < n) : revD D n 0 i = D i := by
  unfold revD
  rw [if_neg (by omega)]
theorem revD_low (D : Nat → Nat) {n k : Nat} (h : k < n - 1 - k) : revD D n k k = D k := by
  unfold revD
  rw [if_neg (by omega)]
theorem revD_high (D : Nat → Nat) {n k : Nat} (h : k < n - 1 - k) : revD D n k (n - 1 - k) = D (n - 1 - k) := by
  unfold revD
  rw [if_neg (by omega)]
theorem revD_step (D : Nat → Nat) {n k : Nat} (h : k < n - 1 - k) (i : Nat) (hi : i < n) : putD (putD (revD D n k) k (D (n - 1 - k))) (n - 1 - k) (D k) i = revD D n (k + 1) i := by
  by_cases e1 : i = n - 1 - k
  · subst e1
    rw [putD_at]
    unfold revD
    rw [if_pos (by omega), show n - 1 - (n - 1 - k) = k by omega]
  · rw [putD_other e1]
    by_cases e2 : i = k
    · subst e2
      rw [putD_at]
      unfold revD
      rw [if_pos (by omega)]
    · rw [putD_other e2]
      unfold revD
      by_cases c : i < k ∨ n ≤ i + k
      · rw [if_pos c, if_pos (by omega)]
      · rw [if_neg c, if_neg (by omega)]
theorem revD_end (D : Nat → Nat) {n k : Nat} (h : ¬ k < n - 1 - k) (i : Nat) (hi : i < n) : revD D n k i = D (n - 1 - i) := by
  unfold revD
  split
  · rfl
  · rw [show n - 1 - i = i by omega]
end Go.Proofs.YtfgjaoejcbldoaaGreatDoor

namespace Go.Proofs.YtfgjaoejcbldoaaGreatDoor
open Go
theorem ten_two (k : Nat) : 10 ^ k ≤ 2 ^ (4 * k) := by
  rw [Nat.pow_mul]
  exact Nat.pow_le_pow_left (by decide) k
theorem ten_lt {k m : Nat} (h : 4 * k < 32 * m) : 10 ^ k < bD ^ m := by
  have h1 := ten_two k
  have h3 : bD ^ m = 2 ^ (32 * m) := by rw [show bD = 2 ^ 32 by decide, ← Nat.pow_mul]
  rw [h3]
  exact Nat.lt_of_le_of_lt h1 (Nat.pow_lt_pow_right (by decide) h)
theorem ten_mono {a b : Nat} (h : a ≤ b) : 10 ^ a ≤ 10 ^ b := Nat.pow_le_pow_right (by decide) h
theorem natT_small {l : List UInt8} {k : Nat} (h : WholeT l) (hk : l.length ≤ k) : (wholeN l).natAbs < 10 ^ k := by
  unfold wholeN
  rcases h with ⟨h1, ⟨_, h2, _⟩, _⟩ | ⟨h1, ⟨_, h2, _⟩⟩
  · rw [if_pos h1, Int.natAbs_neg, Int.natAbs_natCast]
    have := natT_lt l.tail h2
    have h3 := ten_mono (show l.tail.length ≤ k by rw [List.length_tail]; omega)
    omega
  · rw [if_neg h1, Int.natAbs_natCast]
    have := natT_lt l h2
    have h3 := ten_mono hk
    omega
theorem dec_len : ∀ (k n : Nat), n < 10 ^ (k + 1) → (Lib.decDigits n).length ≤ k + 1
  | 0, n, h => by
    rw [Lib.decDigits, dif_pos (by simpa using h)]
    simp
  | k + 1, n, h => by
    rw [Lib.decDigits]
    split
    · simp
    · rw [List.length_append, List.length_singleton]
      have := dec_len k (n / 10) (by rw [Nat.div_lt_iff_lt_mul (by decide)]; rw [Nat.pow_succ] at h; exact h)
      omega
theorem itoa_len {z : Int} {k : Nat} (h : z.natAbs < 10 ^ (k + 1)) : (Lib.itoa z).length ≤ k + 2 := by
  have h1 := dec_len k z.natAbs h
  unfold Lib.itoa
  split
  · rw [List.length_cons]
    omega
  · rw [show z.toNat = z.natAbs by omega]
    omega
theorem add_small {x y : Int} {k : Nat} (hx : x.natAbs < 10 ^ k) (hy : y.natAbs < 10 ^ k) : (x + y).natAbs < 10 ^ (k + 1) := by
  rw [Nat.pow_succ]
  omega
theorem mul_small {x y : Int} {k m : Nat} (hx : x.natAbs < 10 ^ k) (hy : y.natAbs < 10 ^ m) : (x * y).natAbs < 10 ^ (k + m) := by
  rw [Int.natAbs_mul, Nat.pow_add]
  exact Nat.mul_lt_mul'' hx hy
/-- The number of a prefix is not greater. -/
theorem natT_foldl (b : List UInt8) : ∀ (a : Nat), a ≤ b.foldl (fun a c => a * 10 + (c.toNat - 48)) a := by
  induction b with
  | nil => exact fun a => Nat.le_refl _
  | cons c r ih => exact fun a => Nat.le_trans (by omega) (ih (a * 10 + (c.toNat - 48)))
theorem natT_take (l : List UInt8) (k : Nat) : natT (l.take k) ≤ natT l := by
  have h : natT l = (l.drop k).foldl (fun a c => a * 10 + (c.toNat - 48)) (natT (l.take k)) := by
    unfold natT
    rw [← List.foldl_append, List.take_append_drop]
  rw [h]
  exact natT_foldl _ _
theorem natT_next {l : List UInt8} {k : Nat} (h : k < l.length) : natT (l.take (k + 1)) = natT (l.take k) * 10 + (l[k].toNat - 48) := by
  rw [List.take_add_one, List.getElem?_eq_getElem h, Option.toList_some, natT_snoc]
end Go.Proofs.YtfgjaoejcbldoaaGreatDoor

namespace Go.Proofs.YtfgjaoejcbldoaaGreatDoor
open Go Go.RowKit Go.Deep
/-- A byte as a value. -/
def byteV (c : UInt8) : Value := .int .u8 (c.toNat : Int)
theorem back_len : ∀ (k n : Nat), n < 2 ^ k → (backT n).length ≤ k
  | 0, n, h => by
    have : n = 0 := by simpa using h
    subst this
    rw [backT_zero]
    simp
  | k + 1, n, h => by
    by_cases e : n = 0
    · subst e; rw [backT_zero]; simp
    · rw [backT_pos e, List.length_cons]
      have := back_len k (n / 10) (by rw [Nat.pow_succ] at h; omega)
      omega
theorem back_max {x : Nat} (h : x < xMax) : (backT x).length ≤ 32000 := back_len (32 * 1000) x (by
  have e : xMax = 2 ^ (32 * 1000) := by unfold xMax lenS; rw [show bD = 2 ^ 32 by decide]; exact (Nat.pow_mul 2 32 1000).symm
  rw [← e]; exact h)
theorem back_none {x : Nat} (h : backT x = []) : x = 0 := by
  by_cases e : x = 0
  · exact e
  · rw [backT_pos e] at h; cases h
/-- A number whose digits lie apart from a row that grows. -/
def NatOff (w : World) (x : Nat) (v vs : Value) : Prop := NatAt w w.heap.size x v ∧ ∀ b o n c, v = .slice (some ⟨b, o, none⟩) n c → 0 < n → vs.ownBlock ≠ some b
theorem NatAt.block_lt {w : World} {B x : Nat} {v : Value} (h : NatAt w B x v) {b o n c : Nat} (e : v = .slice (some ⟨b, o, none⟩) n c) (h0 : 0 < n) : b < B := by
  obtain ⟨D, m, ⟨a, c', e', _, _, _, h4⟩, _⟩ := h
  rw [e] at e'
  cases e'
  obtain ⟨b', o', ea, hb, _⟩ := h4 h0
  cases ea
  exact hb
theorem NatOff.carry {w w' : World} {x : Nat} {v vs : Value} (h : NatOff w x v vs) (hb : Below w.heap.size w w') : NatOff w' x v vs := ⟨h.1.carry hb hb.size, h.2⟩
theorem NatOff.grown {w w' : World} {x : Nat} {v vs vs' : Value} (h : NatOff w x v vs) (hg : w.grownBy w' vs.ownBlock) (ho : vs'.ownBlock = vs.ownBlock ∨ vs'.ownBlock = some w.heap.size) : NatOff w' x v vs' := by
  have hs := hg.size
  obtain ⟨h1, h2⟩ := h
  refine ⟨?_, fun b o n c e h0 hv => ?_⟩
  · obtain ⟨D, m, ⟨a, c, rfl, q1, q2, q3, q4⟩, h5⟩ := h1
    refine ⟨D, m, ⟨a, c, rfl, q1, q2, q3, fun h0 => ?_⟩, h5⟩
    obtain ⟨b, o, rfl, hb, hc⟩ := q4 h0
    refine ⟨b, o, rfl, by omega, fun i hi => ?_⟩
    rw [← hc i hi]
    unfold World.cell?
    rw [show w'.heap[(⟨b, o + i, none⟩ : Addr).block]? = w.heap[(⟨b, o + i, none⟩ : Addr).block]? from hg.block b hb (fun e => h2 b o m c rfl h0 e.symm)]
  · rcases ho with e' | e'
    · rw [e'] at hv
      exact h2 b o n c e h0 hv
    · rw [e'] at hv
      have h3 := h1.block_lt e h0
      cases hv
      exact absurd h3 (Nat.lt_irrefl _)
theorem rowForm {w : World} {base : Nat} {e : TypeId} {size : Nat} {v : Value} {n : Nat} {xs : List Value} (h : w.ownsRow base e size v n xs) : ∃ la lc, v = .slice la n lc := by
  rcases h.2 with ⟨e, h0⟩ | ⟨g, cap, cur, e, _⟩
  · exact ⟨none, 0, by rw [e, h0]⟩
  · exact ⟨_, _, e⟩
theorem keptRow {w w' : World} {base : Nat} {e : TypeId} {size : Nat} {v : Value} {n : Nat} {xs : List Value} (h : w.ownsRow base e size v n xs) (hb : Below w.heap.size w w') : w'.ownsRow base e size v n xs := by
  refine h.kept (below_grown2 hb none) ?_
  cases v.ownBlock <;> simp
theorem cellNew (w : World) (v : Value) (t : TypeId) : ∀ j u, [v][j]? = some u → (w.alloc (.cells #[v] t)).cell? ((⟨w.heap.size, 0, none⟩ : Addr).add j) = some u := by
  intro j u hu
  cases j with
  | zero => obtain rfl : v = u := by simpa using hu
            unfold World.cell?
            rw [show (w.alloc (.cells #[v] t)).heap[((⟨w.heap.size, 0, none⟩ : Addr).add 0).block]? = some (.cells #[v] t) from heap_alloc_new w _]
            rfl
  | succ j => simp at hu
theorem cellNew0 (w : World) (v : Value) (t : TypeId) (fr : Nat × Nat) : (w.alloc (.cells #[v] t fr)).cell? ⟨w.heap.size, 0, none⟩ = some v := by
  unfold World.cell?
  rw [show (w.alloc (.cells #[v] t fr)).heap[(⟨w.heap.size, 0, none⟩ : Addr).block]? = some (.cells #[v] t fr) from heap_alloc_new w _]
  rfl
/-- The bytes of a row. -/
def BytesAt (w : World) (b : Nat) (l : List UInt8) : Prop := ∀ i (h : i < l.length), w.cell? ⟨b, i, none⟩ = some (byteV l[i])
/-- How the text of a nat answers. -/
def TxtP (w : World) (l : List UInt8) (e : Ending) (w' : World) : Prop := ∃ b c, e = .returned (.slice (some ⟨b, 0, none⟩) l.length c) ∧ BytesAt w' b l ∧ Below w.heap.size w w'
/-- What the outer loop keeps. -/
def TextI (w : World) (x : Nat) (vx vs : Value) (wr : World) : Prop :=
  ∃ (y : Nat) (L : List UInt8), NatOff wr y vx vs ∧ y ≤ x ∧ L ++ backT y = backT x ∧ wr.ownsRow w.heap.size 5 1 vs L.length (L.map byteV) ∧ Below w.heap.size w wr
/-- What the inner loop keeps. -/
def TextJ (w : World) (x y n : Nat) (vx vi vs vr : Value) (wr : World) : Prop :=
  ∃ (i r : Nat) (L : List UInt8), vi = .int .i64 i ∧ vr = .int .u32 r ∧ i ≤ 9 ∧ r < 10 ^ (9 - i) ∧ L.length = n + i ∧ NatOff wr y vx vs ∧ L ++ backT (y * 10 ^ (9 - i) + r) = backT x ∧ wr.ownsRow w.heap.size 5 1 vs L.length (L.map byteV) ∧ Below w.heap.size w wr
/-- What the turning loop keeps. -/
def TurnI (w : World) (b cap n : Nat) (D : Nat → Nat) (vi vj : Value) (wr : World) : Prop :=
  ∃ (k : Nat) (f : Nat → Value), vi = .int .i64 k ∧ vj = .int .i64 ((n : Int) - 1 - k) ∧ k ≤ n ∧ wr.rowIs b 5 cap f ∧ (∀ i, i < n → f i = .int .u8 ((revD D n k i : Nat) : Int)) ∧ Below w.heap.size w wr
/-- A row of bytes, seen from behind. -/
def backD (T : List UInt8) (i : Nat) : Nat := (T.getD (T.length - 1 - i) 0).toNat
theorem own_row {W : World} {B : Nat} {R T : List UInt8} {v : Value} (h : W.ownsRow B 5 1 v R.length (R.map byteV)) (h0 : 0 < R.length) (hT : R.reverse = T) :
    ∃ g cap f, v = .slice (some ⟨g, 0, none⟩) T.length cap ∧ B ≤ g ∧ W.rowIs g 5 cap f ∧ T.length ≤ cap ∧ 0 < T.length ∧ T.length = R.length ∧ ∀ i, i < T.length → f i = .int .u8 ((backD T i : Nat) : Int) := by
  subst hT
  rcases h.2 with ⟨_, e⟩ | ⟨g, cap, cur, e, hB, hg, hn, _, hcs, htk⟩
  · omega
  · rw [List.length_reverse]
    refine ⟨g, cap, fun i => cur.getD i .nilIface, e, hB, ⟨cur, hg, by omega, fun i hi => ?_⟩, hn, h0, rfl, fun i hi => ?_⟩
    · show cur[i]? = some (cur.getD i .nilIface)
      rw [Array.getD_eq_getD_getElem?, Array.getElem?_eq_getElem (by omega)]
      rfl
    · have h1 := congrArg (fun l => l[i]?) htk
      rw [Nat.mul_one] at h1
      simp only [List.getElem?_take, if_pos hi, List.getElem?_map, List.getElem?_eq_getElem hi, Option.map_some, Array.getElem?_toList] at h1
      show cur.getD i .nilIface = _
      rw [Array.getD_eq_getD_getElem?, h1]
      unfold backD byteV
      rw [List.length_reverse, List.getD_eq_getElem?_getD, List.getElem?_reverse (by omega), show R.length - 1 - (R.length - 1 - i) = i by omega, List.getElem?_eq_getElem hi]
      rfl
theorem backD_end (T : List UInt8) {i : Nat} (h : i < T.length) : Value.int .u8 ((backD T (T.length - 1 - i) : Nat) : Int) = byteV T[i] := by
  unfold backD byteV
  rw [show T.length - 1 - (T.length - 1 - i) = i by omega, List.getD_eq_getElem?_getD, List.getElem?_eq_getElem h]
  rfl
theorem rev_step {w : World} {b cap n k : Nat} {D : Nat → Nat} {f : Nat → Value} (h : w.rowIs b 5 cap f) (hk : k < n - 1 - k) (hf : ∀ i, i < n → f i = .int .u8 ((revD D n k i : Nat) : Int)) :
    ∃ f', ((w.setCell ⟨b, k, none⟩ (.int .u8 ((D (n - 1 - k) : Nat) : Int))).setCell ⟨b, n - 1 - k, none⟩ (.int .u8 ((D k : Nat) : Int))).rowIs b 5 cap f' ∧ ∀ i, i < n → f' i = .int .u8 ((revD D n (k + 1) i : Nat) : Int) := by
  refine ⟨_, (h.set k _).set (n - 1 - k) _, fun i hi => ?_⟩
  rw [← revD_step D hk i hi]
  unfold putD
  by_cases e1 : i = n - 1 - k
  · rw [if_pos e1, if_pos e1]
  · by_cases e2 : i = k
    · subst e2
      rw [if_neg e1, if_neg e1, if_pos rfl, if_pos rfl]
    · rw [if_neg e1, if_neg e1, if_neg e2, if_neg e2]
      exact hf i hi
def lenOf : Value → Nat
  | .slice _ n _ => n
  | _ => 0
end Go.Proofs.YtfgjaoejcbldoaaGreatDoor
