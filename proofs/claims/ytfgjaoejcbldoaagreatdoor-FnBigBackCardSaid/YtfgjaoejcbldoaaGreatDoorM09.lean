/- Plain: long division, round by round. No program in sight. -/
/- Plain: the end of a round of long division. No program in sight. -/
/- Contract of package big's nat.div: the long way. -/
import Derived.Test.YtfgjaoejcbldoaaGreatDoorM08
import Derived.Deep.RegionWith
import Derived.Deep.DeepCutAuto
import Derived.Deep.CutBlock
import Derived.Deep.CutRange
namespace Go.Proofs.YtfgjaoejcbldoaaGreatDoor
/-- What stands before the round at j - 1: the quotient's digits from j on are found; u is what is left. -/
structure DivI (u Q V : Nat → Nat) (n N j X : Nat) : Prop where
  le : j + n ≤ N + 1
  dig : DigsD u (N + 1)
  eq : X = bD ^ j * topD Q (N + 1 - n) j * sumD V n + sumD u (N + 1)
  zero : ∀ k, j + n ≤ k → k ≤ N → u k = 0
  less : sumD (fun k => u (j + k)) n < sumD V n
theorem sumD_split (u : Nat → Nat) {j n N : Nat} (h : j + n ≤ N + 1) (hz : ∀ k, j + n ≤ k → k ≤ N → u k = 0) : sumD u (N + 1) = sumD u j + bD ^ j * sumD (fun k => u (j + k)) n := by
  obtain ⟨m, hm⟩ : ∃ m, N + 1 = j + n + m := ⟨N + 1 - (j + n), by omega⟩
  rw [hm, sumD_add u (j + n) m, sumD_zero (D := fun i => u (j + n + i)) (fun i hi => hz _ (by omega) (by omega)), Nat.mul_zero, Nat.add_zero, sumD_add]
theorem DivI.rnd {u Q V : Nat → Nat} {n N j X : Nat} (h : DivI u Q V n N (j + 1) X) (h2 : 2 ≤ n) (dV : DigsD V n) (ht : 2147483648 ≤ V (n - 1)) : Rnd (fun k => u (j + k)) V n := by
  have hle := h.le
  refine ⟨h2, fun i hi => h.dig _ (by omega), dV, ht, ?_⟩
  rw [sumD_head]
  have h1 := h.less
  have h3 : u (j + 0) < bD := h.dig _ (by omega)
  rw [sumD_congr (D := fun i => u (j + (i + 1))) (E := fun k => u (j + 1 + k)) fun i _ => by rw [Nat.add_assoc, Nat.add_comm 1 i]]
  have := Nat.mul_le_mul_left bD (show sumD (fun k => u (j + 1 + k)) n + 1 ≤ sumD V n from h1)
  rw [Nat.mul_add, Nat.mul_one, Nat.mul_comm bD (sumD V n)] at this
  omega
theorem DivI.next {u u' Q V : Nat → Nat} {n N j X q : Nat} (h : DivI u Q V n N (j + 1) X) (hu : ∀ k, k < j ∨ j + n < k → u' k = u k) (hd : DigsD (fun k => u' (j + k)) n) (h0 : u' (j + n) = 0)
    (hs : sumD (fun k => u' (j + k)) n + q * sumD V n = sumD (fun k => u (j + k)) (n + 1)) (hl : sumD (fun k => u' (j + k)) n < sumD V n) : DivI u' (putD Q j q) V n N j X := by
  have hle := h.le
  have hz' : ∀ k, j + n ≤ k → k ≤ N → u' k = 0 := fun k h1 h2 => by
    by_cases e : k = j + n
    · rw [e, h0]
    · rw [hu k (by omega)]
      exact h.zero k (by omega) h2
  refine ⟨by omega, fun k hk => ?_, ?_, hz', hl⟩
  · by_cases h1 : k < j
    · rw [hu k (.inl h1)]; exact h.dig k hk
    · by_cases h2 : k < j + n
      · obtain ⟨i, rfl⟩ : ∃ i, k = j + i := ⟨k - j, by omega⟩
        exact hd i (by omega)
      · rw [hz' k (by omega) (by omega)]; decide
  · have e0 := h.eq
    have e1 := sumD_split u (j := j) (n := n + 1) (N := N) (by omega) fun k h1 h2 => h.zero k (by omega) h2
    have e2 := sumD_split u' (j := j) (n := n) (N := N) (by omega) hz'
    have e3 : sumD u' j = sumD u j := sumD_congr fun k hk => hu k (.inl hk)
    have e4 : topD (putD Q j q) (N + 1 - n) j = q + bD * topD Q (N + 1 - n) (j + 1) := by
      rw [topD_step _ (by omega), putD_at, topD_congr (D := putD Q j q) (E := Q) fun k h1 _ => putD_other (by omega)]
    rw [e4, e2, e3]
    rw [e0, e1, ← hs, Nat.pow_succ]
    generalize topD Q (N + 1 - n) (j + 1) = T
    generalize sumD (fun k => u' (j + k)) n = S
    generalize sumD V n = W
    generalize sumD u j = L
    generalize bD ^ j = p
    have a1 : p * bD * T * W = p * (bD * T) * W := by ac_rfl
    have a2 : p * (q + bD * T) * W = p * q * W + p * (bD * T) * W := by rw [Nat.mul_add, Nat.add_mul]
    have a3 : p * (S + q * W) = p * S + p * q * W := by rw [Nat.mul_add, Nat.mul_assoc]
    omega
theorem DivI.start {u Q V : Nat → Nat} {n N X s : Nat} (hn : n ≤ N) (hn0 : 0 < n) (dig : DigsD u (N + 1)) (hX : X = sumD u (N + 1)) {x y : Nat} (hx : x < bD ^ N) (hxs : X = 2 ^ s * x) (hy : bD ^ (n - 1) ≤ y) (hV : sumD V n = 2 ^ s * y) : DivI u Q V n N (N + 1 - n) X := by
  refine ⟨by omega, dig, ?_, fun k h1 h2 => by omega, ?_⟩
  · rw [topD_end, Nat.mul_zero, Nat.zero_mul, Nat.zero_add]
    exact hX
  · have e := sumD_split u (j := N + 1 - n) (n := n) (N := N) (by omega) fun k h1 h2 => by omega
    generalize sumD (fun k => u (N + 1 - n + k)) n = T at *
    have h1 : bD ^ (N + 1 - n) * T ≤ 2 ^ s * x := by omega
    have h2 : 2 ^ s * x < 2 ^ s * bD ^ N := Nat.mul_lt_mul_of_pos_left hx (Nat.pow_pos (by decide))
    have h3 : 2 ^ s * bD ^ N = bD ^ (N + 1 - n) * (2 ^ s * bD ^ (n - 1)) := by
      rw [show N = (N + 1 - n) + (n - 1) by omega, Nat.pow_add, show N + 1 - n + (n - 1) + 1 - n = N + 1 - n by omega]
      ac_rfl
    have h4 : bD ^ (N + 1 - n) * T < bD ^ (N + 1 - n) * (2 ^ s * bD ^ (n - 1)) := by omega
    have h5 : T < 2 ^ s * bD ^ (n - 1) := Nat.lt_of_mul_lt_mul_left h4
    have h6 : 2 ^ s * bD ^ (n - 1) ≤ 2 ^ s * y := Nat.mul_le_mul_left _ hy
    omega
theorem DivI.done {u Q V : Nat → Nat} {n N X s x y : Nat} (h : DivI u Q V n N 0 X) (hxs : X = 2 ^ s * x) (hV : sumD V n = 2 ^ s * y) (hy : 0 < y) : sumD Q (N + 1 - n) = x / y ∧ sumD u (N + 1) = 2 ^ s * (x % y) := by
  have e := h.eq
  have hle := h.le
  rw [Nat.pow_zero, Nat.one_mul, topD_zero, hxs, hV] at e
  have hl : sumD u (N + 1) < 2 ^ s * y := by
    have h1 := sumD_split u (j := 0) (n := n) (N := N) hle h.zero
    have h2 := h.less
    rw [Nat.pow_zero, Nat.one_mul, show sumD u 0 = 0 from rfl, Nat.zero_add] at h1
    rw [h1, ← hV]
    exact h2
  generalize sumD Q (N + 1 - n) = q at *
  generalize sumD u (N + 1) = r at *
  have hp : 0 < 2 ^ s := Nat.pow_pos (by decide)
  have e1 : 2 ^ s * x = 2 ^ s * (q * y) + r := by
    rw [e]
    congr 1
    ac_rfl
  obtain ⟨r', hr⟩ : ∃ r', r = 2 ^ s * r' := by
    have hle2 : 2 ^ s * (q * y) ≤ 2 ^ s * x := by omega
    have hq : q * y ≤ x := Nat.le_of_mul_le_mul_left hle2 hp
    refine ⟨x - q * y, ?_⟩
    rw [Nat.mul_sub]
    omega
  subst hr
  have hr' : r' < y := Nat.lt_of_mul_lt_mul_left hl
  have e2 : x = q * y + r' := by
    have : 2 ^ s * x = 2 ^ s * (q * y + r') := by rw [Nat.mul_add]; exact e1
    exact Nat.eq_of_mul_eq_mul_left hp this
  constructor
  · rw [e2, Nat.mul_comm, Nat.mul_add_div hy, Nat.div_eq_of_lt hr', Nat.add_zero]
  · congr 1
    rw [e2, Nat.mul_comm, Nat.mul_add_mod, Nat.mod_eq_of_lt hr']
end Go.Proofs.YtfgjaoejcbldoaaGreatDoor

namespace Go.Proofs.YtfgjaoejcbldoaaGreatDoor
theorem putD_shift (U : Nat → Nat) (k i z : Nat) : (fun q => putD U (k + i) z (k + q)) = putD (fun q => U (k + q)) i z := by
  funext q
  by_cases e : q = i
  · subst e; rw [putD_at, putD_at]
  · rw [putD_other e, putD_other (by omega)]
theorem msub_ok {U V Z : Nat → Nat} {n p c b : Nat} (h : Rnd U V n) (hq : quoD U V n ≤ p) (hs : sumD Z n + p * sumD V n = sumD U n + bD ^ n * (c + b)) (hcb : c + b ≤ U n) :
    subD (U n) c b = 0 ∧ sumD Z n + p * sumD V n = sumD U (n + 1) ∧ sumD Z n < sumD V n := by
  obtain ⟨e1, e2⟩ := msub_right h hq hs hcb
  have h1 := h.quo.2.1
  have hv : sumD V n < bD ^ n := sumD_lt h.dV
  have e3 : sumD (putD Z n (U n - c - b)) (n + 1) = sumD Z n + bD ^ n * (U n - c - b) := by rw [sumD, sumD_put (Nat.le_refl _), putD_at]
  rw [e3] at e2
  rw [← e1, Nat.add_mul, Nat.one_mul] at h1
  have hz : U n - c - b = 0 := by
    rcases Nat.eq_zero_or_pos (U n - c - b) with e | e
    · exact e
    · exfalso
      have := Nat.mul_le_mul_left (bD ^ n) (show 1 ≤ U n - c - b from e)
      omega
  have hu := h.dU n (by omega)
  rw [hz, Nat.mul_zero, Nat.add_zero] at e2
  refine ⟨?_, e2, by omega⟩
  unfold subD bD at *
  omega
theorem msub_bad {U V Z Z' : Nat → Nat} {n p c b c' : Nat} (h : Rnd U V n) (hZ : DigsD Z n) (hp1 : p ≤ quoD U V n + 1) (hc : c < bD) (hb : b ≤ 1) (hs : sumD Z n + p * sumD V n = sumD U n + bD ^ n * (c + b)) (hcb : U n < c + b)
    (hZ' : DigsD Z' n) (hs' : sumD Z' n + bD ^ n * c' = sumD Z n + sumD V n) (hc' : c' ≤ 1) :
    (subD (U n) c b % bD + c') % bD = 0 ∧ sumD Z' n + (p - 1) * sumD V n = sumD U (n + 1) ∧ sumD Z' n < sumD V n := by
  obtain ⟨e1, e2, e3⟩ := msub_wrong h hZ hp1 hs hcb (by omega) hZ' hs' hc'
  have h1 := h.quo.2.1
  refine ⟨?_, e3, ?_⟩
  · have hu := h.dU n (by omega)
    clear e1 e3 h1 hs hs'
    unfold subD bD at *
    omega
  · rw [e1, Nat.add_sub_cancel] at e3
    rw [Nat.add_mul, Nat.one_mul] at h1
    omega
theorem subD_neg {x y b : Nat} (hx : x < bD) (hy : y < bD) (hb : b ≤ 1) (h : x < y + b) : subD x y b / 9223372036854775808 = 1 := by
  unfold subD bD at *
  omega
end Go.Proofs.YtfgjaoejcbldoaaGreatDoor

namespace Go.Proofs.YtfgjaoejcbldoaaGreatDoor
open Go Go.RowKit Go.Deep
/-- What stands behind 'v, u := y.lsh(s), make(nat, len(x)+1)'. -/
def DivR (W : World) (N z : Nat) (s9 s10 : Value) (wx : World) : Prop :=
  ∃ ub, s10 = .slice (some ⟨ub, 0, none⟩) (N + 1) (N + 1) ∧ NatAt wx wx.heap.size z s9 ∧ RowD wx ub (N + 1) (fun _ => 0) ∧ W.heap.size ≤ ub ∧ Below W.heap.size W wx
theorem below_d {B : Nat} {w w' : World} (h : Below B w w') : Below B w w'.drew := h.trans ⟨rfl, rfl, rfl, Nat.le_refl _, fun _ _ => rfl⟩
theorem below_da {B : Nat} {w w' : World} (h : Below B w w') (hB : w.heap.size ≤ w'.heap.size) (o : Obj) (hC : B ≤ w.heap.size := by first | assumption | exact Nat.le_refl _) : Below B w (w'.drew.alloc o) :=
  (below_d h).alloc (Nat.le_trans hC hB) o
theorem DivR.a {W w6 : World} {N z : Nat} {v : Value} (hb0 : Below W.drew.heap.size W.drew w6) (h : NatAt w6 w6.heap.size z v) :
    DivR W N z v (.slice (some ⟨w6.heap.size, 0, none⟩) (N + 1) (N + 1)) (w6.alloc (.cells (madeCells #[.int .u32 0] (N + 1)) 120)) := by
  have hb : Below W.heap.size W w6 := (below_d (Below.refl _ _)).trans hb0
  exact ⟨_, rfl, h.carry (below_alloc1 _ _) (by rw [size_alloc1]; omega), RowD.made _ _, hb.size, below_next hb (below_alloc1 _ _)⟩
theorem DivR.b {W w6 : World} {N z : Nat} {v : Value} (hb0 : Below (W.drew.alloc (.cells (madeCells #[.int .u32 0] (N + 1)) 120)).heap.size (W.drew.alloc (.cells (madeCells #[.int .u32 0] (N + 1)) 120)) w6) (h : NatAt w6 w6.heap.size z v) :
    DivR W N z v (.slice (some ⟨W.heap.size, 0, none⟩) (N + 1) (N + 1)) w6 := by
  have hb := hb0
  rw [size_alloc1] at hb
  change Below (W.heap.size + 1) _ _ at hb
  exact ⟨_, rfl, h, (RowD.made W.drew (N + 1)).same (hb.block _ (by show W.heap.size < W.heap.size + 1; omega)), Nat.le_refl _, ((below_d (Below.refl _ _)).trans (below_alloc1 W.drew _)).trans (hb.mono (Nat.le_succ _))⟩
theorem u32_wrap (n : Int) : IntKind.u32.wrap n = n % 4294967296 := by simp [IntKind.wrap, IntKind.signed, IntKind.bits]
theorem two_digs {a b : Nat} (ha : a < bD) (hb : b < bD) : a * bD + b < 18446744073709551616 := by unfold bD at *; omega
theorem or5 {A B C D E P : Prop} (h : A ∨ B ∨ C ∨ D ∨ E) (a : A → P) (b : B → P) (c : C → P) (d : D → P) (e : E → P) : P := by
  rcases h with h | h | h | h | h
  · exact a h
  · exact b h
  · exact c h
  · exact d h
  · exact e h
theorem mul_digs {a b : Nat} (ha : a < bD) (hb : b < bD) : a * b < 18446744073709551616 := by
  have h1 : a * b ≤ (bD - 1) * (bD - 1) := Nat.mul_le_mul (by omega) (by omega)
  have h2 : (bD - 1) * (bD - 1) = 18446744065119617025 := by decide
  omega
/-- A row of zeros holds no other digit. -/
theorem RowD.zero_at {w : World} {b K i z : Nat} (h : RowD w b K (fun _ => 0)) (hz : w.cell? ⟨b, i, none⟩ = some (.int .u32 (z : Int))) : z = 0 := by
  obtain ⟨c, hb, hn, hc⟩ := h
  by_cases hi : i < K
  · rw [World.rowIs.cell ⟨c, hb, hn, hc⟩ hi] at hz
    simp at hz
    omega
  · have : c[i]? = none := Array.getElem?_eq_none (by omega)
    simp [World.cell?, hb, this] at hz
/-- Round j of the long division, seen from ahead. -/
def LongI (w0 : World) (B ub qb vb vo N n X : Nat) (V : Nat → Nat) (vj : Value) (wr : World) : Prop :=
  ∃ (j : Nat) (U Q : Nat → Nat), vj = .int .i64 ((j : Int) - 1) ∧ j ≤ N + 1 - n ∧ Mem w0 B ub qb vb vo N (N + 1 - n) n V U Q wr ∧ DigsD Q (N + 1 - n) ∧ DivI U Q V n N j X
/-- The estimate's loop. -/
def GuessI (w0 : World) (B ub qb vb vo N n k : Nat) (V U Q : Nat → Nat) (vp vt : Value) (wr : World) : Prop :=
  ∃ p t : Nat, vp = .int .u64 p ∧ vt = .int .u64 t ∧ Est (fun q => U (k + q)) V n p t ∧ p ≤ bD + 1 ∧ t < bD ∧ Mem w0 B ub qb vb vo N (N + 1 - n) n V U Q wr
/-- The loop that takes p times v away. -/
def TakeI (w0 : World) (B ub qb vb vo N n k p : Nat) (V U Q : Nat → Nat) (vi vc vb' : Value) (wr : World) : Prop :=
  ∃ (i c b : Nat) (U1 : Nat → Nat), vi = .int .i64 i ∧ vc = .int .u64 c ∧ vb' = .int .u64 b ∧ i ≤ n ∧ c < bD ∧ b ≤ 1 ∧ Mem w0 B ub qb vb vo N (N + 1 - n) n V U1 Q wr ∧ (∀ q, q < k ∨ k + i ≤ q → U1 q = U q) ∧ DigsD (fun q => U1 (k + q)) i ∧
    sumD (fun q => U1 (k + q)) i + p * sumD V i = sumD (fun q => U (k + q)) i + bD ^ i * (c + b)
/-- The loop that gives v back. -/
def GiveI (w0 : World) (B ub qb vb vo N n k : Nat) (V U1 Q : Nat → Nat) (vi vc : Value) (wr : World) : Prop :=
  ∃ (i c : Nat) (U2 : Nat → Nat), vi = .int .i64 i ∧ vc = .int .u64 c ∧ i ≤ n ∧ c ≤ 1 ∧ Mem w0 B ub qb vb vo N (N + 1 - n) n V U2 Q wr ∧ (∀ q, q < k ∨ k + i ≤ q → U2 q = U1 q) ∧ DigsD (fun q => U2 (k + q)) i ∧
    sumD (fun q => U2 (k + q)) i + bD ^ i * c = sumD (fun q => U1 (k + q)) i + sumD V i
end Go.Proofs.YtfgjaoejcbldoaaGreatDoor
