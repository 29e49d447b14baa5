/- Half of an integer, as impl.toGo reckons it; two great bounds as floats. No program in sight. -/
import Derived.Test.YtmcahfcihhddjaaGreatDoorIeee2
import Derived.Test.YtmcahfcihhddjaaGreatDoorVal
namespace Go.Proofs.YtmcahfcihhddjaaGreatDoor
open Ieee Go

theorem log_kept {m : Nat} (h0 : 0 < m) (h : m < 2 ^ 53) : (m * 2 ^ (52 - m.log2)).log2 = 52 := by
  have hk := kept_bounds h0 h
  refine (Nat.log2_eq_iff (by omega)).2 ⟨hk.1, ?_⟩
  exact hk.2

theorem quo_two {s : Bool} {M G : Nat} {i : Int} (l1 : M.log2 = 52) (l2 : G.log2 = 52) (hG : G ≠ 0) (e1 : M <<< 54 = M * 4 * G) : (Datum.number s M i).quotient 54 (.number false G (-51)) = some (.number s (M * 8) (i - 4)) := by
  have e2 : (s ^^ false) = s := by cases s <;> rfl
  have e3 : 2 * (M * 4) + ((0 : Nat) != 0).toNat = M * 8 := by simp; omega
  have e4 : i - (-51) - ((54 : Nat) : Int) - 1 = i - 4 := by omega
  simp only [Datum.quotient, if_neg hG, l1, l2, e2]
  rw [show 54 + 52 - 52 = 54 from rfl, e1, Nat.mul_div_cancel _ (by omega), Nat.mul_mod_left, e3, e4]
theorem div_two {s : Bool} {M : Nat} {i : Int} (h1 : 2 ^ 52 ≤ M) (h2 : M < 2 ^ 53) : (Datum.number s M i).quotient 54 (.number false (2 ^ 52) (-51)) = some (.number s (M * 8) (i - 4)) := by
  have l1 : M.log2 = 52 := (Nat.log2_eq_iff (by omega)).2 ⟨h1, h2⟩
  have l2 : (2 ^ 52 : Nat).log2 = 52 := (Nat.log2_eq_iff (by omega)).2 ⟨Nat.le_refl _, by omega⟩
  have e1 : M <<< 54 = M * 4 * 2 ^ 52 := by
    rw [Nat.shiftLeft_eq, Nat.mul_assoc, show (2 : Nat) ^ 54 = 4 * 2 ^ 52 from by decide]
  exact quo_two l1 l2 (by decide) e1

theorem halfBits_hb {h : Int} (h1 : -9007199254740992 < h) (h2 : h < 9007199254740992) (h0 : h ≠ 0) : halfBits h = hb h := by
  have m0 : 0 < h.natAbs := by omega
  have m1 : h.natAbs < 2 ^ 53 := by omega
  have hk := kept_bounds m0 m1
  have hL := log_le m0 m1
  have e0 : halfBits h = (double.div (double.nearest (decide (h < 0)) h.natAbs 0) 4611686018427387904).getD 0 := rfl
  have e54 : double.fractionBits + 2 = 54 := rfl
  rw [e0]
  unfold Format.div
  rw [near_read (decide (h < 0)) m0 m1 (by omega) (by omega), two_read, e54, div_two hk.1 hk.2]
  clear hk e0 e54
  simp only [Option.map_some, Option.getD_some, Format.write]
  have hp : h.natAbs * 2 ^ (52 - h.natAbs.log2) * 8 = h.natAbs * 2 ^ (55 - h.natAbs.log2) := by
    rw [show 55 - h.natAbs.log2 = (52 - h.natAbs.log2) + 3 from by omega, Nat.pow_add, Nat.mul_assoc]
  rw [hp]
  generalize h.natAbs.log2 = L at *
  refine write_hb _ _ _ h ?_ ?_ rfl
  · omega
  · rw [Nat.mul_assoc, ← Nat.pow_add]
    congr 2
    unfold Kx
    omega

theorem isH_pow (b : Nat) (s : Bool) (h : Int) (hr : double.read b = .number s (2 ^ 52) 10) (hh : h = if s then -9223372036854775808 else 9223372036854775808) : IsH b h := by
  refine ⟨s, 2 ^ 52, 10, hr, by omega, by omega, fun _ => by omega, fun e => absurd e (by decide), ?_⟩
  have e : ((10 : Int) + 1074).toNat = 11 + Kx := rfl
  rw [e, signed_eq, Int.pow_add, ← Int.mul_assoc, hh]
  cases s <;> rfl
theorem low_isH : IsH 14109777632551763968 (-9223372036854775808) := isH_pow _ true _ (by decide) rfl
theorem high_isH : IsH 4886405595696988160 9223372036854775808 := isH_pow _ false _ (by decide) rfl

end Go.Proofs.YtmcahfcihhddjaaGreatDoor
