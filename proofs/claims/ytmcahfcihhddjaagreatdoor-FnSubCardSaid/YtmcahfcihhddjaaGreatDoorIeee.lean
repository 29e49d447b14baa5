/- Floats that are integers or halves (below 2^53): what they read as, how they compare, that sums and differences of them are exact. No program in sight. -/
import GoSem.Core.Float
namespace Go.Proofs.YtmcahfcihhddjaaGreatDoor
open Ieee

theorem least_double : double.leastPlace = -1074 := by decide
theorem binade_double : double.binade = 2 ^ 52 := rfl
theorem infRung_double : double.infRung = 2047 * 2 ^ 52 := by decide
theorem sign_double : double.signWeight = 2 ^ 63 := rfl

/-- 'n * 2 ^ p', rounded. -/
def fl (n : Int) (p : Int) : Nat := double.nearest (decide (n < 0)) n.natAbs p

theorem cut_zero (w : Toward) (neg : Bool) (n : Nat) : w.cut neg n 0 = n := by
  unfold Toward.cut
  have h1 : (1 : Nat) <<< min 0 (n.log2 + 2) = 1 := by simp
  simp only [h1]
  cases w <;> simp [Nat.mod_one]

theorem pow_split {L : Nat} (h : L ≤ 52) : 2 ^ L * 2 ^ (52 - L) = 2 ^ 52 := by rw [← Nat.pow_add]; congr 1; omega

theorem log_le {m : Nat} (h0 : 0 < m) (h : m < 2 ^ 53) : m.log2 ≤ 52 := by
  have := (Nat.log2_lt (by omega : m ≠ 0) (k := 53)).2 h
  omega

theorem kept_bounds {m : Nat} (h0 : 0 < m) (h : m < 2 ^ 53) : 2 ^ 52 ≤ m * 2 ^ (52 - m.log2) ∧ m * 2 ^ (52 - m.log2) < 2 ^ 53 := by
  have hL := log_le h0 h
  have h1 : 2 ^ m.log2 ≤ m := Nat.log2_self_le (by omega)
  have h2 : m < 2 ^ (m.log2 + 1) := Nat.lt_log2_self
  have e := pow_split hL
  constructor
  · rw [← e]; exact Nat.mul_le_mul_right _ h1
  · have : m * 2 ^ (52 - m.log2) < 2 ^ (m.log2 + 1) * 2 ^ (52 - m.log2) := Nat.mul_lt_mul_of_pos_right h2 (Nat.two_pow_pos _)
    rw [Nat.pow_succ, Nat.mul_assoc, Nat.mul_comm 2, ← Nat.mul_assoc, e] at this
    omega

theorem near_word (neg : Bool) {m : Nat} (h0 : 0 < m) (h : m < 2 ^ 53) {p : Int} (hp : -900 ≤ p) (hp' : p ≤ 900) :
    double.nearest neg m p = double.word neg ((p + m.log2 + 1022).toNat * 2 ^ 52 + m * 2 ^ (52 - m.log2)) := by
  have hL := log_le h0 h
  have hk := kept_bounds h0 h
  unfold Format.nearest
  rw [if_neg (by omega)]
  have e1 : max (p + (m.log2 : Int) - (double.fractionBits : Int)) (-1074) = p + m.log2 - 52 := by
    show max (p + (m.log2 : Int) - (52 : Int)) (-1074) = _
    omega
  simp only [least_double, binade_double, infRung_double, e1]
  have e2 : (p - (p + (m.log2 : Int) - 52)).toNat = 52 - m.log2 := by omega
  have e3 : (p + (m.log2 : Int) - 52 - p).toNat = 0 := by omega
  have e4 : (p + (m.log2 : Int) - 52 - -1074).toNat = (p + m.log2 + 1022).toNat := by omega
  rw [e2, e3, e4, cut_zero, Nat.shiftLeft_eq]
  congr 1
  apply Nat.min_eq_left
  have : (p + m.log2 + 1022).toNat ≤ 2000 := by omega
  generalize (p + m.log2 + 1022).toNat = a at this ⊢
  omega

theorem word_read (neg : Bool) {a f : Nat} (ha : a + 1 < 2047) (hf : f < 2 ^ 52) :
    double.read (double.word neg (a * 2 ^ 52 + (2 ^ 52 + f))) = .number neg (2 ^ 52 + f) (a - 1074) := by
  have e0 : a * 2 ^ 52 + (2 ^ 52 + f) = (a + 1) * 2 ^ 52 + f := by omega
  have hlt : (a + 1) * 2 ^ 52 + f < 2 ^ 63 := by omega
  rw [e0]
  have hs : double.word neg ((a + 1) * 2 ^ 52 + f) / double.signWeight % 2 = neg.toNat ∧ double.word neg ((a + 1) * 2 ^ 52 + f) % double.signWeight = (a + 1) * 2 ^ 52 + f := by
    rw [sign_double]
    unfold Format.word
    rw [sign_double]
    cases neg <;> simp <;> omega
  unfold Format.read
  simp only [hs.1, hs.2, binade_double, infRung_double]
  rw [if_neg (by omega), if_pos (by omega)]
  have d1 : ((a + 1) * 2 ^ 52 + f) % 2 ^ 52 = f := by omega
  have d2 : ((a + 1) * 2 ^ 52 + f) / 2 ^ 52 = a + 1 := by omega
  rw [d1, d2, least_double]
  have e1 : (neg.toNat == 1) = neg := by cases neg <;> rfl
  rw [e1]
  congr 1

theorem near_read (neg : Bool) {m : Nat} (h0 : 0 < m) (h : m < 2 ^ 53) {p : Int} (hp : -900 ≤ p) (hp' : p ≤ 900) :
    double.read (double.nearest neg m p) = .number neg (m * 2 ^ (52 - m.log2)) (p - (52 - m.log2)) := by
  have hL := log_le h0 h
  have hk := kept_bounds h0 h
  rw [near_word neg h0 h hp hp']
  obtain ⟨f, hf⟩ : ∃ f, m * 2 ^ (52 - m.log2) = 2 ^ 52 + f := ⟨_, (Nat.add_sub_cancel' hk.1).symm⟩
  rw [hf] at hk ⊢
  rw [word_read neg (by omega) (by omega)]
  congr 1
  omega

theorem zero_read (neg : Bool) (p : Int) : double.read (double.nearest neg 0 p) = .number neg 0 (-1074) := by
  unfold Format.nearest
  rw [if_pos rfl]
  cases neg <;> decide

/-- What is rounded is no NaN. -/
theorem word_ok (neg : Bool) {r : Nat} (h : r ≤ 2047 * 2 ^ 52) : double.order (double.word neg r) (double.word neg r) = some .eq := by
  have hs : double.word neg r % double.signWeight = r := by
    rw [sign_double]
    unfold Format.word
    rw [sign_double]
    cases neg <;> simp <;> omega
  unfold Format.order Format.read
  simp only [hs, binade_double, infRung_double]
  split
  · simp [Datum.order]
  · split
    · simp [Datum.order]
    · rw [if_pos (by omega)]
      simp [Datum.order]

theorem near_ok (neg : Bool) (m : Nat) (p : Int) : double.order (double.nearest neg m p) (double.nearest neg m p) = some .eq := by
  unfold Format.nearest
  split
  · exact word_ok neg (by omega)
  · exact word_ok neg (by rw [infRung_double]; exact Nat.min_le_right _ _)

theorem two_read : double.read 4611686018427387904 = .number false (2 ^ 52) (-51) := by decide

/-- An odd Half, halved: no NaN. -/
theorem half_some (h : Int) (h1 : -9007199254740992 < h) (h2 : h < 9007199254740992) (h0 : h ≠ 0) :
    ∃ r, FloatKind.f64.format.div (FloatKind.f64.nearest h) 4611686018427387904 = some r := by
  show ∃ r, double.div (double.nearest (decide (h < 0)) h.natAbs 0) 4611686018427387904 = some r
  unfold Format.div
  rw [near_read (decide (h < 0)) (by omega) (by omega) (by omega) (by omega), two_read]
  exact ⟨_, rfl⟩

end Go.Proofs.YtmcahfcihhddjaaGreatDoor
