/- Floats that are integers or halves: how they read; sums, doubles and comparisons of them are exact. No program in sight. -/
import Derived.Test.YtmcahfcihhddjaaGreatDoorIeee
namespace Go.Proofs.YtmcahfcihhddjaaGreatDoor
open Ieee

theorem log_two {m : Nat} (h : 0 < m) : (2 * m).log2 = m.log2 + 1 := by
  have h1 : 2 ^ m.log2 ≤ m := Nat.log2_self_le (by omega)
  have h2 : m < 2 ^ (m.log2 + 1) := Nat.lt_log2_self
  refine (Nat.log2_eq_iff (by omega)).2 ⟨?_, ?_⟩
  · rw [Nat.pow_succ]; omega
  · rw [Nat.pow_succ]; omega

theorem cut_two (neg : Bool) {m : Nat} (h : 0 < m) (c : Nat) : Toward.even.cut neg (2 * m) (c + 1) = Toward.even.cut neg m c := by
  unfold Toward.cut
  have e : min (c + 1) ((2 * m).log2 + 2) = min c (m.log2 + 2) + 1 := by rw [log_two h]; omega
  simp only [e, Nat.shiftLeft_eq, Nat.one_mul, Nat.pow_succ]
  generalize 2 ^ min c (m.log2 + 2) = g
  have e1 : 2 * m / (g * 2) = m / g := by rw [Nat.mul_comm g 2]; exact Nat.mul_div_mul_left _ _ (by decide)
  have e2 : 2 * m % (g * 2) = 2 * (m % g) := by rw [Nat.mul_comm g 2]; exact Nat.mul_mod_mul_left _ _ _
  rw [e1, e2]
  congr 2
  have a1 : decide (g * 2 < 2 * (2 * (m % g))) = decide (g < 2 * (m % g)) := by
    rw [decide_eq_decide]; omega
  have a2 : (g * 2 == 2 * (2 * (m % g))) = (g == 2 * (m % g)) := by
    rw [Bool.eq_iff_iff]; simp; omega
  rw [a1, a2]

theorem near_two (neg : Bool) (m : Nat) (p : Int) : double.nearest neg (2 * m) (p - 1) = double.nearest neg m p := by
  by_cases h : m = 0
  · subst h
    unfold Format.nearest
    simp
  have h0 : 0 < m := by omega
  unfold Format.nearest
  rw [if_neg (by omega), if_neg h, log_two h0]
  have e : p - 1 + ((m.log2 + 1 : Nat) : Int) = p + m.log2 := by omega
  simp only [e]
  generalize max (p + (m.log2 : Int) - (double.fractionBits : Int)) double.leastPlace = last
  congr 3
  by_cases hc : p ≤ last
  · have e1 : (p - 1 - last).toNat = 0 := by omega
    have e2 : (p - last).toNat = 0 := by omega
    have e3 : (last - (p - 1)).toNat = (last - p).toNat + 1 := by omega
    rw [e1, e2, e3]
    simp only [Nat.shiftLeft_zero]
    exact cut_two neg h0 _
  · have e1 : (p - last).toNat = (p - 1 - last).toNat + 1 := by omega
    have e2 : (last - (p - 1)).toNat = 0 := by omega
    have e3 : (last - p).toNat = 0 := by omega
    have e4 : (2 * m) <<< (p - 1 - last).toNat = m <<< ((p - 1 - last).toNat + 1) := by
      rw [Nat.shiftLeft_eq, Nat.shiftLeft_eq, Nat.pow_succ, Nat.mul_comm 2 m, Nat.mul_assoc, Nat.mul_comm 2]
    rw [e1, e2, e3, e4]

theorem near_scale (neg : Bool) (m : Nat) (p : Int) : ∀ k : Nat, double.nearest neg (m * 2 ^ k) (p - k) = double.nearest neg m p
  | 0 => by simp
  | k + 1 => by
    have e : m * 2 ^ (k + 1) = 2 * (m * 2 ^ k) := by rw [Nat.pow_succ, ← Nat.mul_assoc, Nat.mul_comm]
    have e2 : p - ((k + 1 : Nat) : Int) = (p - k) - 1 := by omega
    rw [e, e2, near_two, near_scale neg m p k]

/-- A great exponent, by name. -/
def Kx : Nat := 1073

/-- The float of half of h. -/
def hb (h : Int) : Nat := double.nearest (decide (h < 0)) h.natAbs (-1)

theorem hb_int (n : Int) : FloatKind.f64.nearest n = hb (2 * n) := by
  show double.nearest (decide (n < 0)) n.natAbs 0 = double.nearest (decide (2 * n < 0)) (2 * n).natAbs (-1)
  have e1 : decide (2 * n < 0) = decide (n < 0) := by rw [decide_eq_decide]; omega
  have e2 : (2 * n).natAbs = 2 * n.natAbs := by omega
  rw [e1, e2]
  exact (near_two _ _ 0).symm

/-- The word b is half of h. -/
def IsH (b : Nat) (h : Int) : Prop := ∃ s m i, double.read b = .number s m i ∧ -1074 ≤ i ∧ i ≤ 1000 ∧ (m ≠ 0 → -500 ≤ i) ∧ (m = 0 → s = false) ∧ signed s m (i + 1074).toNat = h * 2 ^ Kx

theorem pow_pos (k : Nat) : (0 : Int) < 2 ^ k := Int.pow_pos (by decide)
theorem neg_pow {x : Int} {k : Nat} : x * 2 ^ k < 0 ↔ x < 0 := by
  have := pow_pos k
  constructor
  · intro h
    by_cases c : x < 0
    · exact c
    · have := Int.mul_nonneg (show 0 ≤ x by omega) (Int.le_of_lt this)
      omega
  · intro h
    exact Int.mul_neg_of_neg_of_pos h this
theorem signed_eq (s : Bool) (m a : Nat) : signed s m a = (if s then -(m : Int) else m) * 2 ^ a := by
  unfold signed
  rw [Nat.shiftLeft_eq, Int.natCast_mul, Int.natCast_pow]
  cases s
  · rfl
  · simp only [if_true, Int.neg_mul]; rfl
theorem signed_mul (s : Bool) (m a b : Nat) : signed s m (a + b) = signed s m a * 2 ^ b := by
  rw [signed_eq, signed_eq, Int.pow_add, Int.mul_assoc]
theorem signed_abs (s : Bool) (m a : Nat) : (signed s m a).natAbs = m * 2 ^ a := by
  rw [signed_eq, Int.natAbs_mul, Int.natAbs_pow]
  cases s <;> simp
theorem signed_zero (s : Bool) (m a : Nat) : signed s m a = 0 ↔ m = 0 := by
  rw [← Int.natAbs_eq_zero, signed_abs]
  simp [Nat.mul_eq_zero, Nat.pow_eq_zero]
theorem signed_neg {s : Bool} {m a : Nat} (h : m ≠ 0) : (signed s m a < 0) ↔ s = true := by
  rw [signed_eq, neg_pow]
  cases s <;> simp <;> omega

theorem mul_pow_zero {x : Int} {k : Nat} : x * 2 ^ k = 0 ↔ x = 0 := by
  have := pow_pos k
  constructor
  · intro h
    rcases Int.mul_eq_zero.1 h with h | h
    · exact h
    · omega
  · rintro rfl; simp

theorem IsH.zero_iff {h : Int} {s : Bool} {m : Nat} {i : Int} (e : signed s m (i + 1074).toNat = h * 2 ^ Kx) : m = 0 ↔ h = 0 := by
  rw [← signed_zero s m (i + 1074).toNat, e, mul_pow_zero]

theorem isH_read (b : Nat) (neg : Bool) (m : Nat) (p : Int) (hb : b = double.nearest neg m p) (h0 : 0 < m) (h1 : m < 2 ^ 53) (hp : -400 ≤ p) (hp' : p ≤ 400) :
    ∃ m' i, double.read b = .number neg m' i ∧ -500 ≤ i ∧ i ≤ 1000 ∧ m' ≠ 0 ∧ m' * 2 ^ (i + 1074).toNat = m * 2 ^ (p + 1074).toNat := by
  have hL := log_le h0 h1
  refine ⟨_, _, by rw [hb]; exact near_read neg h0 h1 (by omega) (by omega), by omega, by omega, ?_, ?_⟩
  · have := Nat.two_pow_pos (52 - m.log2)
    exact Nat.ne_of_gt (Nat.mul_pos h0 this)
  · rw [Nat.mul_assoc, ← Nat.pow_add]
    congr 2
    omega

/-- h is what a float holds twice, exactly. -/
def FitsH (h : Int) : Prop := -18014398509481984 ≤ h ∧ h ≤ 18014398509481984 ∧ (h % 2 ≠ 0 → -9007199254740992 < h ∧ h < 9007199254740992)
def Ex (h : Int) : Prop := h = 0 ∨ ∃ m k : Nat, 0 < m ∧ m < 2 ^ 53 ∧ k ≤ 300 ∧ h.natAbs = m * 2 ^ k

theorem FitsH.exact {h : Int} (f : FitsH h) : Ex h ∧ Ex (2 * h) := by
  by_cases h0 : h = 0
  · subst h0; exact ⟨.inl rfl, .inl rfl⟩
  have key : ∀ (m k : Nat), 0 < m → m < 2 ^ 53 → k ≤ 200 → h.natAbs = m * 2 ^ k → Ex h ∧ Ex (2 * h) := by
    intro m k h1 h2 h3 e
    refine ⟨.inr ⟨m, k, h1, h2, by omega, e⟩, .inr ⟨m, k + 1, h1, h2, by omega, ?_⟩⟩
    have e2 : (2 * h).natAbs = h.natAbs * 2 := by omega
    rw [e2, e, Nat.pow_succ, Nat.mul_assoc]
  obtain ⟨f1, f2, f3⟩ := f
  by_cases ho : h % 2 = 0
  · by_cases hm : h.natAbs = 18014398509481984
    · exact key 1 54 (by omega) (by omega) (by omega) (by rw [hm])
    · refine key (h.natAbs / 2) 1 (by omega) (by omega) (by omega) ?_
      show h.natAbs = h.natAbs / 2 * 2
      omega
  · refine key h.natAbs 0 (by omega) (by omega) (by omega) ?_
    show h.natAbs = h.natAbs * 1
    omega

theorem hb_ex {h : Int} (f : Ex h) : IsH (hb h) h := by
  rcases f with h0 | ⟨m, k, hm, hm', hk, e⟩
  · subst h0
    refine ⟨false, 0, -1074, by decide, by omega, by omega, by simp, by simp, ?_⟩
    rw [(signed_zero _ _ _).2 rfl, Int.zero_mul]
  · have hb' : hb h = double.nearest (decide (h < 0)) m (k - 1) := by
      unfold hb
      rw [e]
      have := near_scale (decide (h < 0)) m (k - 1) k
      rw [← this]
      congr 1
      omega
    obtain ⟨m', i, r, i1, i2, n0, eq⟩ := isH_read _ _ m (k - 1) hb' hm hm' (by omega) (by omega)
    refine ⟨_, m', i, r, by omega, i2, fun _ => i1, fun z => absurd z n0, ?_⟩
    have ea : m' * 2 ^ (i + 1074).toNat = h.natAbs * 2 ^ Kx := by
      rw [eq, e, Nat.mul_assoc, ← Nat.pow_add]
      congr 2
      unfold Kx
      omega
    unfold signed
    rw [Nat.shiftLeft_eq, ea]
    by_cases hn : h < 0
    · simp only [hn, decide_true, if_true]
      have : (h.natAbs : Int) = -h := by omega
      rw [Int.natCast_mul, Int.natCast_pow, this, Int.neg_mul, Int.neg_neg]
      rfl
    · simp only [hn, decide_false]
      have : (h.natAbs : Int) = h := by omega
      rw [if_neg (by simp), Int.natCast_mul, Int.natCast_pow, this]
      rfl
theorem hb_isH {h : Int} (f : FitsH h) : IsH (hb h) h := hb_ex f.exact.1

/-- What is written of an exact number is the float. -/
theorem write_hb (neg : Bool) (M : Nat) (i : Int) (h : Int) (hi : -1074 ≤ i) (e : M * 2 ^ (i + 1074).toNat = h.natAbs * 2 ^ Kx) (hs : neg = decide (h < 0)) : double.nearest neg M i = hb h := by
  have e1 := near_scale neg M i (i + 1074).toNat
  have e2 := near_scale neg h.natAbs (-1) Kx
  have a1 : i - ((i + 1074).toNat : Int) = -1074 := by omega
  rw [a1] at e1
  have a2 : (-1 : Int) - ((Kx : Nat) : Int) = -1074 := rfl
  rw [a2] at e2
  unfold hb
  rw [← hs, ← e1, ← e2, e]

theorem scale_to {s : Bool} {m : Nat} {i base : Int} (h1 : base ≤ i) (h2 : -1074 ≤ base) : signed s m (i + 1074).toNat = signed s m (i - base).toNat * 2 ^ (base + 1074).toNat := by
  rw [← signed_mul]
  congr 1
  omega

theorem abs_mul_pow (x : Int) (k : Nat) : (x * 2 ^ k).natAbs = x.natAbs * 2 ^ k := by
  rw [Int.natAbs_mul, Int.natAbs_pow]; rfl

theorem sub_hb {x y : Nat} {a b : Int} (hx : IsH x a) (hy : IsH y b) : double.sub x y = some (hb (a - b)) := by
  obtain ⟨s, m, i, rx, i1, i2, i3, i4, ex⟩ := hx
  obtain ⟨t, n, j, ry, j1, j2, j3, j4, ey⟩ := hy
  unfold Format.sub
  rw [rx, ry]
  simp only [Datum.opposite, Datum.sum, Option.map_some]
  congr 1
  have eo : signed (!t) n (j - min i j).toNat = -signed t n (j - min i j).toNat := by
    unfold signed; cases t <;> simp
  rw [eo]
  have h1 := scale_to (s := s) (m := m) (i := i) (base := min i j) (by omega) (by omega)
  have h2 := scale_to (s := t) (m := n) (i := j) (base := min i j) (by omega) (by omega)
  rw [ex] at h1
  rw [ey] at h2
  generalize hX : signed s m (i - min i j).toNat = X at h1 ⊢
  generalize hY : signed t n (j - min i j).toNat = Y at h2 ⊢
  have hT : (X + -Y) * 2 ^ (min i j + 1074).toNat = (a - b) * 2 ^ Kx := by
    rw [Int.add_mul, Int.neg_mul, ← h1, ← h2, Int.sub_mul]; omega
  unfold Format.write
  simp only
  refine write_hb _ _ _ _ (by omega) ?_ ?_
  · rw [← abs_mul_pow, hT, abs_mul_pow]
  · by_cases h0 : X + -Y = 0
    · rw [if_pos h0]
      have hab : a - b = 0 := by rw [h0, Int.zero_mul] at hT; exact mul_pow_zero.1 hT.symm
      have ha : decide (a - b < 0) = false := by simp; omega
      rw [ha]
      by_cases m0 : m = 0
      · rw [i4 m0]; rfl
      · by_cases n0 : n = 0
        · exfalso
          have : Y = 0 := by rw [← hY]; exact (signed_zero _ _ _).2 n0
          have : X = 0 := by omega
          rw [this] at hX
          exact m0 ((signed_zero _ _ _).1 hX)
        · have sx := signed_neg (s := s) (a := (i - min i j).toNat) m0
          have sy := signed_neg (s := t) (a := (j - min i j).toNat) n0
          rw [hX] at sx
          rw [hY] at sy
          have : X = Y := by omega
          rw [this] at sx
          cases s <;> cases t <;> simp_all
    · rw [if_neg h0]
      rw [decide_eq_decide, ← neg_pow (x := X + -Y) (k := (min i j + 1074).toNat), hT, neg_pow]

theorem order_hb {x y : Nat} {a b : Int} (hx : IsH x a) (hy : IsH y b) : double.order x y = some (compare a b) := by
  obtain ⟨s, m, i, rx, i1, i2, i3, i4, ex⟩ := hx
  obtain ⟨t, n, j, ry, j1, j2, j3, j4, ey⟩ := hy
  unfold Format.order
  rw [rx, ry]
  simp only [Datum.order]
  congr 1
  have h1 := scale_to (s := s) (m := m) (i := i) (base := min i j) (by omega) (by omega)
  have h2 := scale_to (s := t) (m := n) (i := j) (base := min i j) (by omega) (by omega)
  rw [ex] at h1
  rw [ey] at h2
  generalize signed s m (i - min i j).toNat = X at h1 ⊢
  generalize signed t n (j - min i j).toNat = Y at h2 ⊢
  have hT : (X + -Y) * 2 ^ (min i j + 1074).toNat = (a - b) * 2 ^ Kx := by
    rw [Int.add_mul, Int.neg_mul, ← h1, ← h2, Int.sub_mul]; omega
  have lt : X < Y ↔ a < b := by
    have : X + -Y < 0 ↔ a - b < 0 := by rw [← neg_pow (x := X + -Y) (k := (min i j + 1074).toNat), hT, neg_pow]
    omega
  have eq : X = Y ↔ a = b := by
    have : X + -Y = 0 ↔ a - b = 0 := by rw [← mul_pow_zero (x := X + -Y) (k := (min i j + 1074).toNat), hT, mul_pow_zero]
    omega
  simp only [compare, compareOfLessAndEq]
  by_cases c1 : a < b
  · rw [if_pos c1, if_pos (lt.2 c1)]
  · rw [if_neg c1, if_neg (fun h => c1 (lt.1 h))]
    by_cases c2 : a = b
    · rw [if_pos c2, if_pos (eq.2 c2)]
    · rw [if_neg c2, if_neg (fun h => c2 (eq.1 h))]

/-- Twice a float. -/
theorem mul_two_hb {x : Nat} {a : Int} (hx : IsH x a) : double.mul 4611686018427387904 x = some (hb (2 * a)) ∧ double.mul x 4611686018427387904 = some (hb (2 * a)) := by
  obtain ⟨s, m, i, rx, i1, i2, i3, i4, ex⟩ := hx
  have key : ∀ (M : Nat) (I : Int), M = m * 2 ^ 52 → I = i - 51 → double.nearest s M I = hb (2 * a) := by
    rintro M I rfl rfl
    by_cases m0 : m = 0
    · have a0 : a = 0 := by rw [(signed_zero _ _ _).2 m0] at ex; exact mul_pow_zero.1 ex.symm
      rw [m0, a0, i4 m0]
      simp [Format.nearest, hb]
    · have := i3 m0
      refine write_hb _ _ _ _ (by omega) ?_ ?_
      · have e : (signed s m (i + 1074).toNat).natAbs = (a * 2 ^ Kx).natAbs := by rw [ex]
        rw [signed_abs, abs_mul_pow] at e
        have e2 : (2 * a).natAbs = 2 * a.natAbs := by omega
        rw [e2, Nat.mul_assoc 2, ← e]
        have e3 : (i + 1074).toNat = (i - 51 + 1074).toNat + 51 := by omega
        rw [e3, Nat.pow_add, show (2 : Nat) ^ 52 = 2 * 2 ^ 51 from by decide]
        simp only [Nat.mul_comm, Nat.mul_left_comm]
      · have sx := signed_neg (s := s) (a := (i + 1074).toNat) m0
        rw [ex, neg_pow] at sx
        rw [Bool.eq_iff_iff, ← sx]
        simp
        omega
  have k1 := key (2 ^ 52 * m) (-51 + i) (Nat.mul_comm _ _) (by omega)
  have k2 := key (m * 2 ^ 52) (i + -51) rfl (by omega)
  have e1 : (false ^^ s) = s := by cases s <;> rfl
  have e2 : (s ^^ false) = s := by cases s <;> rfl
  constructor
  · unfold Format.mul
    rw [rx, two_read]
    simp only [Datum.product, Option.map_some, Format.write, e1]
    rw [k1]
  · unfold Format.mul
    rw [rx, two_read]
    simp only [Datum.product, Option.map_some, Format.write, e2]
    rw [k2]

theorem cut_exact (s : Bool) (n c : Nat) : Toward.zero.cut s (n * 2 ^ c) c = n := by
  by_cases h0 : n = 0
  · subst h0
    simp [Toward.cut]
  have h1 : 2 ^ c ≤ n * 2 ^ c := Nat.le_mul_of_pos_left _ (by omega)
  have h2 : c ≤ (n * 2 ^ c).log2 := (Nat.le_log2 (by have := Nat.two_pow_pos c; omega)).2 h1
  have e : min c ((n * 2 ^ c).log2 + 2) = c := by omega
  simp only [Toward.cut, e, Nat.shiftLeft_eq, Nat.one_mul]
  rw [Nat.mul_div_cancel _ (Nat.two_pow_pos c)]
  rfl

theorem integral_hb {x : Nat} {n : Int} (hx : IsH x (2 * n)) : ∃ s, (double.read x).integral .zero = .number s n.natAbs 0 ∧ s = decide (n < 0) := by
  obtain ⟨s, m, i, rx, i1, i2, i3, i4, ex⟩ := hx
  refine ⟨s, ?_, ?_⟩
  · rw [rx]
    simp only [Datum.integral]
    congr 1
    have e : (signed s m (i + 1074).toNat).natAbs = (2 * n * 2 ^ Kx).natAbs := by rw [ex]
    rw [signed_abs, abs_mul_pow] at e
    have e2 : (2 * n).natAbs * 2 ^ Kx = n.natAbs * 2 ^ (Kx + 1) := by
      have : (2 * n).natAbs = n.natAbs * 2 := by omega
      rw [this, Nat.pow_succ, Nat.mul_assoc, Nat.mul_comm 2]
    rw [e2] at e
    by_cases hi : 0 ≤ i
    · have a1 : (-i).toNat = 0 := by omega
      have a2 : (i + 1074).toNat = i.toNat + (Kx + 1) := by unfold Kx; omega
      rw [a1, cut_zero, Nat.shiftLeft_eq]
      rw [a2, Nat.pow_add, ← Nat.mul_assoc] at e
      exact Nat.eq_of_mul_eq_mul_right (Nat.two_pow_pos _) e
    · have a1 : i.toNat = 0 := by omega
      have a2 : Kx + 1 = (-i).toNat + (i + 1074).toNat := by unfold Kx; omega
      rw [a1, Nat.shiftLeft_zero]
      rw [a2, Nat.pow_add, ← Nat.mul_assoc] at e
      rw [Nat.eq_of_mul_eq_mul_right (Nat.two_pow_pos _) e, cut_exact]
  · by_cases m0 : m = 0
    · rw [i4 m0]
      have : 2 * n = 0 := by rw [(signed_zero _ _ _).2 m0] at ex; exact mul_pow_zero.1 ex.symm
      have : n = 0 := by omega
      subst this
      rfl
    · have sx := signed_neg (s := s) (a := (i + 1074).toNat) m0
      rw [ex, neg_pow] at sx
      rw [Bool.eq_iff_iff, ← sx]
      simp
      omega

theorem trunc_hb {x : Nat} {n : Int} (hx : IsH x (2 * n)) : double.write ((double.read x).integral .zero) = hb (2 * n) := by
  obtain ⟨s, e, hs⟩ := integral_hb hx
  rw [e]
  simp only [Format.write]
  refine write_hb _ _ _ _ (by omega) ?_ (by rw [hs, decide_eq_decide]; omega)
  have : (2 * n).natAbs = n.natAbs * 2 := by omega
  rw [this, Nat.mul_assoc, Nat.mul_comm 2, ← Nat.pow_succ, show ((0 : Int) + 1074).toNat = Kx + 1 from rfl]

theorem toInt_hb {x : Nat} {n : Int} (hx : IsH x (2 * n)) : (double.read x).toInt .zero = some n := by
  obtain ⟨s, e, hs⟩ := integral_hb hx
  unfold Datum.toInt
  rw [e]
  simp only [signed, Nat.shiftLeft_zero]
  by_cases h : n < 0
  · rw [hs]
    simp [h]
    omega
  · rw [hs]
    simp [h]
    omega

end Go.Proofs.YtmcahfcihhddjaaGreatDoor
