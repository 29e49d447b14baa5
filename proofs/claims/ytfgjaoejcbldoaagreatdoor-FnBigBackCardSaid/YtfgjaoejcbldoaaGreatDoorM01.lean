/- The plain side: impl.Value as a tree (V), a Go value of type any as a tree (J), and what spec.Fit reckons. No program in sight. -/
/- Plain: an integer's decimal text and its number. No program in sight. -/
/- Plain: the test of an integer's text. No program in sight. -/
/- Plain: a number by its digits of 32 bits, the least first. No program in sight. -/
/- Plain: a digit of a quotient by long division (its estimate and the corrections). No program in sight. -/
/- Plain: what the steps of package big's loops keep, in digits of 32 bits. No program in sight. -/
/- Plain: the steps of package big's loops, one digit each. No program in sight. -/
/- Small facts on worlds. No program in sight. -/
/- A nat and an Int of package big in memory. No function is walked here. -/
/- Contracts of package big's nat.norm, natOf, nat.cmp. -/
import Derived.RowKit
import Derived.Lib.ValidU
import GoSem.Core.Float
import Derived.Lib.ItoaNum
import Derived.Lib.ParseIntB
import Derived.WalkKit
import Derived.Laws.Rows
import Derived.Laws.ResultCell
import Derived.Maps.AppendAt
import Derived.Deep.OwnRows
import Derived.Test.YtfgjaoejcbldoaaGreatDoorProg
import Derived.Lib.Hide
import Derived.Deep.QuietTactic
import Derived.BigQuiet
import Derived.WalkLawsBesides
namespace Go.Proofs.YtfgjaoejcbldoaaGreatDoor
open Go Go.RowKit
/-- impl.Value, as a tree. -/
inductive V where
  | mk (kind half : Int) (text : ByteArray) (list : List V) (keys : List ByteArray) (vals : List V)
def V.kind : V → Int | .mk k _ _ _ _ _ => k
def V.half : V → Int | .mk _ h _ _ _ _ => h
def V.text : V → ByteArray | .mk _ _ t _ _ _ => t
def V.list : V → List V | .mk _ _ _ l _ _ => l
def V.keys : V → List ByteArray | .mk _ _ _ _ k _ => k
def V.vals : V → List V | .mk _ _ _ _ _ v => v
/-- The state of a looker (spec/valid.go). -/
structure Lk where
  parts : Int
  bytes : Int
  bad : Bool
def Lk.want (s : Lk) (ok : Bool) : Lk := { s with bad := s.bad || !ok }


end Go.Proofs.YtfgjaoejcbldoaaGreatDoor

namespace Go.Proofs.YtfgjaoejcbldoaaGreatDoor
open Go
def isDig (c : UInt8) : Prop := 48 ≤ c.toNat ∧ c.toNat ≤ 57
instance (c : UInt8) : Decidable (isDig c) := inferInstanceAs (Decidable (_ ∧ _))
/-- The number that digits spell. -/
def natT (l : List UInt8) : Nat := l.foldl (fun a c => a * 10 + (c.toNat - 48)) 0
theorem natT_snoc (l : List UInt8) (c : UInt8) : natT (l ++ [c]) = natT l * 10 + (c.toNat - 48) := by simp [natT]
/-- Digits without a 0 in front, or 0. -/
def DigsT (d : List UInt8) : Prop := d ≠ [] ∧ (∀ c ∈ d, isDig c) ∧ (d.head? = some 48 → d.length = 1)
/-- An integer's text. -/
def WholeT (l : List UInt8) : Prop := (l.head? = some 45 ∧ DigsT l.tail ∧ l.tail ≠ [48]) ∨ (l.head? ≠ some 45 ∧ DigsT l)
def wholeN (l : List UInt8) : Int := if l.head? = some 45 then -(natT l.tail : Int) else natT l
theorem byte_eq {c : UInt8} (h : isDig c) : UInt8.ofNat (48 + (c.toNat - 48)) = c := by
  have : 48 + (c.toNat - 48) = c.toNat := by unfold isDig at h; omega
  rw [this]
  exact UInt8.ofNat_toNat
theorem dec_natT : ∀ (n : Nat) (d : List UInt8), d.length = n → DigsT d → Lib.decDigits (natT d) = d ∧ (d.head? ≠ some 48 → 1 ≤ natT d)
  | 0, d, hn, h => absurd (List.length_eq_zero_iff.1 hn) h.1
  | n + 1, d, hn, h => by
    obtain ⟨hne, hd, h0⟩ := h
    obtain ⟨e, c, rfl⟩ : ∃ e c, d = e ++ [c] := ⟨d.dropLast, d.getLast hne, (List.dropLast_concat_getLast hne).symm⟩
    have hc : isDig c := hd c (by simp)
    have hc2 := hc
    unfold isDig at hc2
    rw [natT_snoc]
    by_cases he : e = []
    · subst he
      have e1 : natT [] * 10 + (c.toNat - 48) = c.toNat - 48 := by simp [natT]
      rw [e1]
      refine ⟨?_, fun h => ?_⟩
      · rw [Lib.decDigits, dif_pos (by omega), byte_eq hc]
        rfl
      · have : c ≠ 48 := by simpa using h
        have h2 : c.toNat ≠ 48 := fun e => this (by rw [← UInt8.ofNat_toNat (x := c), e]; rfl)
        omega
    · have hl : e.length = n := by simpa using hn
      have hh : (e ++ [c]).head? = e.head? := by cases e with | nil => exact absurd rfl he | cons => rfl
      have h48 : e.head? ≠ some 48 := fun e1 => by
        have := h0 (by rw [hh]; exact e1)
        simp at this
        exact he this
      obtain ⟨ih, ip⟩ := dec_natT n e hl ⟨he, fun x hx => hd x (by simp [hx]), fun e1 => absurd e1 h48⟩
      have := ip h48
      refine ⟨?_, fun _ => by omega⟩
      rw [Lib.decDigits, dif_neg (by omega), show (natT e * 10 + (c.toNat - 48)) / 10 = natT e by omega, show (natT e * 10 + (c.toNat - 48)) % 10 = c.toNat - 48 by omega, ih, byte_eq hc]
theorem digsT_pos {d : List UInt8} (h : DigsT d) (hne : d ≠ [48]) : 1 ≤ natT d := by
  refine (dec_natT _ d rfl h).2 fun e => hne ?_
  have := h.2.2 e
  cases d with
  | nil => simp at this
  | cons a r =>
    have hr : r = [] := by simpa using this
    subst hr
    simpa using e
/-- An integer's text is the text of its number. -/
theorem itoa_whole {l : List UInt8} (h : WholeT l) : Lib.itoa (wholeN l) = l := by
  rcases h with ⟨h1, h2, h3⟩ | ⟨h1, h2⟩
  · have hp := digsT_pos h2 h3
    unfold wholeN Lib.itoa
    rw [if_pos h1, if_pos (by omega), show (-(natT l.tail : Int)).natAbs = natT l.tail by omega, (dec_natT _ _ rfl h2).1]
    cases l with
    | nil => simp at h1
    | cons a r =>
      have : a = 45 := by simpa using h1
      rw [this]
      rfl
  · unfold wholeN Lib.itoa
    rw [if_neg h1, if_neg (by omega), Int.toNat_natCast, (dec_natT _ _ rfl h2).1]
theorem natT_lt (l : List UInt8) (h : ∀ c ∈ l, isDig c) : natT l < 10 ^ l.length := by
  generalize hn : l.length = n
  induction n generalizing l with
  | zero => rw [List.length_eq_zero_iff.1 hn]; simp [natT]
  | succ n ih =>
    have hne : l ≠ [] := by intro e; subst e; simp at hn
    obtain ⟨e, c, rfl⟩ : ∃ e c, l = e ++ [c] := ⟨l.dropLast, l.getLast hne, (List.dropLast_concat_getLast hne).symm⟩
    have h1 := ih e (fun x hx => h x (by simp [hx])) (by simpa using hn)
    have h2 := h c (by simp)
    unfold isDig at h2
    rw [natT_snoc, Nat.pow_succ]
    omega
/-! What strconv.ParseInt makes of such a text. -/
theorem parseUintM_digs (M : Nat) (hM : M < 18446744073709551616) : ∀ (l : List UInt8) (acc : Nat), (∀ c ∈ l, isDig c) → acc ≤ M →
    Lib.parseUintM M acc l = if l.foldl (fun a c => a * 10 + (c.toNat - 48)) acc ≤ M then .ok (l.foldl (fun a c => a * 10 + (c.toNat - 48)) acc) else .range
  | [], acc, _, h => by simp [Lib.parseUintM, h]
  | c :: r, acc, hd, h => by
    have hc := hd c (by simp)
    have mono : ∀ (r : List UInt8) (a : Nat), a ≤ r.foldl (fun a c => a * 10 + (c.toNat - 48)) a := by
      intro r
      induction r with
      | nil => intro a; exact Nat.le_refl _
      | cons x r ih => intro a; simp only [List.foldl_cons]; exact Nat.le_trans (by omega) (ih _)
    have hm := mono r (acc * 10 + (c.toNat - 48))
    rw [Lib.parseUintM, if_pos (show 48 ≤ c.toNat ∧ c.toNat ≤ 57 from hc)]
    rw [List.foldl_cons]
    by_cases h1 : 1844674407370955162 ≤ acc
    · rw [if_pos h1, if_neg (by omega)]
    · rw [if_neg h1]
      by_cases h2 : M < acc * 10 + (c.toNat - 48)
      · rw [if_pos h2, if_neg (by omega)]
      · rw [if_neg h2]
        exact parseUintM_digs M hM r _ (fun x hx => hd x (by simp [hx])) (by omega)
theorem parseInt_whole {l : List UInt8} (h : WholeT l) : Lib.parseIntB 64 l = if -9223372036854775808 ≤ wholeN l ∧ wholeN l ≤ 9223372036854775807 then .ok (wholeN l) else .range := by
  have key : ∀ d : List UInt8, DigsT d → Lib.parseUintB 64 d = if natT d ≤ 18446744073709551615 then .ok (natT d) else .range := fun d hd => by
    unfold Lib.parseUintB
    rw [if_neg hd.1]
    exact parseUintM_digs _ (by decide) d 0 hd.2.1 (Nat.zero_le _)
  cases l with
  | nil => rcases h with ⟨h1, _⟩ | ⟨_, h2⟩ <;> first | (simp at h1; done) | exact absurd rfl h2.1
  | cons c r =>
    rcases h with ⟨h1, h2, h3⟩ | ⟨h1, h2⟩
    · obtain rfl : c = 45 := by simpa using h1
      simp only [List.tail_cons] at h2 h3
      have hp := digsT_pos h2 h3
      have e : wholeN (45 :: r) = -(natT r : Int) := by unfold wholeN; rw [if_pos h1]; rfl
      rw [e]
      unfold Lib.parseIntB
      have e2 : (45 : UInt8).toNat = 45 := rfl
      simp only [e2, or_true, if_true, not_true_eq_false, false_and, if_false, true_and]
      rw [key r h2]
      by_cases hb : natT r ≤ 18446744073709551615
      · rw [if_pos hb]
        simp only
        by_cases hc : 2 ^ (64 - 1) < natT r
        · rw [if_pos hc, if_neg (by omega)]
        · rw [if_neg hc, if_pos (by omega)]
      · rw [if_neg hb, if_neg (by omega)]
    · have h1' : c ≠ 45 := by simpa using h1
      have hc := h2.2.1 c (by simp)
      unfold isDig at hc
      have e : wholeN (c :: r) = (natT (c :: r) : Int) := by unfold wholeN; rw [if_neg h1]
      rw [e]
      unfold Lib.parseIntB
      have n1 : ¬ c.toNat = 45 := by omega
      have n2 : ¬ c.toNat = 43 := by omega
      simp only [n1, n2, or_self, if_false, not_false_eq_true, true_and, false_and]
      rw [key (c :: r) h2]
      by_cases hb : natT (c :: r) ≤ 18446744073709551615
      · rw [if_pos hb]
        simp only
        by_cases hc : 2 ^ (64 - 1) ≤ natT (c :: r)
        · rw [if_pos hc, if_neg (by omega)]
        · rw [if_neg hc, if_pos (by omega)]
      · rw [if_neg hb, if_neg (by omega)]
/-! The text from below. -/
/-- The digits of a number, the last first; of 0 none. -/
def backT (n : Nat) : List UInt8 := if h : n = 0 then [] else UInt8.ofNat (48 + n % 10) :: backT (n / 10)
termination_by n
decreasing_by omega
theorem backT_zero : backT 0 = [] := by rw [backT, dif_pos rfl]
theorem backT_pos {n : Nat} (h : n ≠ 0) : backT n = UInt8.ofNat (48 + n % 10) :: backT (n / 10) := by rw [backT, dif_neg h]
theorem backT_dec (n : Nat) : n ≠ 0 → (backT n).reverse = Lib.decDigits n := by
  induction n using Nat.strongRecOn with
  | ind n ih =>
    intro h
    rw [backT_pos h, List.reverse_cons, Lib.decDigits]
    split
    · rw [show n / 10 = 0 by omega, backT_zero, show n % 10 = n by omega]
      rfl
    · rw [ih (n / 10) (by omega) (by omega)]
/-! The text of a number. -/
theorem dig_byte {d : Nat} (h : d < 10) : isDig (UInt8.ofNat (48 + d)) ∧ (UInt8.ofNat (48 + d)).toNat = 48 + d := by
  have e : (UInt8.ofNat (48 + d)).toNat = 48 + d := by rw [UInt8.toNat_ofNat']; omega
  exact ⟨by unfold isDig; omega, e⟩
theorem decDigits_digs (n : Nat) : DigsT (Lib.decDigits n) ∧ natT (Lib.decDigits n) = n ∧ (Lib.decDigits n ≠ [48] ↔ n ≠ 0) := by
  induction n using Nat.strongRecOn with
  | ind n ih =>
    by_cases h : n < 10
    · rw [Lib.decDigits, dif_pos h]
      obtain ⟨h1, h2⟩ := dig_byte h
      refine ⟨⟨by simp, fun c hc => by rw [List.mem_singleton.1 hc]; exact h1, fun _ => rfl⟩, by show 0 * 10 + ((UInt8.ofNat (48 + n)).toNat - 48) = n; rw [h2]; omega, ?_⟩
      constructor
      · rintro hne rfl
        exact hne rfl
      · intro hn e
        have e1 : UInt8.ofNat (48 + n) = 48 := List.head_eq_of_cons_eq e
        have e2 : (UInt8.ofNat (48 + n)).toNat = 48 := by rw [e1]; rfl
        omega
    · rw [Lib.decDigits, dif_neg h]
      obtain ⟨⟨g1, g2, g3⟩, g4, g5⟩ := ih (n / 10) (by omega)
      obtain ⟨h1, h2⟩ := dig_byte (show n % 10 < 10 by omega)
      have g6 := g5.2 (by omega)
      refine ⟨⟨by simp, fun c hc => ?_, fun e => ?_⟩, by rw [natT_snoc, g4, h2]; omega, ?_⟩
      · rcases List.mem_append.1 hc with hc | hc
        · exact g2 c hc
        · rw [List.mem_singleton.1 hc]; exact h1
      · exfalso
        apply g6
        have eh : (Lib.decDigits (n / 10) ++ [UInt8.ofNat (48 + n % 10)]).head? = (Lib.decDigits (n / 10)).head? := by
          cases hc : Lib.decDigits (n / 10) with
          | nil => exact absurd hc g1
          | cons => rfl
        rw [eh] at e
        have l1 := g3 e
        cases hc : Lib.decDigits (n / 10) with
        | nil => exact absurd hc g1
        | cons a r =>
          rw [hc] at e l1
          have hr : r = [] := by simpa using l1
          have ha : a = 48 := by simpa using e
          rw [hr, ha]
      · refine ⟨fun _ => by omega, fun _ e => ?_⟩
        have := congrArg List.length e
        simp at this
        exact g1 this
theorem whole_itoa (z : Int) : WholeT (Lib.itoa z) ∧ wholeN (Lib.itoa z) = z := by
  unfold Lib.itoa
  split
  · obtain ⟨h1, h2, h3⟩ := decDigits_digs z.natAbs
    refine ⟨.inl ⟨rfl, h1, h3.2 (by omega)⟩, ?_⟩
    unfold wholeN
    rw [if_pos (show (45 :: Lib.decDigits z.natAbs).head? = some 45 from rfl), List.tail_cons, h2]
    omega
  · obtain ⟨h1, h2, _⟩ := decDigits_digs z.toNat
    have hh : (Lib.decDigits z.toNat).head? ≠ some 45 := by
      intro e
      cases hc : Lib.decDigits z.toNat with
      | nil => exact h1.1 hc
      | cons a r =>
        rw [hc] at e
        have ha : a = 45 := by simpa using e
        have := h1.2.1 a (by rw [hc]; simp)
        rw [ha] at this
        exact absurd this (by decide)
    refine ⟨.inr ⟨hh, h1⟩, ?_⟩
    unfold wholeN
    rw [if_neg hh, h2]
    omega
end Go.Proofs.YtfgjaoejcbldoaaGreatDoor

namespace Go.Proofs.YtfgjaoejcbldoaaGreatDoor
/-- A text without its sign. -/
def bodyT (l : List UInt8) : List UInt8 := if l.head? = some 45 then l.tail else l
theorem whole_of {l : List UInt8} (h0 : bodyT l ≠ []) (h1 : (bodyT l).head? ≠ some 48 ∨ l = [48]) (h2 : ∀ c ∈ bodyT l, isDig c) : WholeT l := by
  unfold bodyT at h0 h1 h2
  by_cases h : l.head? = some 45
  · rw [if_pos h] at h0 h1 h2
    rcases h1 with h1 | h1
    · refine .inl ⟨h, ⟨h0, h2, fun e => absurd e h1⟩, fun e => ?_⟩
      rw [e] at h1
      exact h1 rfl
    · rw [h1] at h
      exact absurd h (by decide)
  · rw [if_neg h] at h0 h1 h2
    refine .inr ⟨h, h0, h2, fun e => ?_⟩
    rcases h1 with h1 | h1
    · exact absurd e h1
    · rw [h1]; rfl
end Go.Proofs.YtfgjaoejcbldoaaGreatDoor

namespace Go.Proofs.YtfgjaoejcbldoaaGreatDoor
/-- 2^32. -/
def bD : Nat := 4294967296
/-- The number of k digits. -/
def sumD (D : Nat → Nat) : Nat → Nat
  | 0 => 0
  | k + 1 => sumD D k + bD ^ k * D k
def DigsD (D : Nat → Nat) (k : Nat) : Prop := ∀ i, i < k → D i < bD
theorem bD_pos (k : Nat) : 0 < bD ^ k := Nat.pow_pos (by decide)
theorem sumD_congr {D E : Nat → Nat} {k : Nat} (h : ∀ i, i < k → D i = E i) : sumD D k = sumD E k := by
  induction k with
  | zero => rfl
  | succ k ih => rw [sumD, sumD, ih fun i hi => h i (by omega), h k (by omega)]
theorem sumD_lt {D : Nat → Nat} {k : Nat} (h : DigsD D k) : sumD D k < bD ^ k := by
  induction k with
  | zero => simp [sumD]
  | succ k ih =>
    have h1 := ih fun i hi => h i (by omega)
    have h2 := h k (by omega)
    rw [sumD, Nat.pow_succ]
    have : bD ^ k * D k ≤ bD ^ k * (bD - 1) := Nat.mul_le_mul_left _ (by omega)
    have h3 : bD ^ k * (bD - 1) + bD ^ k = bD ^ k * bD := by
      rw [← Nat.mul_succ]; congr 1
    omega
theorem sumD_add (D : Nat → Nat) (j : Nat) : ∀ k, sumD D (j + k) = sumD D j + bD ^ j * sumD (fun i => D (j + i)) k
  | 0 => by simp [sumD]
  | k + 1 => by
    rw [← Nat.add_assoc, sumD, sumD_add D j k, sumD, Nat.mul_add, Nat.add_assoc, Nat.pow_add, Nat.mul_assoc]
theorem sumD_zero {D : Nat → Nat} {k : Nat} (h : ∀ i, i < k → D i = 0) : sumD D k = 0 := by
  induction k with
  | zero => rfl
  | succ k ih => rw [sumD, ih fun i hi => h i (by omega), h k (by omega), Nat.mul_zero]
theorem sumD_ge {D : Nat → Nat} {k : Nat} (h : 0 < k) (h2 : D (k - 1) ≠ 0) : bD ^ (k - 1) ≤ sumD D k := by
  obtain ⟨k, rfl⟩ : ∃ m, k = m + 1 := ⟨k - 1, by omega⟩
  rw [Nat.add_sub_cancel] at h2 ⊢
  rw [sumD]
  have : bD ^ k * 1 ≤ bD ^ k * D k := Nat.mul_le_mul_left _ (by omega)
  omega
/-- Fewer digits: a lesser number. -/
theorem sumD_short {D E : Nat → Nat} {k m : Nat} (hD : DigsD D k) (hk : k < m) (hE : E (m - 1) ≠ 0) : sumD D k < sumD E m := by
  have h1 := sumD_lt hD
  have h2 := sumD_ge (by omega) hE
  have h3 : bD ^ k ≤ bD ^ (m - 1) := Nat.pow_le_pow_right (by decide) (by omega)
  omega
/-- The first digit from above that differs tells. -/
theorem sumD_top {D E : Nat → Nat} {k : Nat} (hD : DigsD D k) (i m : Nat) (hm : i + 1 + m = k) (he : ∀ j, i < j → j < k → D j = E j) (hl : D i < E i) : sumD D k < sumD E k := by
  subst hm
  rw [sumD_add D (i + 1) m, sumD_add E (i + 1) m, sumD_congr (D := fun j => D (i + 1 + j)) (E := fun j => E (i + 1 + j)) fun j hj => he _ (by omega) (by omega)]
  have h1 : sumD D i < bD ^ i := sumD_lt fun j hj => hD j (by omega)
  rw [sumD, sumD]
  have h2 : bD ^ i * (D i + 1) ≤ bD ^ i * E i := Nat.mul_le_mul_left _ hl
  rw [Nat.mul_add, Nat.mul_one] at h2
  omega
/-- One step of a sum with a carry: x + y + c = z + 2^32 * c'. -/
theorem sumD_step {X Y Z : Nat → Nat} {i c c' : Nat} (h : sumD Z i + bD ^ i * c = sumD X i + sumD Y i) (hz : X i + Y i + c = Z i + bD * c') : sumD Z (i + 1) + bD ^ (i + 1) * c' = sumD X (i + 1) + sumD Y (i + 1) := by
  rw [sumD, sumD, sumD, Nat.pow_succ]
  have : bD ^ i * (X i + Y i + c) = bD ^ i * (Z i + bD * c') := by rw [hz]
  rw [Nat.mul_add, Nat.mul_add, Nat.mul_add, ← Nat.mul_assoc] at this
  omega
/-- One step of a difference with a borrow: x = y + b + z - 2^32 * b'. -/
theorem sumD_less {X Y Z : Nat → Nat} {i b b' : Nat} (h : sumD Z i + sumD Y i = sumD X i + bD ^ i * b) (hz : Z i + Y i + b = X i + bD * b') : sumD Z (i + 1) + sumD Y (i + 1) = sumD X (i + 1) + bD ^ (i + 1) * b' := by
  rw [sumD, sumD, sumD, Nat.pow_succ]
  have : bD ^ i * (Z i + Y i + b) = bD ^ i * (X i + bD * b') := by rw [hz]
  rw [Nat.mul_add, Nat.mul_add, Nat.mul_add, ← Nat.mul_assoc] at this
  omega
/-- One step of a product by a digit with a carry. -/
theorem sumD_times {X Z : Nat → Nat} {i y r c c' : Nat} (h : sumD Z i + bD ^ i * c = sumD X i * y + r) (hz : X i * y + c = Z i + bD * c') : sumD Z (i + 1) + bD ^ (i + 1) * c' = sumD X (i + 1) * y + r := by
  rw [sumD, sumD, Nat.pow_succ]
  have : bD ^ i * (X i * y + c) = bD ^ i * (Z i + bD * c') := by rw [hz]
  rw [Nat.mul_add, Nat.mul_add, ← Nat.mul_assoc, ← Nat.mul_assoc] at this
  rw [Nat.add_mul]
  omega
end Go.Proofs.YtfgjaoejcbldoaaGreatDoor

namespace Go.Proofs.YtfgjaoejcbldoaaGreatDoor
section
variable {v1 v2 Vl W V a u3 Ul U q p t : Nat}
/-- Where the test says 'too great', it is. -/
theorem kd_great (hV : V = (v1 * bD + v2) * W + Vl) (hU : U = (a * bD + u3) * W + Ul) (hUl : Ul < W) (hq : q * V ≤ U) (hqb : q < bD) (ha : a = p * v1 + t) (ht : bD ≤ p ∨ t * bD + u3 < p * v2) : q < p := by
  rcases ht with h | h
  · omega
  · have h1 : (a * bD + u3 + 1) ≤ p * (v1 * bD + v2) := by
      rw [ha, Nat.add_mul, Nat.mul_add, Nat.mul_assoc]
      omega
    have h2 : (a * bD + u3 + 1) * W ≤ p * (v1 * bD + v2) * W := Nat.mul_le_mul_right W h1
    have h3 : p * V = p * (v1 * bD + v2) * W + p * Vl := by rw [hV, Nat.mul_add p ((v1 * bD + v2) * W) Vl, Nat.mul_assoc]
    have h4 : U < p * V := by
      rw [Nat.add_mul, Nat.one_mul] at h2
      omega
    have h5 : q * V < p * V := by omega
    exact Nat.lt_of_mul_lt_mul_right h5
/-- The first estimate is not too small. -/
theorem kd_first (hV : V = (v1 * bD + v2) * W + Vl) (hU : U = (a * bD + u3) * W + Ul) (hUl : Ul < W) (hu3 : u3 < bD) (hv1 : 0 < v1) (hq : q * V ≤ U) : q ≤ a / v1 := by
  rw [Nat.le_div_iff_mul_le hv1]
  have h1 : q * v1 * (bD * W) ≤ q * V := by
    rw [hV, Nat.mul_add, Nat.add_mul, Nat.mul_add]
    have : q * (v1 * bD * W) = q * v1 * (bD * W) := by simp only [Nat.mul_comm, Nat.mul_left_comm]
    omega
  have h2 : U < (a + 1) * (bD * W) := by
    have e : (a + 1) * (bD * W) = (a * bD) * W + bD * W := by rw [Nat.add_mul, Nat.one_mul, Nat.mul_assoc]
    have e2 : (a * bD + u3) * W = (a * bD) * W + u3 * W := Nat.add_mul _ _ _
    have h3 : (u3 + 1) * W ≤ bD * W := Nat.mul_le_mul_right W hu3
    rw [Nat.add_mul, Nat.one_mul] at h3
    omega
  have h3 : q * v1 * (bD * W) < (a + 1) * (bD * W) := by omega
  have := Nat.lt_of_mul_lt_mul_right h3
  omega
/-- Where the test says no more, the estimate is at most one too great. -/
theorem kd_near (hV : V = (v1 * bD + v2) * W + Vl) (hU : U = (a * bD + u3) * W + Ul) (hVl : Vl < W) (hv1 : 0 < v1) (hq : U < (q + 1) * V) (hpb : p < bD) (ha : a = p * v1 + t) (ht : p * v2 ≤ t * bD + u3) : p ≤ q + 1 := by
  have h1 : p * (v1 * bD + v2) ≤ a * bD + u3 := by
    rw [ha, Nat.add_mul, Nat.mul_add, Nat.mul_assoc]
    omega
  have h2 : p * (v1 * bD + v2) * W ≤ (a * bD + u3) * W := Nat.mul_le_mul_right W h1
  have h3 : p * V = p * (v1 * bD + v2) * W + p * Vl := by rw [hV, Nat.mul_add, Nat.mul_assoc]
  have h4 : p * Vl ≤ bD * W := Nat.mul_le_mul (Nat.le_of_lt hpb) (Nat.le_of_lt hVl)
  have h5 : bD * W ≤ V := by
    have : 1 * (bD * W) ≤ v1 * (bD * W) := Nat.mul_le_mul_right _ hv1
    rw [hV, Nat.add_mul, Nat.mul_assoc]
    omega
  have h6 : p * V ≤ U + V := by omega
  have h7 : p * V < (q + 1) * V + V := by omega
  have h8 : p * V < (q + 1 + 1) * V := by rw [Nat.add_mul (q + 1) 1, Nat.one_mul]; exact h7
  have := Nat.lt_of_mul_lt_mul_right h8
  omega
end
/-- A step of 'minus p times v': z + (c mod 2^32) + b = u + 2^32 * b', c the product with the carry. -/
theorem kd_step {Z V U : Nat → Nat} {i p c b b' : Nat} (h : sumD Z i + p * sumD V i = sumD U i + bD ^ i * (c + b)) (hz : Z i + (c + p * V i) % bD + b = U i + bD * b') :
    sumD Z (i + 1) + p * sumD V (i + 1) = sumD U (i + 1) + bD ^ (i + 1) * ((c + p * V i) / bD + b') := by
  have hc := Nat.div_add_mod (c + p * V i) bD
  have hz2 : Z i + (c + p * V i) + b = U i + bD * ((c + p * V i) / bD + b') := by rw [Nat.mul_add]; omega
  rw [sumD, sumD, sumD, Nat.pow_succ, Nat.mul_add p]
  have : bD ^ i * (Z i + (c + p * V i) + b) = bD ^ i * (U i + bD * ((c + p * V i) / bD + b')) := by rw [hz2]
  rw [Nat.mul_add, Nat.mul_add, Nat.mul_add, Nat.mul_add, ← Nat.mul_assoc (bD ^ i) bD] at this
  rw [Nat.mul_add] at h
  have e : p * (bD ^ i * V i) = bD ^ i * (p * V i) := by simp only [Nat.mul_left_comm]
  omega
end Go.Proofs.YtfgjaoejcbldoaaGreatDoor

namespace Go.Proofs.YtfgjaoejcbldoaaGreatDoor
/-- The number of the digits from i to n. -/
def topD (D : Nat → Nat) (n i : Nat) : Nat := sumD (fun k => D (i + k)) (n - i)
theorem topD_end (D : Nat → Nat) (n : Nat) : topD D n n = 0 := by unfold topD; rw [Nat.sub_self]; rfl
theorem sumD_head (D : Nat → Nat) (k : Nat) : sumD D (k + 1) = D 0 + bD * sumD (fun i => D (i + 1)) k := by
  have := sumD_add D 1 k
  rw [Nat.add_comm k 1, this]
  simp only [sumD, Nat.pow_zero, Nat.one_mul, Nat.zero_add, Nat.pow_one]
  rw [sumD_congr (D := fun i => D (1 + i)) (E := fun i => D (i + 1)) fun i _ => by rw [Nat.add_comm]]
theorem topD_step (D : Nat → Nat) {n i : Nat} (h : i < n) : topD D n i = D i + bD * topD D n (i + 1) := by
  unfold topD
  rw [show n - i = (n - (i + 1)) + 1 by omega, sumD_head]
  rw [sumD_congr (D := fun k => D (i + (k + 1))) (E := fun k => D (i + 1 + k)) fun k _ => by rw [Nat.add_assoc, Nat.add_comm 1 k]]
  rfl
theorem topD_zero (D : Nat → Nat) (n : Nat) : topD D n 0 = sumD D n := by
  unfold topD
  rw [Nat.sub_zero]
  exact sumD_congr fun i _ => by rw [Nat.zero_add]
theorem topD_congr {D E : Nat → Nat} {n i : Nat} (h : ∀ k, i ≤ k → k < n → D k = E k) : topD D n i = topD E n i := by
  unfold topD
  exact sumD_congr fun k hk => h _ (by omega) (by omega)
/-- A step of a row of a product: z + 2^32 * c' = z0 + a * y + c. -/
theorem sumD_row {Y Z Z0 : Nat → Nat} {j a c c' : Nat} (h : sumD Z j + bD ^ j * c = sumD Z0 j + a * sumD Y j) (hz : Z0 j + a * Y j + c = Z j + bD * c') :
    sumD Z (j + 1) + bD ^ (j + 1) * c' = sumD Z0 (j + 1) + a * sumD Y (j + 1) := by
  rw [sumD, sumD, sumD, Nat.pow_succ, Nat.mul_add a]
  have : bD ^ j * (Z0 j + a * Y j + c) = bD ^ j * (Z j + bD * c') := by rw [hz]
  rw [Nat.mul_add, Nat.mul_add, Nat.mul_add, ← Nat.mul_assoc (bD ^ j) bD] at this
  have e : a * (bD ^ j * Y j) = bD ^ j * (a * Y j) := by simp only [Nat.mul_left_comm]
  omega
/-- A step of the division by a digit. -/
theorem topD_div {X Q : Nat → Nat} {n i y c c' : Nat} (hi : i < n) (h : topD X n (i + 1) = y * topD Q n (i + 1) + c) (hq : c * bD + X i = y * Q i + c') : topD X n i = y * topD Q n i + c' := by
  rw [topD_step X hi, topD_step Q hi, h, Nat.mul_add, Nat.mul_add]
  have : bD * (y * topD Q n (i + 1)) = y * (bD * topD Q n (i + 1)) := by simp only [Nat.mul_left_comm]
  rw [Nat.mul_comm c bD] at hq
  omega
theorem div_digit {c x y : Nat} (hy : c < y) (hx : x < bD) : (c * bD + x) / y < bD := by
  rw [Nat.div_lt_iff_lt_mul (by omega)]
  have : (c + 1) * bD ≤ y * bD := Nat.mul_le_mul_right _ hy
  rw [Nat.add_mul, Nat.one_mul] at this
  rw [Nat.mul_comm bD y]
  omega
/-- A shift to the right, from the top. -/
theorem topD_rsh {X Z : Nat → Nat} {n i s : Nat} (hi : i < n) (hX : ∀ k, k < n → X k < bD) (hs : s ≤ 32) (ih : topD Z n (i + 1) = topD X n (i + 1) / 2 ^ s)
    (hz : Z i = ((X i + bD * (if i + 1 < n then X (i + 1) else 0)) / 2 ^ s) % bD) : topD Z n i = topD X n i / 2 ^ s := by
  have hb : bD = 2 ^ s * 2 ^ (32 - s) := by rw [← Nat.pow_add, show s + (32 - s) = 32 by omega]; rfl
  have hp : 0 < 2 ^ s := Nat.pow_pos (by decide)
  rw [topD_step Z hi, ih, topD_step X hi]
  generalize hT : topD X n (i + 1) = T
  -- the next digit above
  have hT2 : ∃ R, T = (if i + 1 < n then X (i + 1) else 0) + bD * R := by
    by_cases h : i + 1 < n
    · rw [if_pos h, ← hT, topD_step X h]; exact ⟨_, rfl⟩
    · rw [if_neg h, ← hT, show i + 1 = n by omega, topD_end]; exact ⟨0, rfl⟩
  obtain ⟨R, hR⟩ := hT2
  generalize hx1 : (if i + 1 < n then X (i + 1) else 0) = x1 at *
  have hxi := hX i hi
  -- the whole, and its parts
  have e1 : (X i + bD * T) / 2 ^ s / bD = T / 2 ^ s := by
    rw [Nat.div_div_eq_div_mul, Nat.mul_comm (2 ^ s) bD, ← Nat.div_div_eq_div_mul, Nat.add_mul_div_left _ _ (by decide : 0 < bD), Nat.div_eq_of_lt hxi, Nat.zero_add]
  have e2 : ((X i + bD * T) / 2 ^ s) % bD = ((X i + bD * x1) / 2 ^ s) % bD := by
    have : X i + bD * T = (X i + bD * x1) + 2 ^ s * (2 ^ (32 - s) * (bD * R)) := by
      rw [hR, Nat.mul_add, ← Nat.mul_assoc (2 ^ s), ← hb]
      omega
    rw [this, Nat.add_mul_div_left _ _ hp, Nat.mul_left_comm, Nat.add_mul_mod_self_left]
  rw [hz, ← e2, ← e1]
  have := Nat.mod_add_div ((X i + bD * T) / 2 ^ s) bD
  exact this
/-- A step of a shift to the left: the digit and what goes over. -/
theorem sumD_lsh {X Z : Nat → Nat} {i p c c' : Nat} (h : sumD Z i + bD ^ i * c = p * sumD X i) (hz : p * X i + c = Z i + bD * c') : sumD Z (i + 1) + bD ^ (i + 1) * c' = p * sumD X (i + 1) := by
  have := sumD_times (X := X) (Z := Z) (i := i) (y := p) (r := 0) (c := c) (c' := c') (by rw [h, Nat.mul_comm]; rfl) (by rw [Nat.mul_comm]; exact hz)
  rw [this, Nat.mul_comm]
  rfl
/-- Digits without zeros above: their count is told by the number. -/
theorem sumD_len {D : Nat → Nat} {n k : Nat} (hn : n ≠ 0 → D (n - 1) ≠ 0) (h : sumD D n < bD ^ k) : n ≤ k := by
  rcases Nat.lt_or_ge k n with hk | hk
  · have h1 := sumD_ge (D := D) (k := n) (by omega) (hn (by omega))
    have h2 : bD ^ k ≤ bD ^ (n - 1) := Nat.pow_le_pow_right (by decide) (by omega)
    omega
  · exact hk
end Go.Proofs.YtfgjaoejcbldoaaGreatDoor

namespace Go.Proofs.YtfgjaoejcbldoaaGreatDoor
/-- A digit put at place i. -/
def putD (Z : Nat → Nat) (i z : Nat) : Nat → Nat := fun k => if k = i then z else Z k
theorem putD_at (Z : Nat → Nat) (i z : Nat) : putD Z i z i = z := by simp [putD]
theorem putD_other {Z : Nat → Nat} {i z k : Nat} (h : k ≠ i) : putD Z i z k = Z k := by simp [putD, h]
theorem sumD_put {Z : Nat → Nat} {i z k : Nat} (h : k ≤ i) : sumD (putD Z i z) k = sumD Z k := sumD_congr fun j hj => putD_other (by omega)
theorem digsD_put {Z : Nat → Nat} {i z : Nat} (h : DigsD Z i) (hz : z < bD) : DigsD (putD Z i z) (i + 1) := fun k hk => by
  by_cases e : k = i
  · subst e; rw [putD_at]; exact hz
  · rw [putD_other e]; exact h k (by omega)
/-- Y, with zeros above its n digits. -/
def padD (Y : Nat → Nat) (n : Nat) (i : Nat) : Nat := if i < n then Y i else 0
theorem padD_lt {Y : Nat → Nat} {n : Nat} (h : DigsD Y n) (i : Nat) : padD Y n i < bD := by
  unfold padD
  split
  · exact h i (by assumption)
  · decide
theorem sumD_pad (Y : Nat → Nat) (n : Nat) (m : Nat) (h : n ≤ m) : sumD (padD Y n) m = sumD Y n := by
  obtain ⟨k, rfl⟩ : ∃ k, m = n + k := ⟨m - n, by omega⟩
  rw [sumD_add, sumD_zero (D := fun i => padD Y n (n + i)) (fun i _ => by unfold padD; rw [if_neg (by omega)]), Nat.mul_zero, Nat.add_zero]
  exact sumD_congr fun i hi => by unfold padD; rw [if_pos hi]
/-- One digit of a sum. -/
theorem add_step {X Y Z : Nat → Nat} {i c : Nat} (hX : X i < bD) (hY : Y i < bD) (hc : c ≤ 1) (hZ : DigsD Z i) (hs : sumD Z i + bD ^ i * c = sumD X i + sumD Y i) :
    (X i + Y i + c) / bD ≤ 1 ∧ DigsD (putD Z i ((X i + Y i + c) % bD)) (i + 1) ∧ sumD (putD Z i ((X i + Y i + c) % bD)) (i + 1) + bD ^ (i + 1) * ((X i + Y i + c) / bD) = sumD X (i + 1) + sumD Y (i + 1) := by
  have h0 := Nat.div_add_mod (X i + Y i + c) bD
  refine ⟨?_, digsD_put hZ (Nat.mod_lt _ (by decide)), sumD_step (X := X) (Y := Y) (c := c) (by rw [sumD_put (Nat.le_refl _)]; exact hs) (by rw [putD_at]; omega)⟩
  have : (X i + Y i + c) / bD < 2 := by rw [Nat.div_lt_iff_lt_mul (by decide)]; omega
  omega
theorem add_last {X Y Z : Nat → Nat} {n c : Nat} (hc : c ≤ 1) (hZ : DigsD Z n) (hs : sumD Z n + bD ^ n * c = sumD X n + sumD Y n) :
    DigsD (putD Z n c) (n + 1) ∧ sumD (putD Z n c) (n + 1) = sumD X n + sumD Y n := by
  refine ⟨digsD_put hZ (by unfold bD; omega), ?_⟩
  rw [sumD, sumD_put (Nat.le_refl _), putD_at]
  exact hs
/-- One digit of a difference: d is x - y - b, by 2^64. -/
def subD (x y b : Nat) : Nat := (x + 18446744073709551616 - y - b) % 18446744073709551616
theorem subD_int {x y b : Nat} (hy : y < bD) (hb : b ≤ 1) : ((subD x y b : Nat) : Int) = ((x : Int) - b - y) % 18446744073709551616 := by
  have h : y + b ≤ x + 18446744073709551616 := by unfold bD at hy; omega
  have e : ((x + 18446744073709551616 - y - b : Nat) : Int) = (x : Int) - b - y + 18446744073709551616 := by omega
  unfold subD
  rw [Int.natCast_emod, e]
  exact Int.add_emod_right _ _
theorem sub_step {X Y Z : Nat → Nat} {i b : Nat} (hX : X i < bD) (hY : Y i < bD) (hb : b ≤ 1) (hZ : DigsD Z i) (hs : sumD Z i + sumD Y i = sumD X i + bD ^ i * b) :
    subD (X i) (Y i) b / 9223372036854775808 ≤ 1 ∧ DigsD (putD Z i (subD (X i) (Y i) b % bD)) (i + 1) ∧
      sumD (putD Z i (subD (X i) (Y i) b % bD)) (i + 1) + sumD Y (i + 1) = sumD X (i + 1) + bD ^ (i + 1) * (subD (X i) (Y i) b / 9223372036854775808) := by
  unfold bD at hX hY
  have hd : subD (X i) (Y i) b < 18446744073709551616 := Nat.mod_lt _ (by decide)
  refine ⟨by omega, digsD_put hZ (Nat.mod_lt _ (by decide)), sumD_less (X := X) (Y := Y) (b := b) (by rw [sumD_put (Nat.le_refl _)]; exact hs) ?_⟩
  rw [putD_at]
  unfold subD bD
  omega
theorem sub_last {X Y Z : Nat → Nat} {n b : Nat} (hb : b ≤ 1) (hZ : DigsD Z n) (hs : sumD Z n + sumD Y n = sumD X n + bD ^ n * b) (hxy : sumD Y n ≤ sumD X n) : sumD Z n = sumD X n - sumD Y n := by
  have h1 := sumD_lt hZ
  have : b = 0 := by
    rcases Nat.eq_zero_or_pos b with h | h
    · exact h
    · have : b = 1 := by omega
      subst this
      omega
  subst this
  omega
/-- One digit of a product's row: c' = (z0 + a * y + c) / 2^32. -/
theorem row_step {Y Z Z0 : Nat → Nat} {i j a c : Nat} (hY : Y j < bD) (ha : a < bD) (hc : c < bD) (hz0 : Z0 (i + j) < bD)
    (hs : sumD (fun k => Z (i + k)) j + bD ^ j * c = sumD (fun k => Z0 (i + k)) j + a * sumD Y j) :
    (Z0 (i + j) + a * Y j + c) / bD < bD ∧ Z0 (i + j) + a * Y j + c < 18446744073709551616 ∧
      sumD (fun k => putD Z (i + j) ((Z0 (i + j) + a * Y j + c) % bD) (i + k)) (j + 1) + bD ^ (j + 1) * ((Z0 (i + j) + a * Y j + c) / bD) = sumD (fun k => Z0 (i + k)) (j + 1) + a * sumD Y (j + 1) := by
  have h0 := Nat.div_add_mod (Z0 (i + j) + a * Y j + c) bD
  have h1 : a * Y j ≤ (bD - 1) * (bD - 1) := Nat.mul_le_mul (by omega) (by omega)
  have h2 : (bD - 1) * (bD - 1) = 18446744065119617025 := by decide
  have h3 : Z0 (i + j) + a * Y j + c < 18446744073709551616 := by unfold bD at *; omega
  refine ⟨?_, h3, sumD_row (Y := Y) (Z0 := fun k => Z0 (i + k)) (c := c) ?_ ?_⟩
  · rw [Nat.div_lt_iff_lt_mul (by decide)]
    have : bD * bD = 18446744073709551616 := by decide
    omega
  · rw [sumD_congr (E := fun k => Z (i + k)) fun k hk => putD_other (by omega)]
    exact hs
  · show Z0 (i + j) + a * Y j + c = putD Z (i + j) _ (i + j) + _
    rw [putD_at]
    omega
/-- One digit of x * y + r. -/
theorem times_step {X Z : Nat → Nat} {i y r c : Nat} (hX : X i < bD) (hy : y < bD) (hc : c < bD) (hZ : DigsD Z i) (hs : sumD Z i + bD ^ i * c = sumD X i * y + r) :
    (X i * y + c) / bD < bD ∧ X i * y + c < 18446744073709551616 ∧ DigsD (putD Z i ((X i * y + c) % bD)) (i + 1) ∧ sumD (putD Z i ((X i * y + c) % bD)) (i + 1) + bD ^ (i + 1) * ((X i * y + c) / bD) = sumD X (i + 1) * y + r := by
  have h0 := Nat.div_add_mod (X i * y + c) bD
  have h1 : X i * y ≤ (bD - 1) * (bD - 1) := Nat.mul_le_mul (by omega) (by omega)
  have h2 : (bD - 1) * (bD - 1) = 18446744065119617025 := by decide
  have h3 : X i * y + c < 18446744073709551616 := by unfold bD at *; omega
  refine ⟨?_, h3, digsD_put hZ (Nat.mod_lt _ (by decide)), sumD_times (X := X) (c := c) (by rw [sumD_put (Nat.le_refl _)]; exact hs) (by rw [putD_at]; omega)⟩
  rw [Nat.div_lt_iff_lt_mul (by decide)]
  have : bD * bD = 18446744073709551616 := by decide
  omega
theorem times_last {X Z : Nat → Nat} {n y r c : Nat} (hc : c < bD) (hZ : DigsD Z n) (hs : sumD Z n + bD ^ n * c = sumD X n * y + r) : DigsD (putD Z n c) (n + 1) ∧ sumD (putD Z n c) (n + 1) = sumD X n * y + r := by
  refine ⟨digsD_put hZ hc, ?_⟩
  rw [sumD, sumD_put (Nat.le_refl _), putD_at]
  exact hs
end Go.Proofs.YtfgjaoejcbldoaaGreatDoor

namespace Go.Proofs.YtfgjaoejcbldoaaGreatDoor
open Go Go.RowKit Go.Deep
theorem at_alloc (w : World) (o : Obj) : (w.alloc o).heap[w.heap.size]? = some o := by
  show (w.heap.push o)[w.heap.size]? = _
  simp
theorem at_alloc2 (w : World) (o o' : Obj) : ((w.alloc o).alloc o').heap[w.heap.size + 1]? = some o' := by
  have := at_alloc (w.alloc o) o'
  simpa using this
theorem below_alloc1 (w : World) (o : Obj) : Below w.heap.size w (w.alloc o) := (Below.refl _ _).alloc (Nat.le_refl _) o
theorem below_alloc2 (w : World) (o o' : Obj) : Below w.heap.size w ((w.alloc o).alloc o') := ((Below.refl _ _).alloc (Nat.le_refl _) _).alloc (by simp) _
theorem size_alloc2 (w : World) (o o' : Obj) : ((w.alloc o).alloc o').heap.size = w.heap.size + 2 := by simp
/-- What a callee leaves, handed on. -/
theorem below_next {w w1 w2 : World} (h : Below w.heap.size w w1) (k : Below w1.heap.size w1 w2) : Below w.heap.size w w2 := h.trans (k.mono h.size)
theorem below_grown2 {w w' : World} (h : Below w.heap.size w w') (row : Option Nat) : w.grownBy w' row := ⟨h.os, h.tape, h.output, h.size, fun k hk _ => h.block k hk⟩
theorem size_alloc1 (w : World) (o : Obj) : (w.alloc o).heap.size = w.heap.size + 1 := by simp
end Go.Proofs.YtfgjaoejcbldoaaGreatDoor

namespace Go.Proofs.YtfgjaoejcbldoaaGreatDoor
open Go Go.RowKit Go.Deep
def Ret (R : Value → World → Prop) (e : Ending) (w : World) : Prop := ∃ v, e = .returned v ∧ R v w
def EntersF (f : Nat) : Prop := ∀ args w, (callFunc f args).run Tryz.prog w = .ok (.enter f args) w
/-- The greatest count of digits. -/
def lenMax : Nat := 1000000
/-- Value v is a row of n digits D, in a block below B. -/
def RawAt (w : World) (B : Nat) (D : Nat → Nat) (n : Nat) (v : Value) : Prop :=
  ∃ (a : Option Addr) (c : Nat), v = .slice a n c ∧ n ≤ c ∧ n ≤ lenMax ∧ DigsD D n ∧ (0 < n → ∃ b o, a = some ⟨b, o, none⟩ ∧ b < B ∧ ∀ i, i < n → w.cell? ⟨b, o + i, none⟩ = some (.int .u32 (D i)))
theorem RawAt.carry {w w' : World} {B B' : Nat} {D : Nat → Nat} {n : Nat} {v : Value} (h : RawAt w B D n v) (hb : Below B w w') (hB : B ≤ B') : RawAt w' B' D n v := by
  obtain ⟨a, c, e, h1, h2, h3, h4⟩ := h
  refine ⟨a, c, e, h1, h2, h3, fun h0 => ?_⟩
  obtain ⟨b, o, ea, hbb, hc⟩ := h4 h0
  exact ⟨b, o, ea, by omega, fun i hi => (hb.cell (p := ⟨b, o + i, none⟩) hbb).trans (hc i hi)⟩
/-- Value v is the number x. -/
def NatAt (w : World) (B : Nat) (x : Nat) (v : Value) : Prop := ∃ D n, RawAt w B D n v ∧ (n ≠ 0 → D (n - 1) ≠ 0) ∧ x = sumD D n
theorem NatAt.carry {w w' : World} {B B' : Nat} {x : Nat} {v : Value} (h : NatAt w B x v) (hb : Below B w w') (hB : B ≤ B') : NatAt w' B' x v := by
  obtain ⟨D, n, h1, h2, h3⟩ := h
  exact ⟨D, n, h1.carry hb hB, h2, h3⟩
theorem NatAt.zero (w : World) (B : Nat) : NatAt w B 0 (.slice none 0 0) :=
  ⟨fun _ => 0, 0, ⟨none, 0, rfl, Nat.le_refl _, Nat.zero_le _, fun i hi => by omega, fun h => by omega⟩, fun h => absurd rfl h, rfl⟩
/-- The Int z at block b. -/
def IntIn (w : World) (B : Nat) (z : Int) (b : Nat) : Prop :=
  b < B ∧ ∃ (s : Bool) (v : Value) (x : Nat), w.heap[b]? = some (.cells #[.bool s, v] 51) ∧ NatAt w B x v ∧ z = (if s = true then -(x : Int) else x) ∧ (x = 0 → s = false)
theorem IntIn.carry {w w' : World} {B B' : Nat} {z : Int} {b : Nat} (h : IntIn w B z b) (hb : Below B w w') (hB : B ≤ B') : IntIn w' B' z b := by
  obtain ⟨h0, s, v, x, h1, h2, h3, h4⟩ := h
  exact ⟨by omega, s, v, x, (hb.block b h0).trans h1, h2.carry hb hB, h3, h4⟩
/-- An integer as a value of type any. -/
def NumAt (w : World) (B : Nat) (z : Int) (v : Value) : Prop :=
  (v = .iface 3 (.int .i64 z) ∧ -9223372036854775808 ≤ z ∧ z ≤ 9223372036854775807) ∨ ∃ b, v = .iface 39 (.pointer (some ⟨b, 0, none⟩)) ∧ IntIn w B z b
theorem NumAt.carry {w w' : World} {B B' : Nat} {z : Int} {v : Value} (h : NumAt w B z v) (hb : Below B w w') (hB : B ≤ B') : NumAt w' B' z v := by
  rcases h with h | ⟨b, e, h⟩
  · exact .inl h
  · exact .inr ⟨b, e, h.carry hb hB⟩
/-- How a function of nats answers. -/
def NatP (w : World) (x : Nat) (e : Ending) (w' : World) : Prop := ∃ v, e = .returned v ∧ NatAt w' w'.heap.size x v ∧ Below w.heap.size w w'
/-- A fresh row of digits. -/
theorem raw_of_row {w : World} {b N n : Nat} {t : TypeId} {f : Nat → Value} {D : Nat → Nat} (h : w.rowIs b t N f) (hf : ∀ i, i < n → f i = .int .u32 (D i)) (hn : n ≤ N) (hl : n ≤ lenMax) (hD : DigsD D n) {c : Nat} (hc : n ≤ c) : RawAt w w.heap.size D n (.slice (some ⟨b, 0, none⟩) n c) :=
  ⟨_, c, rfl, hc, hl, hD, fun _ => ⟨b, 0, rfl, h.lt, fun i hi => by rw [Nat.zero_add, h.cell (by omega), hf i hi]⟩⟩
end Go.Proofs.YtfgjaoejcbldoaaGreatDoor

namespace Go.Proofs.YtfgjaoejcbldoaaGreatDoor
open Go Go.RowKit Go.Deep
theorem sumD_cut {D : Nat → Nat} {m : Nat} (h : 0 < m) (h0 : D (m - 1) = 0) : sumD D (m - 1) = sumD D m := by
  obtain ⟨k, rfl⟩ : ∃ k, m = k + 1 := ⟨m - 1, by omega⟩
  rw [Nat.add_sub_cancel] at h0 ⊢
  rw [sumD, h0, Nat.mul_zero, Nat.add_zero]
theorem RawAt.cut {w : World} {B : Nat} {D : Nat → Nat} {n m : Nat} {a : Option Addr} {c : Nat} (h : RawAt w B D n (.slice a n c)) (hm : m ≤ n) : RawAt w B D m (.slice a m c) := by
  obtain ⟨a', c', e, h1, h2, h3, h4⟩ := h
  cases e
  refine ⟨a, c, rfl, by omega, by omega, fun i hi => h3 i (by omega), fun h0 => ?_⟩
  obtain ⟨b, o, ea, hb, hc⟩ := h4 (by omega)
  exact ⟨b, o, ea, hb, fun i hi => hc i (by omega)⟩
def NormI (w : World) (D : Nat → Nat) (n : Nat) (a : Option Addr) (c : Nat) (v : Value) (wr : World) : Prop :=
  ∃ m : Nat, v = .slice a m c ∧ m ≤ n ∧ sumD D m = sumD D n ∧ Below w.heap.size w wr
/-- What norm gives back lies where its argument lay. -/
def NormP (w : World) (a : Option Addr) (c x : Nat) (e : Ending) (w' : World) : Prop := ∃ m, e = .returned (.slice a m c) ∧ NatAt w' w'.heap.size x (.slice a m c) ∧ Below w.heap.size w w'
set_option maxHeartbeats 2000000 in
set_option maxRecDepth 100000 in
theorem norm_same (w : World) (D : Nat → Nat) (n : Nat) (a : Option Addr) (c : Nat) (h : RawAt w w.heap.size D n (.slice a n c)) : Calls Tryz.prog 114 #[.slice a n c] w (NormP w a c (sumD D n)) := by
  have Hr := Lib.hid h
  obtain ⟨a', c', ea, hnc, hnl, hD, hcells⟩ := h
  cases ea
  unfold lenMax at hnl
  have HD := Lib.hid hD
  have Hc := Lib.hid hcells
  clear hD hcells
  go_enter Tryz.func114, Tryz.ntmps114
  go_wp2_with fail
  go_loopw [0] (fun v wr => NormI w D n a c v wr) (fun v _ => match v with | .slice _ m _ => m | _ => 0)
  case atStart => exact ⟨n, rfl, Nat.le_refl _, rfl, Below.refl _ _⟩
  case round =>
    obtain ⟨m, rfl, hm, hs, hb⟩ := hrel
    have Hfin := Lib.hid fun (h0 : m ≠ 0 → D (m - 1) ≠ 0) => (show NatAt wr wr.heap.size (sumD D n) (.slice a m c) from ⟨D, m, (Hr.out.cut hm).carry hb hb.size, h0, hs.symm⟩)
    have Hb := Lib.hid hb
    by_cases h0 : 0 < m
    · obtain ⟨b, o, rfl, hbb, hcc⟩ := Hc.out (by omega)
      have y1 : wr.cell? ⟨b, o + (m - 1), none⟩ = some (.int .u32 (D (m - 1))) := (hb.cell (p := ⟨b, o + (m - 1), none⟩) hbb).trans (hcc (m - 1) (by omega))
      have u1 : (0 : Int) < (m : Int) := by omega
      have u2 : (0 : Int) ≤ (m : Int) - 1 := by omega
      have u3 : (m : Int) - 1 < (m : Int) := by omega
      have u4 : ((m : Int) - 1).toNat = m - 1 := by omega
      clear hcc
      by_cases hd : D (m - 1) = 0
      · have Hs := Lib.hid (show sumD D (m - 1) = sumD D n by rw [sumD_cut h0 hd, hs])
        rw [hd] at y1
        clear hs hb
        go_wp2_with fail
        exact ⟨⟨m - 1, rfl, by omega, Hs.out, Hb.out⟩, by show m - 1 < m; omega⟩
      · have z1 : (((D (m - 1) : Nat) : Int) == 0) = false := by
          have : ((D (m - 1) : Nat) : Int) ≠ 0 := by omega
          simpa using this
        have hfin := Hfin.out fun _ => hd
        have Hfin := Lib.hid hfin
        clear hs hb hfin
        go_wp2_with fail
        go_ret
        exact ⟨_, rfl, Hfin.out, Hb.out⟩
    · have u1 : ¬ (0 : Int) < (m : Int) := by omega
      have hfin := Hfin.out fun h => absurd h (by omega)
      have Hfin := Lib.hid hfin
      clear hs hb hfin
      go_wp2_with fail
      go_ret
      exact ⟨_, rfl, Hfin.out, Hb.out⟩
theorem norm_any (w : World) (D : Nat → Nat) (n : Nat) (v : Value) (h : RawAt w w.heap.size D n v) : Calls Tryz.prog 114 #[v] w (NatP w (sumD D n)) := by
  obtain ⟨a, c, rfl, _⟩ := id h
  exact (norm_same w D n a c h).mono fun _ _ ⟨_, e, h1, h2⟩ => ⟨_, e, h1, h2⟩
theorem RawAt.of_cells {w : World} {b n : Nat} {t : TypeId} {D : Nat → Nat} {cs : Array Value} (h : w.heap[b]? = some (.cells cs t)) (hc : ∀ i, i < n → cs[i]? = some (.int .u32 ((D i : Nat) : Int))) (hl : n ≤ lenMax) (hD : DigsD D n) {c : Nat} (hcap : n ≤ c) : RawAt w w.heap.size D n (.slice (some ⟨b, 0, none⟩) n c) :=
  ⟨_, c, rfl, hcap, hl, hD, fun _ => ⟨b, 0, rfl, (Array.getElem?_eq_some_iff.1 h).1, fun i hi => by rw [Nat.zero_add]; simp [World.cell?, h, hc i hi]⟩⟩
/-- Two digits. -/
def twoD (v : Nat) : Nat → Nat := fun i => if i = 0 then v % bD else v / bD
set_option maxRecDepth 100000 in
theorem natOf_any (v : Nat) (hv : v < 18446744073709551616) (w : World) : Calls Tryz.prog 110 #[.int .u64 (v : Int)] w (NatP w v) := by
  have h0 : v / bD < bD := by unfold bD; omega
  have hs : sumD (twoD v) 2 = v := by
    have := Nat.mod_add_div v bD
    simp only [sumD, twoD, Nat.pow_zero, Nat.pow_one, Nat.one_mul, Nat.zero_add]
    simpa using this
  have hat := at_alloc w (.cells #[.int .u32 ((v % bD : Nat) : Int), .int .u32 ((v / bD : Nat) : Int)] 120)
  have hb := below_alloc1 w (.cells #[.int .u32 ((v % bD : Nat) : Int), .int .u32 ((v / bD : Nat) : Int)] 120)
  have hn := norm_any (w.alloc (.cells #[.int .u32 ((v % bD : Nat) : Int), .int .u32 ((v / bD : Nat) : Int)] 120)) (twoD v) 2 (.slice (some ⟨w.heap.size, 0, none⟩) 2 2)
    (.of_cells hat (fun i hi => by match i, hi with | 0, _ => rfl | 1, _ => rfl) (by decide) (fun i hi => by unfold twoD; split; exact Nat.mod_lt _ (by decide); exact h0) (Nat.le_refl _))
  rw [hs] at hn
  have e1 : ((v % bD : Nat) : Int) = (v : Int) % 4294967296 := by unfold bD; omega
  have e2 : ((v / bD : Nat) : Int) = (v : Int) / 4294967296 := by unfold bD; omega
  rw [e1, e2] at hn hb
  clear hat h0 hs
  have u1 : (v : Int) / 4294967296 < 4294967296 := by omega
  have Hn := Lib.hid hn
  have Hb := Lib.hid hb
  clear hn hb
  go_enter Tryz.func110, Tryz.ntmps110
  go_wp2_with fail
  refine Hn.out.mono ?_
  clear Hn
  rintro e w2 ⟨v', rfl, h2, hb2⟩
  have Hf := Lib.hid (show NatAt w2 w2.heap.size v v' ∧ Below w.heap.size w w2 from ⟨h2, below_next Hb.out hb2⟩)
  clear h2 hb2
  go_wp2_with fail
  go_ret
  exact ⟨_, rfl, Hf.out.1, Hf.out.2⟩
end Go.Proofs.YtfgjaoejcbldoaaGreatDoor
