/- Plain: what spec.Cmp says of two values; of good values it is 0 just where they are one. -/
import Derived.Test.YtmcahfcihhddjaaGreatDoorVal
namespace Go.Proofs.YtmcahfcihhddjaaGreatDoor
open Go Go.RowKit

def signI (n : Int) : Int := if n < 0 then -1 else if 0 < n then 1 else 0
def textsC (a b : ByteArray) : Int := if Op.bytesLess a.toList b.toList = true then -1 else if Op.bytesLess b.toList a.toList = true then 1 else 0
def keysC : List ByteArray → List ByteArray → Int
  | x :: xs, y :: ys => if textsC x y = 0 then keysC xs ys else textsC x y
  | [], ys => -(ys.length : Int)
  | x :: xs, [] => ((x :: xs).length : Int)

mutual
def cmpV : V → V → Int
  | .mk k h t l ks vs, .mk k' h' t' l' ks' vs' =>
    if k ≠ k' then signI (wrap64 (k - k')) else if k = 3 then signI (wrap64 (h - h')) else if k = 4 then textsC t t'
    else if k = 5 then signI (cmpL l l') else if k = 6 then (if keysC ks ks' = 0 then signI (cmpL vs vs') else signI (keysC ks ks')) else 0
def cmpL : List V → List V → Int
  | x :: xs, y :: ys => if cmpV x y = 0 then cmpL xs ys else cmpV x y
  | [], ys => -(ys.length : Int)
  | x :: xs, [] => ((x :: xs).length : Int)
end

theorem cmpL_drop (a b : List V) (n : Nat) (ha : n < a.length) (hb : n < b.length) :
    cmpL (a.drop n) (b.drop n) = if cmpV a[n] b[n] = 0 then cmpL (a.drop (n + 1)) (b.drop (n + 1)) else cmpV a[n] b[n] := by
  rw [List.drop_eq_getElem_cons ha, List.drop_eq_getElem_cons hb]
  simp only [cmpL]
theorem cmpL_end (a b : List V) (n : Nat) (h : a.length ≤ n ∨ b.length ≤ n) (h1 : n ≤ a.length) (h2 : n ≤ b.length) :
    cmpL (a.drop n) (b.drop n) = (a.length : Int) - b.length := by
  by_cases ha : a.length ≤ n
  · rw [List.drop_eq_nil_of_le ha]
    simp only [cmpL, List.length_drop]
    omega
  · have hb : b.length ≤ n := by omega
    rw [List.drop_eq_nil_of_le hb, List.drop_eq_getElem_cons (by omega)]
    simp only [cmpL, List.length_cons, List.length_drop]
    omega
theorem keysC_drop (a b : List ByteArray) (n : Nat) (ha : n < a.length) (hb : n < b.length) :
    keysC (a.drop n) (b.drop n) = if textsC a[n] b[n] = 0 then keysC (a.drop (n + 1)) (b.drop (n + 1)) else textsC a[n] b[n] := by
  rw [List.drop_eq_getElem_cons ha, List.drop_eq_getElem_cons hb]
  simp only [keysC]
theorem keysC_end (a b : List ByteArray) (n : Nat) (h : a.length ≤ n ∨ b.length ≤ n) (h1 : n ≤ a.length) (h2 : n ≤ b.length) :
    keysC (a.drop n) (b.drop n) = (a.length : Int) - b.length := by
  by_cases ha : a.length ≤ n
  · rw [List.drop_eq_nil_of_le ha]
    simp only [keysC, List.length_drop]
    omega
  · have hb : b.length ≤ n := by omega
    rw [List.drop_eq_nil_of_le hb, List.drop_eq_getElem_cons (by omega)]
    simp only [keysC, List.length_cons, List.length_drop]
    omega

theorem bLess_eq : ∀ (x y : List UInt8), Op.bytesLess x y = decide (x < y)
  | [], [] => by simp [Op.bytesLess]
  | _ :: _, [] => by simp [Op.bytesLess]
  | [], _ :: _ => by simp [Op.bytesLess]
  | a :: x, b :: y => by
    rw [Op.bytesLess, bLess_eq x y]
    simp only [List.cons_lt_cons_iff]
    by_cases h1 : a < b <;> by_cases h2 : a = b <;> by_cases h3 : x < y <;> simp [h1, h2, h3]
theorem toList_inj {a b : ByteArray} (h : a.toList = b.toList) : a = b := by
  rw [Lib.toList_data, Lib.toList_data] at h
  obtain ⟨⟨x⟩⟩ := a
  obtain ⟨⟨y⟩⟩ := b
  simp at h
  rw [h]
theorem textsC_lt {a b : ByteArray} : textsC a b = -1 ↔ a.toList < b.toList := by
  unfold textsC
  simp only [bLess_eq, decide_eq_true_eq]
  split
  · simp [*]
  · split <;> simp [*]
theorem textsC_gt {a b : ByteArray} : textsC a b = 1 ↔ b.toList < a.toList := by
  unfold textsC
  simp only [bLess_eq, decide_eq_true_eq]
  split
  · rename_i h
    simp
    try exact Std.le_of_lt h
  · split <;> simp [*]
theorem textsC_zero {a b : ByteArray} : textsC a b = 0 ↔ a = b := by
  unfold textsC
  simp only [bLess_eq, decide_eq_true_eq]
  constructor
  · intro h
    split at h
    · omega
    · split at h
      · omega
      · rename_i h1 h2
        exact toList_inj (List.le_antisymm (List.not_lt.1 h2) (List.not_lt.1 h1))
  · rintro rfl
    rw [if_neg (List.lt_irrefl _), if_neg (List.lt_irrefl _)]
theorem textsC_swap (a b : ByteArray) : textsC b a = -textsC a b := by
  unfold textsC
  simp only [bLess_eq, decide_eq_true_eq]
  by_cases h1 : a.toList < b.toList <;> by_cases h2 : b.toList < a.toList
  · exact absurd (List.lt_trans h1 h2) (List.lt_irrefl _)
  all_goals simp [h1, h2]

theorem signI_zero {n : Int} : signI n = 0 ↔ n = 0 := by unfold signI; split <;> (try split) <;> omega

theorem keysC_zero : ∀ {a b : List ByteArray}, keysC a b = 0 ↔ a = b
  | [], [] => by simp [keysC]
  | [], _ :: _ => by simp [keysC] <;> omega
  | _ :: _, [] => by simp [keysC] <;> omega
  | x :: xs, y :: ys => by
    simp only [keysC]
    split
    · rename_i h
      rw [keysC_zero, textsC_zero.1 h]
      simp
    · rename_i h
      constructor
      · intro e; exact absurd e h
      · intro e
        obtain ⟨rfl, rfl⟩ := List.cons.inj e
        exact absurd (textsC_zero.2 rfl) h

theorem cmpL_zero : ∀ {a b : List V} (_ : ∀ i (hi : i < a.length), ∀ y ∈ b, (cmpV a[i] y = 0 ↔ a[i] = y)), cmpL a b = 0 ↔ a = b
  | [], [], _ => by simp [cmpL]
  | [], _ :: _, _ => by simp [cmpL] <;> omega
  | _ :: _, [], _ => by simp [cmpL] <;> omega
  | x :: xs, y :: ys, h => by
    have h0 : cmpV x y = 0 ↔ x = y := h 0 (by simp) y (by simp)
    have ih := cmpL_zero (a := xs) (b := ys) (fun i hi y' hy => h (i + 1) (by simpa using hi) y' (by simp [hy]))
    simp only [cmpL]
    split
    · rename_i e
      rw [ih, h0.1 e]
      simp
    · rename_i e
      constructor
      · intro e'; exact absurd e' e
      · intro e'
        obtain ⟨rfl, rfl⟩ := List.cons.inj e'
        exact absurd (h0.2 rfl) e

theorem shape_plain {k h : Int} {t : ByteArray} {l : List V} {ks : List ByteArray} {vs : List V} (g : shapeB k h t l.length ks.length vs.length = true) :
    0 ≤ k ∧ k ≤ 6 ∧ (k ≠ 3 → h = 0) ∧ (k ≠ 4 → t = ⟨#[]⟩) ∧ (k ≠ 5 → l = []) ∧ (k ≠ 6 → ks = []) ∧ (k ≠ 6 → vs = []) ∧ ks.length = vs.length := by
  simp only [shapeB, Bool.and_eq_true, decide_eq_true_eq, Bool.or_eq_true, beq_iff_eq] at g
  obtain ⟨⟨⟨⟨⟨⟨hk0, hk6⟩, s1⟩, s2⟩, s3⟩, s4⟩, hlen⟩ := g
  refine ⟨hk0, hk6, fun n => s1.resolve_left n, fun n => ?_, fun n => List.length_eq_zero_iff.1 (s3.resolve_left n), fun n => List.length_eq_zero_iff.1 (s4.resolve_left n), fun n => List.length_eq_zero_iff.1 (by have := s4.resolve_left n; omega), hlen⟩
  have e := s2.resolve_left n
  exact toList_inj (e.trans (by rw [Lib.toList_data]))

theorem half_bounds {h : Int} (g : halfB h = true) : -18014398509481984 ≤ h ∧ h ≤ 18014398509481984 ∧ (h.tmod 2 ≠ 0 → -9007199254740992 < h ∧ h < 9007199254740992) := by
  simp only [halfB, Bool.and_eq_true, decide_eq_true_eq, Bool.or_eq_true, beq_iff_eq] at g
  exact ⟨g.1.1, g.1.2, fun n => g.2.resolve_left n⟩

theorem wrap_sub_zero {a b : Int} (ha : -18014398509481984 ≤ a ∧ a ≤ 18014398509481984) (hb : -18014398509481984 ≤ b ∧ b ≤ 18014398509481984) : wrap64 (a - b) = a - b := by
  unfold wrap64; omega

theorem Good.all {k h : Int} {t : ByteArray} {l : List V} {ks : List ByteArray} {vs : List V} (g : Good (.mk k h t l ks vs)) :
    shapeB k h t l.length ks.length vs.length = true ∧ halfB h = true ∧ Lib.validD t.data.toList = true ∧ (∀ i (hi : i < l.length), Good l[i]) ∧
    (∀ i (hi : i + 1 < ks.length), Op.bytesLess ks[i].toList ks[i + 1].toList = true) ∧ (∀ i (hi : i < ks.length), Lib.validD ks[i].data.toList = true) ∧ (∀ i (hi : i < vs.length), Good vs[i]) := by
  cases g with
  | mk a b c d e f g => exact ⟨a, b, c, d, e, f, g⟩

theorem cmpV_zero {a : V} (ga : Good a) : ∀ {b : V}, Good b → (cmpV a b = 0 ↔ a = b) := by
  induction ga with
  | @mk k h t l ks vs shape half valid list rise vkeys vals ihl ihv =>
  intro b gb
  obtain ⟨k', h', t', l', ks', vs'⟩ := b
  obtain ⟨shape', half', _, list', _, _, vals'⟩ := gb.all
  obtain ⟨p1, p2, p3, p4, p5, p6, p7, p8⟩ := shape_plain shape
  obtain ⟨q1, q2, q3, q4, q5, q6, q7, q8⟩ := shape_plain shape'
  obtain ⟨r1, r2, _⟩ := half_bounds half
  obtain ⟨r3, r4, _⟩ := half_bounds half'
  have hl := cmpL_zero (a := l) (b := l') (fun i hi y hy => by
    obtain ⟨j, hj, rfl⟩ := List.mem_iff_getElem.1 hy
    exact ihl i hi (list' j hj))
  have hv := cmpL_zero (a := vs) (b := vs') (fun i hi y hy => by
    obtain ⟨j, hj, rfl⟩ := List.mem_iff_getElem.1 hy
    exact ihv i hi (vals' j hj))
  simp only [cmpV]
  by_cases ek : k = k'
  · subst ek
    simp only [ne_eq, not_true_eq_false, if_false]
    by_cases k3 : k = 3
    · subst k3
      rw [if_pos rfl, signI_zero, wrap_sub_zero ⟨r1, r2⟩ ⟨r3, r4⟩, p4 (by decide), p5 (by decide), p6 (by decide), p7 (by decide), q4 (by decide), q5 (by decide), q6 (by decide), q7 (by decide)]
      simp
      omega
    · rw [if_neg k3, p3 k3, q3 k3]
      by_cases k4 : k = 4
      · subst k4
        rw [if_pos rfl, textsC_zero, p5 (by decide), p6 (by decide), p7 (by decide), q5 (by decide), q6 (by decide), q7 (by decide)]
        simp
      · rw [if_neg k4, p4 k4, q4 k4]
        by_cases k5 : k = 5
        · subst k5
          rw [if_pos rfl, signI_zero, hl, p6 (by decide), p7 (by decide), q6 (by decide), q7 (by decide)]
          simp
        · rw [if_neg k5, p5 k5, q5 k5]
          by_cases k6 : k = 6
          · rw [if_pos k6]
            by_cases e : keysC ks ks' = 0
            · rw [if_pos e, signI_zero, hv, keysC_zero.1 e]
              simp
            · rw [if_neg e, signI_zero]
              constructor
              · intro e'; exact absurd e' e
              · intro e'
                simp at e'
                exact absurd (keysC_zero.2 e'.1) e
          · rw [if_neg k6, p6 k6, p7 k6, q6 k6, q7 k6]
            simp
  · rw [if_pos ek, signI_zero, wrap_sub_zero (by omega) (by omega)]
    constructor
    · intro e; omega
    · intro e; simp at e; exact absurd e.1 ek

end Go.Proofs.YtmcahfcihhddjaaGreatDoor
