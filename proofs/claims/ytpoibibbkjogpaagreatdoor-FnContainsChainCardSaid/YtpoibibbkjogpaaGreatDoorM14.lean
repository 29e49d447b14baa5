/- Contracts of gojq.clampIndex, toInt, toIntCeil, index, slice, funcSlice, funcIndex2. -/
import Derived.Test.YtpoibibbkjogpaaGreatDoorM01
import Derived.Test.YtpoibibbkjogpaaGreatDoorM07
import Derived.Test.YtpoibibbkjogpaaGreatDoorM03
import Derived.Test.YtpoibibbkjogpaaGreatDoorM13
import Derived.Test.YtpoibibbkjogpaaGreatDoorM09
import Derived.WalkLawsBesides
namespace Go.Proofs.YtpoibibbkjogpaaGreatDoor
open Go Go.RowKit Go.Maps Go.Deep
attribute [local go_sem] assert_jsonNumber assert_jsonNumber_nil assert_int assert_int_nil assert_float64 assert_float64_nil assert_pbigInt assert_pbigInt_nil assert_string assert_string_nil assert_sl assert_sl_nil assert_m assert_m_nil assert_bool assert_bool_nil

def clampI (i lo hi : Int) : Int := let j := if i < 0 then i + hi else i; if j < lo then lo else if j < hi then j else hi

theorem clamp_any (i lo hi : Int) (h1 : -9223372036854775808 ≤ i ∧ i ≤ 9223372036854775807) (h2 : 0 ≤ hi ∧ hi ≤ 140737488355328) (w : World) :
    Calls Tryz.prog 109 #[.int .i64 i, .int .i64 lo, .int .i64 hi] w fun e w' => e = .returned (.int .i64 (clampI i lo hi)) ∧ w' = w := by
  by_cases c : i < 0
  · have hw : wrap64 (i + hi) = i + hi := by unfold wrap64; omega
    have e : clampI i lo hi = if i + hi < lo then lo else if i + hi < hi then i + hi else hi := by unfold clampI; simp only; rw [if_pos c]
    rw [e]
    clear e
    by_cases c1 : i + hi < lo
    · rw [if_pos c1]
      go_enter Tryz.func109, Tryz.ntmps109
      go_wp2_with fail
      go_ret
      exact ⟨rfl, rfl⟩
    · rw [if_neg c1]
      by_cases c2 : i + hi < hi
      · rw [if_pos c2]
        go_enter Tryz.func109, Tryz.ntmps109
        go_wp2_with fail
        go_ret
        exact ⟨rfl, rfl⟩
      · rw [if_neg c2]
        go_enter Tryz.func109, Tryz.ntmps109
        go_wp2_with fail
        go_ret
        exact ⟨rfl, rfl⟩
  · have e : clampI i lo hi = if i < lo then lo else if i < hi then i else hi := by unfold clampI; simp only; rw [if_neg c]
    rw [e]
    clear e
    by_cases c1 : i < lo
    · rw [if_pos c1]
      go_enter Tryz.func109, Tryz.ntmps109
      go_wp2_with fail
      go_ret
      exact ⟨rfl, rfl⟩
    · rw [if_neg c1]
      by_cases c2 : i < hi
      · rw [if_pos c2]
        go_enter Tryz.func109, Tryz.ntmps109
        go_wp2_with fail
        go_ret
        exact ⟨rfl, rfl⟩
      · rw [if_neg c2]
        go_enter Tryz.func109, Tryz.ntmps109
        go_wp2_with fail
        go_ret
        exact ⟨rfl, rfl⟩

def IntB (w : World) (b : Bool) (n : Int) (e : Ending) (w' : World) : Prop := e = .returned (.tuple #[.int .i64 n, .bool b]) ∧ Below w.heap.size w w'
def SomeIntB (w : World) (e : Ending) (w' : World) : Prop := ∃ n : Int, e = .returned (.tuple #[.int .i64 n, .bool true]) ∧ -9223372036854775808 ≤ n ∧ n ≤ 9223372036854775807 ∧ Below w.heap.size w w'

theorem toInt_int (n : Int) (w : World) : Calls Tryz.prog 79 #[.iface 3 (.int .i64 n)] w (IntB w true n) := by
  go_enter Tryz.func79, Tryz.ntmps79
  go_wp2_with fail
  go_ret2
  exact ⟨rfl, Below.refl _ _⟩
theorem toInt_flt (x : Nat) (w : World) : Calls Tryz.prog 79 #[.iface 58 (.float .f64 x)] w (SomeIntB w) := by
  go_enter Tryz.func79, Tryz.ntmps79
  go_wp2_with fail
  refine (floatToInt_any x _).mono ?_
  rintro e w3 ⟨n, rfl, hn1, hn2, hb3⟩
  go_wp2_with fail
  go_ret2
  exact ⟨n, rfl, hn1, hn2, hb3⟩
/-- Neither a number nor json.Number. -/
def NoNum (x : Value) : Prop := ∃ t y, x = .iface t y ∧ t ≠ 119 ∧ t ≠ 3 ∧ t ≠ 58 ∧ t ≠ 87
theorem toInt_no {x : Value} (hx : NoNum x) (w : World) : Calls Tryz.prog 79 #[x] w (IntB w false 0) := by
  obtain ⟨t, y, rfl, n0, n1, n2, n3⟩ := hx
  go_enter Tryz.func79, Tryz.ntmps79
  go_wp2_with fail
  go_ret2
  exact ⟨rfl, Below.refl _ _⟩
theorem toIntCeil_int (n : Int) (w : World) : Calls Tryz.prog 124 #[.iface 3 (.int .i64 n)] w (IntB w true n) := by
  have H := Lib.hid fun w => toInt_int n w
  go_enter Tryz.func124, Tryz.ntmps124
  go_wp2_with fail
  refine (H.out _).mono ?_
  rintro e w3 ⟨rfl, hb⟩
  go_wp2_with fail
  go_ret2
  exact ⟨rfl, hb⟩
theorem toIntCeil_no {x : Value} (hx : NoNum x) (w : World) : Calls Tryz.prog 124 #[x] w (IntB w false 0) := by
  have H := Lib.hid fun w => toInt_no hx w
  obtain ⟨t, y, rfl, n0, n1, n2, n3⟩ := hx
  go_enter Tryz.func124, Tryz.ntmps124
  go_wp2_with fail
  refine (H.out _).mono ?_
  rintro e w3 ⟨rfl, hb⟩
  go_wp2_with fail
  go_ret2
  exact ⟨rfl, hb⟩

/-- Where an index falls. -/
def nthI (i : Int) (n : Nat) : Option Nat := let m := if i < 0 then i + n else i; if 0 ≤ m ∧ m < n then some m.toNat else none

theorem nthI_some {i : Int} {n k : Nat} (h : nthI i n = some k) : (k : Int) = (if i < 0 then i + n else i) ∧ k < n := by
  unfold nthI at h
  simp only at h
  generalize (if i < 0 then i + (n : Int) else i) = m at *
  by_cases c : 0 ≤ m ∧ m < (n : Int)
  · rw [if_pos c] at h
    cases h
    omega
  · rw [if_neg c] at h
    cases h
theorem nthI_none {i : Int} {n : Nat} (h : nthI i n = none) : (if i < 0 then i + (n : Int) else i) < 0 ∨ (n : Int) ≤ (if i < 0 then i + (n : Int) else i) := by
  unfold nthI at h
  simp only at h
  generalize (if i < 0 then i + (n : Int) else i) = m at *
  by_cases c : 0 ≤ m ∧ m < (n : Int)
  · rw [if_pos c] at h
    cases h
  · omega

/-- What stands at an index. -/
def atO (f : Nat → Value) : Option Nat → Value
  | some k => f k
  | none => .nilIface

theorem gindex_any (w : World) (a : Option Addr) (n c : Nat) (f : Nat → Value) (hn : n ≤ 140737488355328) (cf : 0 < n → ∃ b o, a = some ⟨b, o, none⟩ ∧ ∀ i, i < n → w.cell? ⟨b, o + i, none⟩ = some (f i)) (of1 : ∀ i, i < n → f i = .nilIface ∨ ∃ t y, f i = .iface t y)
    (i : Int) (h1 : -9223372036854775808 ≤ i ∧ i ≤ 9223372036854775807) :
    Calls Tryz.prog 80 #[.slice a n c, .int .i64 i] w fun e w' => e = .returned (atO f (nthI i n)) ∧ w' = w := by
  have K := Lib.hid (clamp_any i (-1) n h1 (by omega))
  cases hk : nthI i n with
  | some k =>
    have hc : clampI i (-1) n = (k : Int) ∧ k < n := by
      obtain ⟨e, hk'⟩ := nthI_some hk
      unfold clampI
      simp only
      rw [← e, if_neg (by omega), if_pos (by omega)]
      exact ⟨rfl, hk'⟩
    obtain ⟨b, o, rfl, hcell⟩ := cf (by omega)
    have y1 := hcell k hc.2
    have u1 : (k : Int) < (n : Int) := by omega
    have u2 : (0 : Int) ≤ (k : Int) := by omega
    rw [hc.1] at K
    show Calls _ _ _ _ fun e w' => e = .returned (f k) ∧ w' = w
    clear hcell cf hc hk h1
    rcases of1 k (by omega) with e | ⟨t, y, e⟩
    all_goals
      rw [e] at y1 ⊢
      clear e of1
      go_enter Tryz.func80, Tryz.ntmps80
      go_wp2_with fail
      refine (K.out _).mono ?_
      rintro e w3 ⟨rfl, rfl⟩
      go_wp2_with fail
      go_ret
      exact ⟨rfl, rfl⟩
  | none =>
    have hc : ∃ m : Int, clampI i (-1) n = m ∧ (m = -1 ∨ m = n) := by
      have e := nthI_none hk
      unfold clampI
      simp only
      generalize (if i < 0 then i + (n : Int) else i) = m at *
      by_cases c1 : m < -1
      · exact ⟨-1, if_pos c1, .inl rfl⟩
      · rw [if_neg c1]
        by_cases c2 : m < (n : Int)
        · rw [if_pos c2]
          exact ⟨m, rfl, by omega⟩
        · rw [if_neg c2]
          exact ⟨n, rfl, .inr rfl⟩
    obtain ⟨m, e, hm⟩ := hc
    rw [e] at K
    show Calls _ _ _ _ fun e w' => e = .returned .nilIface ∧ w' = w
    clear e hk h1 cf of1
    rcases hm with rfl | rfl
    all_goals
      go_enter Tryz.func80, Tryz.ntmps80
      go_wp2_with fail
      refine (K.out _).mono ?_
      rintro e w3 ⟨rfl, rfl⟩
      go_wp2_with fail
      go_ret
      exact ⟨rfl, rfl⟩

/-- A part of a row is a row. -/
theorem RepJ.part {w : World} {S : Nat → Prop} {l : List J} {a : Option Addr} {n c : Nat} (h : RepJ w S (.arr l) (.iface 59 (.slice a n c))) (i j : Nat) (hij : i ≤ j) (hj : j ≤ l.length) (a' : Option Addr) (c' : Nat) (hc' : j - i ≤ c') (hcc : c' ≤ c)
    (ha : ∀ b o, a = some ⟨b, o, none⟩ → a' = some ⟨b, o + i, none⟩) (hnn : a' ≠ none) : RepJ w S (.arr ((l.drop i).take (j - i))) (.iface 59 (.slice a' (j - i) c')) := by
  cases h with
  | arr f b o N F hl hc ca own sub dis ra hcb =>
    have hlen : ((l.drop i).take (j - i)).length = j - i := by simp; omega
    have hq : ∀ q (hq : q < ((l.drop i).take (j - i)).length), ((l.drop i).take (j - i))[q] = l[i + q]'(by omega) := fun q hq => by simp
    have := RepJ.arr (w := w) (S := S) (l := (l.drop i).take (j - i)) (a := a') (c := c') f b (o + i) N (fun q => F (i + q)) (by omega) (by omega)
      (fun h0 => by
        obtain ⟨e1, e2, e3, e4⟩ := ca (by omega)
        exact ⟨ha b o e1, e2, e3, by omega⟩)
      (fun q hq => own (i + q) (by omega)) (fun q k hq hk => sub (i + q) k (by omega) hk) (fun q r k hqr hr => dis (i + q) (i + r) k (by omega) (by omega))
      (fun q hq' => by
        rw [hq q hq']
        have := ra (i + q) (by omega)
        rw [← Nat.add_assoc] at this
        exact this) (Nat.le_trans hcc hcb) hnn
    rw [hlen] at this
    exact this

end Go.Proofs.YtpoibibbkjogpaaGreatDoor
