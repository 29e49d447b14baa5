/- A float turned into an int, whatever it is. -/
/- Contracts of gojq.floatToInt, of the callbacks of gojq.funcOpMod. -/
/- The package's errors, as values. -/
/- Contracts of gojq.clampIndex, toInt, toIntCeil, index, slice, funcSlice, funcIndex2. -/
/- Small facts on worlds: blocks of twelve cells. No program in sight. -/
/- Contracts of gojq.slice, funcSlice. -/
/- Contract of gojq.funcIndex2, case by case. -/
/- utf8.ValidString, by the library's contract laid at this program; the two tables of package unicode/utf8 that it reads. -/
import Derived.Test.YtiphcojcdegnkaaGreatDoorM01
import Derived.Laws.FloatArith
import Derived.Deep.QuietTactic
import Derived.BigQuiet
import Derived.Test.YtiphcojcdegnkaaGreatDoorM02
import Derived.WalkLawsBesides
import Derived.Shelf.Unicode.ValidAny
import Derived.Ground.NamesProg
namespace Go.Proofs.YtiphcojcdegnkaaGreatDoor
open Go Go.RowKit

theorem conv_any (w : World) (b : Nat) : ∃ n : Int, ∃ w', (convert 64 3 (.float .f64 b)).run Tryz.prog w = .ok (.int .i64 n) w' ∧ -9223372036854775808 ≤ n ∧ n ≤ 9223372036854775807 ∧ Below w.heap.size w w' := by
  cases h : floatToIntVal .f64 b .i64 with
  | some n =>
    refine ⟨n, w, run_convert_float_int w _ _ _ _ _ _ (by rw [Tryz.underlying64]; rfl) Tryz.underlying3 h, ?_, ?_, Below.refl _ _⟩
    all_goals
      have := floatToIntVal_wf h
      simp [Lit.wf, IntKind.min, IntKind.max, IntKind.signed, IntKind.bits] at this
      omega
  | none =>
    have hw : ∀ x : Nat, -9223372036854775808 ≤ IntKind.i64.wrap (x : Int) ∧ IntKind.i64.wrap (x : Int) ≤ 9223372036854775807 := by
      intro x
      rw [IntKind.wrap_i64]
      omega
    unfold floatToIntVal at h
    cases he : (FloatKind.f64.decode b).toInt .zero with
    | none =>
      refine ⟨IntKind.i64.wrap (((Question.floatToInt .f64 b .i64).cut (w.tape w.drawn (.floatToInt .f64 b .i64)) : Nat) : Nat), w.drew, ?_, (hw _).1, (hw _).2, (Below.refl _ _).drew⟩
      simp [convert, run_underlying Tryz.underlying64, run_underlying Tryz.underlying3, Conv.floatToInt, he, Question.forced]
    | some n =>
      rw [he] at h
      simp only at h
      split at h
      · cases h
      · rename_i hc
        refine ⟨IntKind.i64.wrap (((Question.floatToInt .f64 b .i64).cut (w.tape w.drawn (.floatToInt .f64 b .i64)) : Nat) : Nat), w.drew, ?_, (hw _).1, (hw _).2, (Below.refl _ _).drew⟩
        simp [convert, run_underlying Tryz.underlying64, run_underlying Tryz.underlying3, Conv.floatToInt, he]
        rw [if_neg (show ¬ (IntKind.i64.min ≤ n ∧ n ≤ 9223372036854775807) from hc)]
        simp [Question.forced]

end Go.Proofs.YtiphcojcdegnkaaGreatDoor

namespace Go.Proofs.YtiphcojcdegnkaaGreatDoor
open Go Go.RowKit

theorem isNaN_any (b : Nat) (w : World) : Calls Tryz.prog 134 #[.float .f64 b] w fun e w' => e = .returned (.bool (FloatKind.f64.format.order b b != some .eq)) ∧ w' = w := by
  go_enter Tryz.func134, Tryz.ntmps134
  go_wp2_with fail
  go_ret
  exact ⟨rfl, rfl⟩

def SomeInt (w : World) (e : Ending) (w' : World) : Prop := ∃ n : Int, e = .returned (.int .i64 n) ∧ -9223372036854775808 ≤ n ∧ n ≤ 9223372036854775807 ∧ Below w.heap.size w w'

set_option maxRecDepth 100000 in
theorem floatToInt_any (b : Nat) (w : World) : Calls Tryz.prog 72 #[.float .f64 b] w (SomeInt w) := by
  obtain ⟨n, w', hc, hn1, hn2, hb⟩ := conv_any w b
  go_enter Tryz.func72, Tryz.ntmps72
  go_wp2_with fail
  all_goals go_ret
  all_goals exact ⟨_, rfl, by omega, by omega, by first | exact hb | exact Below.refl _ _⟩

end Go.Proofs.YtiphcojcdegnkaaGreatDoor

namespace Go.Proofs.YtiphcojcdegnkaaGreatDoor
open Go Go.RowKit

/-- A value that is one of the package's errors. -/
inductive ErrV : Value → Prop
  | func1TypeError (a : Addr) : ErrV (.iface 93 (.pointer (some a)))
  | func1WrapError (a : Addr) : ErrV (.iface 96 (.pointer (some a)))
  | func0TypeError (a : Addr) : ErrV (.iface 220 (.pointer (some a)))
  | func2WrapError (a : Addr) : ErrV (.iface 138 (.pointer (some a)))
  | expectedObjectError (a : Addr) : ErrV (.iface 113 (.pointer (some a)))
  | expectedArrayError (a : Addr) : ErrV (.iface 121 (.pointer (some a)))
  | arrayIndexNotNumberError (a : Addr) : ErrV (.iface 127 (.pointer (some a)))
  | objectKeyNotStringError (a : Addr) : ErrV (.iface 131 (.pointer (some a)))
  | expectedStartEndError (a : Addr) : ErrV (.iface 124 (.pointer (some a)))
  | stringIndexNotNumberError (a : Addr) : ErrV (.iface 129 (.pointer (some a)))
  | arrayIndexNegativeError (a : Addr) : ErrV (.iface 195 (.pointer (some a)))
  | arrayIndexTooLargeError (a : Addr) : ErrV (.iface 198 (.pointer (some a)))

theorem ErrV.form {v : Value} (h : ErrV v) : ∃ t a, v = .iface t (.pointer (some a)) := by
  cases h <;> exact ⟨_, _, rfl⟩

/-- An error, in new memory alone. -/
def RetErr (w : World) : Ending → World → Prop := Ret fun v w' => ErrV v ∧ Below w.heap.size w w'

end Go.Proofs.YtiphcojcdegnkaaGreatDoor

namespace Go.Proofs.YtiphcojcdegnkaaGreatDoor
open Go Go.RowKit Go.Maps Go.Deep
attribute [local go_sem] assert_jsonNumber assert_jsonNumber_nil assert_int assert_int_nil assert_float64 assert_float64_nil assert_pbigInt assert_pbigInt_nil assert_string assert_string_nil assert_sl assert_sl_nil assert_m assert_m_nil assert_bool assert_bool_nil

def clampI (i lo hi : Int) : Int := let j := if i < 0 then i + hi else i; if j < lo then lo else if j < hi then j else hi

theorem clamp_any (i lo hi : Int) (h1 : -9223372036854775808 ≤ i ∧ i ≤ 9223372036854775807) (h2 : 0 ≤ hi ∧ hi ≤ 140737488355328) (w : World) :
    Calls Tryz.prog 77 #[.int .i64 i, .int .i64 lo, .int .i64 hi] w fun e w' => e = .returned (.int .i64 (clampI i lo hi)) ∧ w' = w := by
  by_cases c : i < 0
  · have hw : wrap64 (i + hi) = i + hi := by unfold wrap64; omega
    have e : clampI i lo hi = if i + hi < lo then lo else if i + hi < hi then i + hi else hi := by unfold clampI; simp only; rw [if_pos c]
    rw [e]
    clear e
    by_cases c1 : i + hi < lo
    · rw [if_pos c1]
      go_enter Tryz.func77, Tryz.ntmps77
      go_wp2_with fail
      go_ret
      exact ⟨rfl, rfl⟩
    · rw [if_neg c1]
      by_cases c2 : i + hi < hi
      · rw [if_pos c2]
        go_enter Tryz.func77, Tryz.ntmps77
        go_wp2_with fail
        go_ret
        exact ⟨rfl, rfl⟩
      · rw [if_neg c2]
        go_enter Tryz.func77, Tryz.ntmps77
        go_wp2_with fail
        go_ret
        exact ⟨rfl, rfl⟩
  · have e : clampI i lo hi = if i < lo then lo else if i < hi then i else hi := by unfold clampI; simp only; rw [if_neg c]
    rw [e]
    clear e
    by_cases c1 : i < lo
    · rw [if_pos c1]
      go_enter Tryz.func77, Tryz.ntmps77
      go_wp2_with fail
      go_ret
      exact ⟨rfl, rfl⟩
    · rw [if_neg c1]
      by_cases c2 : i < hi
      · rw [if_pos c2]
        go_enter Tryz.func77, Tryz.ntmps77
        go_wp2_with fail
        go_ret
        exact ⟨rfl, rfl⟩
      · rw [if_neg c2]
        go_enter Tryz.func77, Tryz.ntmps77
        go_wp2_with fail
        go_ret
        exact ⟨rfl, rfl⟩

def IntB (w : World) (b : Bool) (n : Int) (e : Ending) (w' : World) : Prop := e = .returned (.tuple #[.int .i64 n, .bool b]) ∧ Below w.heap.size w w'
def SomeIntB (w : World) (e : Ending) (w' : World) : Prop := ∃ n : Int, e = .returned (.tuple #[.int .i64 n, .bool true]) ∧ -9223372036854775808 ≤ n ∧ n ≤ 9223372036854775807 ∧ Below w.heap.size w w'

theorem toInt_int (n : Int) (w : World) : Calls Tryz.prog 59 #[.iface 3 (.int .i64 n)] w (IntB w true n) := by
  go_enter Tryz.func59, Tryz.ntmps59
  go_wp2_with fail
  go_ret2
  exact ⟨rfl, Below.refl _ _⟩
theorem toInt_flt (x : Nat) (w : World) : Calls Tryz.prog 59 #[.iface 64 (.float .f64 x)] w (SomeIntB w) := by
  go_enter Tryz.func59, Tryz.ntmps59
  go_wp2_with fail
  refine (floatToInt_any x _).mono ?_
  rintro e w3 ⟨n, rfl, hn1, hn2, hb3⟩
  go_wp2_with fail
  go_ret2
  exact ⟨n, rfl, hn1, hn2, hb3⟩
/-- Neither a number nor json.Number. -/
def NoNum (x : Value) : Prop := ∃ t y, x = .iface t y ∧ t ≠ 117 ∧ t ≠ 3 ∧ t ≠ 64 ∧ t ≠ 116
theorem toInt_no {x : Value} (hx : NoNum x) (w : World) : Calls Tryz.prog 59 #[x] w (IntB w false 0) := by
  obtain ⟨t, y, rfl, n0, n1, n2, n3⟩ := hx
  go_enter Tryz.func59, Tryz.ntmps59
  go_wp2_with fail
  go_ret2
  exact ⟨rfl, Below.refl _ _⟩
theorem toIntCeil_int (n : Int) (w : World) : Calls Tryz.prog 110 #[.iface 3 (.int .i64 n)] w (IntB w true n) := by
  have H := Lib.hid fun w => toInt_int n w
  go_enter Tryz.func110, Tryz.ntmps110
  go_wp2_with fail
  refine (H.out _).mono ?_
  rintro e w3 ⟨rfl, hb⟩
  go_wp2_with fail
  go_ret2
  exact ⟨rfl, hb⟩
theorem toIntCeil_no {x : Value} (hx : NoNum x) (w : World) : Calls Tryz.prog 110 #[x] w (IntB w false 0) := by
  have H := Lib.hid fun w => toInt_no hx w
  obtain ⟨t, y, rfl, n0, n1, n2, n3⟩ := hx
  go_enter Tryz.func110, Tryz.ntmps110
  go_wp2_with fail
  refine (H.out _).mono ?_
  rintro e w3 ⟨rfl, hb⟩
  go_wp2_with fail
  go_ret2
  exact ⟨rfl, hb⟩

/-- Where an index falls. -/
def nthI (i : Int) (n : Nat) : Option Nat := let m := if i < 0 then i + n else i; if 0 ≤ m ∧ m < n then some m.toNat else none

theorem nthI_some {i : Int} {n k : Nat} (h : nthI i n = some k) : (k : Int) = (if i < 0 then i + n else i) ∧ k < n := by
  unfold nthI at h
  simp only at h
  generalize (if i < 0 then i + (n : Int) else i) = m at *
  by_cases c : 0 ≤ m ∧ m < (n : Int)
  · rw [if_pos c] at h
    cases h
    omega
  · rw [if_neg c] at h
    cases h
theorem nthI_none {i : Int} {n : Nat} (h : nthI i n = none) : (if i < 0 then i + (n : Int) else i) < 0 ∨ (n : Int) ≤ (if i < 0 then i + (n : Int) else i) := by
  unfold nthI at h
  simp only at h
  generalize (if i < 0 then i + (n : Int) else i) = m at *
  by_cases c : 0 ≤ m ∧ m < (n : Int)
  · rw [if_pos c] at h
    cases h
  · omega

/-- What stands at an index. -/
def atO (f : Nat → Value) : Option Nat → Value
  | some k => f k
  | none => .nilIface

theorem gindex_any (w : World) (a : Option Addr) (n c : Nat) (f : Nat → Value) (hn : n ≤ 140737488355328) (cf : 0 < n → ∃ b o, a = some ⟨b, o, none⟩ ∧ ∀ i, i < n → w.cell? ⟨b, o + i, none⟩ = some (f i)) (of1 : ∀ i, i < n → f i = .nilIface ∨ ∃ t y, f i = .iface t y)
    (i : Int) (h1 : -9223372036854775808 ≤ i ∧ i ≤ 9223372036854775807) :
    Calls Tryz.prog 60 #[.slice a n c, .int .i64 i] w fun e w' => e = .returned (atO f (nthI i n)) ∧ w' = w := by
  have K := Lib.hid (clamp_any i (-1) n h1 (by omega))
  cases hk : nthI i n with
  | some k =>
    have hc : clampI i (-1) n = (k : Int) ∧ k < n := by
      obtain ⟨e, hk'⟩ := nthI_some hk
      unfold clampI
      simp only
      rw [← e, if_neg (by omega), if_pos (by omega)]
      exact ⟨rfl, hk'⟩
    obtain ⟨b, o, rfl, hcell⟩ := cf (by omega)
    have y1 := hcell k hc.2
    have u1 : (k : Int) < (n : Int) := by omega
    have u2 : (0 : Int) ≤ (k : Int) := by omega
    rw [hc.1] at K
    show Calls _ _ _ _ fun e w' => e = .returned (f k) ∧ w' = w
    clear hcell cf hc hk h1
    rcases of1 k (by omega) with e | ⟨t, y, e⟩
    all_goals
      rw [e] at y1 ⊢
      clear e of1
      go_enter Tryz.func60, Tryz.ntmps60
      go_wp2_with fail
      refine (K.out _).mono ?_
      rintro e w3 ⟨rfl, rfl⟩
      go_wp2_with fail
      go_ret
      exact ⟨rfl, rfl⟩
  | none =>
    have hc : ∃ m : Int, clampI i (-1) n = m ∧ (m = -1 ∨ m = n) := by
      have e := nthI_none hk
      unfold clampI
      simp only
      generalize (if i < 0 then i + (n : Int) else i) = m at *
      by_cases c1 : m < -1
      · exact ⟨-1, if_pos c1, .inl rfl⟩
      · rw [if_neg c1]
        by_cases c2 : m < (n : Int)
        · rw [if_pos c2]
          exact ⟨m, rfl, by omega⟩
        · rw [if_neg c2]
          exact ⟨n, rfl, .inr rfl⟩
    obtain ⟨m, e, hm⟩ := hc
    rw [e] at K
    show Calls _ _ _ _ fun e w' => e = .returned .nilIface ∧ w' = w
    clear e hk h1 cf of1
    rcases hm with rfl | rfl
    all_goals
      go_enter Tryz.func60, Tryz.ntmps60
      go_wp2_with fail
      refine (K.out _).mono ?_
      rintro e w3 ⟨rfl, rfl⟩
      go_wp2_with fail
      go_ret
      exact ⟨rfl, rfl⟩

/-- A part of a row is a row. -/
theorem RepJ.part {w : World} {S : Nat → Prop} {l : List J} {a : Option Addr} {n c : Nat} (h : RepJ w S (.arr l) (.iface 65 (.slice a n c))) (i j : Nat) (hij : i ≤ j) (hj : j ≤ l.length) (a' : Option Addr) (c' : Nat) (hc' : j - i ≤ c') (hcc : c' ≤ c)
    (ha : ∀ b o, a = some ⟨b, o, none⟩ → a' = some ⟨b, o + i, none⟩) : RepJ w S (.arr ((l.drop i).take (j - i))) (.iface 65 (.slice a' (j - i) c')) := by
  cases h with
  | arr f b o N F hl hc ca own sub dis ra hcb =>
    have hlen : ((l.drop i).take (j - i)).length = j - i := by simp; omega
    have hq : ∀ q (hq : q < ((l.drop i).take (j - i)).length), ((l.drop i).take (j - i))[q] = l[i + q]'(by omega) := fun q hq => by simp
    have := RepJ.arr (w := w) (S := S) (l := (l.drop i).take (j - i)) (a := a') (c := c') f b (o + i) N (fun q => F (i + q)) (by omega) (by omega)
      (fun h0 => by
        obtain ⟨e1, e2, e3, e4⟩ := ca (by omega)
        exact ⟨ha b o e1, e2, e3, by omega⟩)
      (fun q hq => own (i + q) (by omega)) (fun q k hq hk => sub (i + q) k (by omega) hk) (fun q r k hqr hr => dis (i + q) (i + r) k (by omega) (by omega))
      (fun q hq' => by
        rw [hq q hq']
        have := ra (i + q) (by omega)
        rw [← Nat.add_assoc] at this
        exact this) (Nat.le_trans hcc hcb)
    rw [hlen] at this
    exact this

end Go.Proofs.YtiphcojcdegnkaaGreatDoor

namespace Go.Proofs.YtiphcojcdegnkaaGreatDoor
open Go Go.RowKit Go.Deep

theorem of_block12 {w : World} {b : Nat} {c0 c1 c2 c3 c4 c5 c6 c7 c8 c9 c10 c11 : Value} {t : TypeId} (h : w.heap[b]? = some (.cells #[c0, c1, c2, c3, c4, c5, c6, c7, c8, c9, c10, c11] t)) :
    w.cell? ⟨b, 0, none⟩ = some c0 ∧ w.cell? ⟨b, 1, none⟩ = some c1 ∧ w.cell? ⟨b, 2, none⟩ = some c2 ∧ w.cell? ⟨b, 3, none⟩ = some c3 ∧ w.cell? ⟨b, 4, none⟩ = some c4 ∧ w.cell? ⟨b, 5, none⟩ = some c5 ∧ w.cell? ⟨b, 6, none⟩ = some c6 ∧ w.cell? ⟨b, 7, none⟩ = some c7 ∧ w.cell? ⟨b, 8, none⟩ = some c8 ∧ w.cell? ⟨b, 9, none⟩ = some c9 ∧ w.cell? ⟨b, 10, none⟩ = some c10 ∧ w.cell? ⟨b, 11, none⟩ = some c11 := by
  simp [World.cell?, h]
theorem free_block12 {w : World} {b : Nat} {c0 c1 c2 c3 c4 c5 c6 c7 c8 c9 c10 c11 : Value} {t : TypeId} (h : w.heap[b]? = some (.cells #[c0, c1, c2, c3, c4, c5, c6, c7, c8, c9, c10, c11] t)) :
    w.frozen? ⟨b, 0, none⟩ = false ∧ w.frozen? ⟨b, 1, none⟩ = false ∧ w.frozen? ⟨b, 2, none⟩ = false ∧ w.frozen? ⟨b, 3, none⟩ = false ∧ w.frozen? ⟨b, 4, none⟩ = false ∧ w.frozen? ⟨b, 5, none⟩ = false ∧ w.frozen? ⟨b, 6, none⟩ = false ∧ w.frozen? ⟨b, 7, none⟩ = false ∧ w.frozen? ⟨b, 8, none⟩ = false ∧ w.frozen? ⟨b, 9, none⟩ = false ∧ w.frozen? ⟨b, 10, none⟩ = false ∧ w.frozen? ⟨b, 11, none⟩ = false := by
  simp [World.frozen?, h]
theorem set_row12 {w : World} {b : Nat} {c0 c1 c2 c3 c4 c5 c6 c7 c8 c9 c10 c11 : Value} {t : TypeId} (h : w.heap[b]? = some (.cells #[c0, c1, c2, c3, c4, c5, c6, c7, c8, c9, c10, c11] t)) (v0 v1 v2 v3 v4 v5 v6 v7 v8 v9 v10 v11 : Value) :
    ((((((((((((w.setCell ⟨b, 0, none⟩ v0).setCell ⟨b, 1, none⟩ v1).setCell ⟨b, 2, none⟩ v2).setCell ⟨b, 3, none⟩ v3).setCell ⟨b, 4, none⟩ v4).setCell ⟨b, 5, none⟩ v5).setCell ⟨b, 6, none⟩ v6).setCell ⟨b, 7, none⟩ v7).setCell ⟨b, 8, none⟩ v8).setCell ⟨b, 9, none⟩ v9).setCell ⟨b, 10, none⟩ v10).setCell ⟨b, 11, none⟩ v11).heap[b]? = some (.cells #[v0, v1, v2, v3, v4, v5, v6, v7, v8, v9, v10, v11] t) := by
  have h0 := heap_setCell_same _ b 0 _ t v0 h
  have h1 := heap_setCell_same _ b 1 _ t v1 h0
  have h2 := heap_setCell_same _ b 2 _ t v2 h1
  have h3 := heap_setCell_same _ b 3 _ t v3 h2
  have h4 := heap_setCell_same _ b 4 _ t v4 h3
  have h5 := heap_setCell_same _ b 5 _ t v5 h4
  have h6 := heap_setCell_same _ b 6 _ t v6 h5
  have h7 := heap_setCell_same _ b 7 _ t v7 h6
  have h8 := heap_setCell_same _ b 8 _ t v8 h7
  have h9 := heap_setCell_same _ b 9 _ t v9 h8
  have h10 := heap_setCell_same _ b 10 _ t v10 h9
  have h11 := heap_setCell_same _ b 11 _ t v11 h10
  simpa using h11
theorem below_set12 {a w : World} {B b : Nat} (h : Below B a w) (hb : B ≤ b) (v0 v1 v2 v3 v4 v5 v6 v7 v8 v9 v10 v11 : Value) :
    Below B a ((((((((((((w.setCell ⟨b, 0, none⟩ v0).setCell ⟨b, 1, none⟩ v1).setCell ⟨b, 2, none⟩ v2).setCell ⟨b, 3, none⟩ v3).setCell ⟨b, 4, none⟩ v4).setCell ⟨b, 5, none⟩ v5).setCell ⟨b, 6, none⟩ v6).setCell ⟨b, 7, none⟩ v7).setCell ⟨b, 8, none⟩ v8).setCell ⟨b, 9, none⟩ v9).setCell ⟨b, 10, none⟩ v10).setCell ⟨b, 11, none⟩ v11) :=
  (((((((((((h.setCell hb _).setCell hb _).setCell hb _).setCell hb _).setCell hb _).setCell hb _).setCell hb _).setCell hb _).setCell hb _).setCell hb _).setCell hb _).setCell hb _
theorem free_block2 {w : World} {b : Nat} {c0 c1 : Value} {t : TypeId} (h : w.heap[b]? = some (.cells #[c0, c1] t)) :
    w.cell? ⟨b, 0, none⟩ = some c0 ∧ w.cell? ⟨b, 1, none⟩ = some c1 ∧ w.frozen? ⟨b, 0, none⟩ = false ∧ w.frozen? ⟨b, 1, none⟩ = false := by
  simp [World.cell?, World.frozen?, h]
theorem keep_alloc {a w : World} {B : Nat} (h : Below B a w) (hB : B ≤ w.heap.size) (o : Obj) : Below B a (w.alloc o) := h.alloc hB o

end Go.Proofs.YtiphcojcdegnkaaGreatDoor

namespace Go.Proofs.YtiphcojcdegnkaaGreatDoor
open Go Go.RowKit Go.Maps Go.Deep
attribute [local go_sem] assert_jsonNumber assert_jsonNumber_nil assert_int assert_int_nil assert_float64 assert_float64_nil assert_pbigInt assert_pbigInt_nil assert_string assert_string_nil assert_sl assert_sl_nil assert_m assert_m_nil assert_bool assert_bool_nil

/-- No bound, or an integer. -/
inductive BndV : Value → Option Int → Prop
  | none : BndV .nilIface none
  | some (x : Int) (h : -9223372036854775808 ≤ x ∧ x ≤ 9223372036854775807) : BndV (.iface 3 (.int .i64 x)) (some x)

def endI (x : Option Int) (lo n : Int) (d : Int) : Int := match x with | none => d | some x => clampI x lo n

/-- A slice cut. -/
def CutV (a : Option Addr) (p q c : Nat) (v : Value) : Prop := ∃ a' c', v = .iface 65 (.slice a' (q - p) c') ∧ q - p ≤ c' ∧ (p < q → ∀ b o, a = some ⟨b, o, none⟩ → a' = some ⟨b, o + p, none⟩) ∧ c' ≤ c
theorem cut_all {a : Option Addr} {q c : Nat} (h : q ≤ c) : CutV a 0 q c (.iface 65 (.slice a q c)) := ⟨a, c, by rw [Nat.sub_zero], by omega, fun _ b o e => by rw [e, Nat.add_zero], Nat.le_refl _⟩
theorem cut_none {a : Option Addr} {p c : Nat} : CutV a p p c (.iface 65 (.slice a 0 0)) := ⟨a, 0, by rw [Nat.sub_self], by omega, fun h => by omega, Nat.zero_le _⟩
theorem cut_some {a : Option Addr} {p q c : Nat} (h : q ≤ c) : CutV a p q c (.iface 65 (.slice (a.map fun x => x.add p) (q - p) (c - p))) :=
  ⟨_, _, rfl, by omega, (fun _ b o e => by subst e; simp only [Option.map_some]; unfold Addr.add; split <;> simp_all), by omega⟩

theorem clampI_in (x lo hi : Int) (h : lo ≤ hi) : lo ≤ clampI x lo hi ∧ clampI x lo hi ≤ hi := by
  unfold clampI
  simp only
  generalize (if x < 0 then x + hi else x) = m
  split <;> (try split) <;> omega

set_option maxHeartbeats 4000000 in
set_option maxRecDepth 100000 in
theorem slice_fine (a : Option Addr) (n c : Nat) (hnc : n ≤ c) (hn : n ≤ 140737488355328) (e s : Value) (xe xs : Option Int) (he : BndV e xe) (hs : BndV s xs) (p q : Nat) (hp : endI xs 0 n 0 = p) (hq : endI xe p n n = q) (w : World) :
    Calls Tryz.prog 79 #[.slice a n c, e, s] w fun e w' => ∃ v, e = .returned v ∧ CutV a p q c v ∧ Below w.heap.size w w' := by
  have hpn : p ≤ n := by
    cases xs with
    | none => simp only [endI] at hp; omega
    | some x => have := clampI_in x 0 n (by omega); simp only [endI] at hp; omega
  have hpq : p ≤ q ∧ q ≤ n := by
    cases xe with
    | none => simp only [endI] at hq; omega
    | some x => have := clampI_in x p n (by omega); simp only [endI] at hq; omega
  have q1 : (0 : Int) ≤ (p : Int) := by omega
  have q2 : (p : Int) ≤ (q : Int) := by omega
  have q3 : (q : Int) ≤ (c : Int) := by omega
  cases hs with
  | none =>
    cases he with
    | none =>
      obtain rfl : q = n := by simp only [endI] at hq; omega
      obtain rfl : p = 0 := by simp only [endI] at hp; omega
      have Hfin := Lib.hid (cut_all (a := a) (q := q) (c := c) hnc)
      clear hp hq
      go_enter Tryz.func79, Tryz.ntmps79
      go_wp2_with fail
      go_ret
      exact ⟨_, rfl, Hfin.out, Below.refl _ _⟩
    | some x hx =>
      obtain rfl : p = 0 := by simp only [endI] at hp; omega
      have CE := Lib.hid fun w => clamp_any x 0 n hx (by omega) w
      rw [show clampI x 0 (n : Int) = (q : Int) from hq] at CE
      have Hfin := Lib.hid (cut_all (a := a) (q := q) (c := c) (by omega))
      clear hp hq
      go_enter Tryz.func79, Tryz.ntmps79
      go_wp2_with fail
      refine (toIntCeil_int _ _).mono ?_
      rintro e w3 ⟨rfl, hw3⟩
      have hb3 : Below w.heap.size w w3 := hw3
      go_wp2_with fail
      refine (CE.out _).mono ?_
      rintro e w4 ⟨rfl, rfl⟩
      go_wp2_with fail
      go_ret
      exact ⟨_, rfl, Hfin.out, hb3⟩
  | some y hy =>
    cases he with
    | none =>
      obtain rfl : q = n := by simp only [endI] at hq; omega
      have CS := Lib.hid fun w => clamp_any y 0 q hy (by omega) w
      rw [show clampI y 0 (q : Int) = (p : Int) from hp] at CS
      clear hp hq
      by_cases p0 : p = 0
      · subst p0
        have Hfin := Lib.hid (cut_all (a := a) (q := q) (c := c) (by omega))
        go_enter Tryz.func79, Tryz.ntmps79
        go_wp2_with fail
        refine (toInt_int _ _).mono ?_
        rintro e w1 ⟨rfl, hw1⟩
        have hb1 : Below w.heap.size w w1 := hw1
        go_wp2_with fail
        refine (CS.out _).mono ?_
        rintro e w2 ⟨rfl, rfl⟩
        go_wp2_with fail
        go_ret
        exact ⟨_, rfl, Hfin.out, hb1⟩
      · by_cases pc : c = p
        · have hqp : q = p := by omega
          subst hqp
          have Hfin := Lib.hid (cut_none (a := a) (p := q) (c := c))
          go_enter Tryz.func79, Tryz.ntmps79
          go_wp2_with fail
          refine (toInt_int _ _).mono ?_
          rintro e w1 ⟨rfl, hw1⟩
          have hb1 : Below w.heap.size w w1 := hw1
          go_wp2_with fail
          refine (CS.out _).mono ?_
          rintro e w2 ⟨rfl, rfl⟩
          go_wp2_with fail
          go_ret
          exact ⟨_, rfl, Hfin.out, hb1⟩
        · skip
          have Hfin := Lib.hid (cut_some (a := a) (p := p) (q := q) (c := c) (by omega))
          go_enter Tryz.func79, Tryz.ntmps79
          go_wp2_with fail
          refine (toInt_int _ _).mono ?_
          rintro e w1 ⟨rfl, hw1⟩
          have hb1 : Below w.heap.size w w1 := hw1
          go_wp2_with fail
          refine (CS.out _).mono ?_
          rintro e w2 ⟨rfl, rfl⟩
          go_wp2_with fail
          go_ret
          exact ⟨_, rfl, Hfin.out, hb1⟩
    | some x hx =>
      have CS := Lib.hid fun w => clamp_any y 0 n hy (by omega) w
      rw [show clampI y 0 (n : Int) = (p : Int) from hp] at CS
      have CE := Lib.hid fun w => clamp_any x p n hx (by omega) w
      rw [show clampI x (p : Int) (n : Int) = (q : Int) from hq] at CE
      clear hp hq
      by_cases p0 : p = 0
      · subst p0
        have Hfin := Lib.hid (cut_all (a := a) (q := q) (c := c) (by omega))
        go_enter Tryz.func79, Tryz.ntmps79
        go_wp2_with fail
        refine (toInt_int _ _).mono ?_
        rintro e w1 ⟨rfl, hw1⟩
        have hb1 : Below w.heap.size w w1 := hw1
        go_wp2_with fail
        refine (CS.out _).mono ?_
        rintro e w2 ⟨rfl, rfl⟩
        go_wp2_with fail
        refine (toIntCeil_int _ _).mono ?_
        rintro e w3 ⟨rfl, hw3⟩
        have hb3 : Below w.heap.size w w3 := below_next hb1 hw3
        go_wp2_with fail
        refine (CE.out _).mono ?_
        rintro e w4 ⟨rfl, rfl⟩
        go_wp2_with fail
        go_ret
        exact ⟨_, rfl, Hfin.out, hb3⟩
      · by_cases pc : c = p
        · have hqp : q = p := by omega
          subst hqp
          have Hfin := Lib.hid (cut_none (a := a) (p := q) (c := c))
          go_enter Tryz.func79, Tryz.ntmps79
          go_wp2_with fail
          refine (toInt_int _ _).mono ?_
          rintro e w1 ⟨rfl, hw1⟩
          have hb1 : Below w.heap.size w w1 := hw1
          go_wp2_with fail
          refine (CS.out _).mono ?_
          rintro e w2 ⟨rfl, rfl⟩
          go_wp2_with fail
          refine (toIntCeil_int _ _).mono ?_
          rintro e w3 ⟨rfl, hw3⟩
          have hb3 : Below w.heap.size w w3 := below_next hb1 hw3
          go_wp2_with fail
          refine (CE.out _).mono ?_
          rintro e w4 ⟨rfl, rfl⟩
          go_wp2_with fail
          go_ret
          exact ⟨_, rfl, Hfin.out, hb3⟩
        · skip
          have Hfin := Lib.hid (cut_some (a := a) (p := p) (q := q) (c := c) (by omega))
          go_enter Tryz.func79, Tryz.ntmps79
          go_wp2_with fail
          refine (toInt_int _ _).mono ?_
          rintro e w1 ⟨rfl, hw1⟩
          have hb1 : Below w.heap.size w w1 := hw1
          go_wp2_with fail
          refine (CS.out _).mono ?_
          rintro e w2 ⟨rfl, rfl⟩
          go_wp2_with fail
          refine (toIntCeil_int _ _).mono ?_
          rintro e w3 ⟨rfl, hw3⟩
          have hb3 : Below w.heap.size w w3 := below_next hb1 hw3
          go_wp2_with fail
          refine (CE.out _).mono ?_
          rintro e w4 ⟨rfl, rfl⟩
          go_wp2_with fail
          go_ret
          exact ⟨_, rfl, Hfin.out, hb3⟩

/-- An error of the bounds. -/
theorem slice_bad_start (a : Option Addr) (n c : Nat) (e s : Value) (hs : NoNum s) (w : World) : Calls Tryz.prog 79 #[.slice a n c, e, s] w (RetErr w) := by
  have TI := Lib.hid fun w => toInt_no hs w
  obtain ⟨t, y, rfl, _⟩ := hs
  go_enter Tryz.func79, Tryz.ntmps79
  go_wp2_with fail
  refine (TI.out _).mono ?_
  rintro e w1 ⟨rfl, hw1⟩
  have hb1 : Below w.heap.size w w1 := hw1
  go_wp2_with fail
  go_ret
  exact ⟨_, rfl, .arrayIndexNotNumberError _, keep_alloc hb1 hb1.size _⟩
theorem slice_bad_end (a : Option Addr) (n c : Nat) (hn : n ≤ 140737488355328) (e s : Value) (xs : Option Int) (he : NoNum e) (hs : BndV s xs) (w : World) : Calls Tryz.prog 79 #[.slice a n c, e, s] w (RetErr w) := by
  have TI := Lib.hid fun w => toIntCeil_no he w
  obtain ⟨t, y, rfl, _⟩ := he
  cases hs with
  | none =>
    go_enter Tryz.func79, Tryz.ntmps79
    go_wp2_with fail
    refine (TI.out _).mono ?_
    rintro e w1 ⟨rfl, hw1⟩
    have hb1 : Below w.heap.size w w1 := hw1
    go_wp2_with fail
    go_ret
    exact ⟨_, rfl, .arrayIndexNotNumberError _, keep_alloc hb1 hb1.size _⟩
  | some x hx =>
    have CS := Lib.hid fun w => clamp_any x 0 n hx (by omega) w
    go_enter Tryz.func79, Tryz.ntmps79
    go_wp2_with fail
    refine (toInt_int _ _).mono ?_
    rintro e w0 ⟨rfl, hw0⟩
    go_wp2_with fail
    refine (CS.out _).mono ?_
    rintro e w5 ⟨rfl, rfl⟩
    go_wp2_with fail
    refine (TI.out _).mono ?_
    rintro e w1 ⟨rfl, hw1⟩
    have hb1 : Below w.heap.size w w1 := below_next hw0 hw1
    go_wp2_with fail
    go_ret
    exact ⟨_, rfl, .arrayIndexNotNumberError _, keep_alloc hb1 hb1.size _⟩

/-- funcSlice at an array is slice. -/
theorem funcSlice_any (a : Option Addr) (n c : Nat) (e s : Value) (fe : e = .nilIface ∨ ∃ t y, e = .iface t y) (fs : s = .nilIface ∨ ∃ t y, s = .iface t y) (w : World) (R : Value → World → Prop) (H : Calls Tryz.prog 79 #[.slice a n c, e, s] w (Ret R)) :
    Calls Tryz.prog 63 #[.nilIface, .iface 65 (.slice a n c), e, s] w (Ret R) := by
  have HH := Lib.hid H
  clear H
  rcases fe with rfl | ⟨te, ye, rfl⟩ <;> rcases fs with rfl | ⟨ts, ys, rfl⟩
  all_goals
    go_enter Tryz.func63, Tryz.ntmps63
    go_wp2_with fail
    refine HH.out.mono ?_
    rintro e w1 ⟨v, rfl, hv⟩
    have Hv := Lib.hid hv
    clear hv
    go_wp2_with fail
    go_ret
    exact ⟨_, rfl, Hv.out⟩

end Go.Proofs.YtiphcojcdegnkaaGreatDoor

namespace Go.Proofs.YtiphcojcdegnkaaGreatDoor
open Go Go.RowKit Go.Maps Go.Deep
attribute [local go_sem] assert_jsonNumber assert_jsonNumber_nil assert_int assert_int_nil assert_float64 assert_float64_nil assert_pbigInt assert_pbigInt_nil assert_string assert_string_nil assert_sl assert_sl_nil assert_m assert_m_nil assert_bool assert_bool_nil

def RetNil (w : World) : Ending → World → Prop := Ret fun v w' => v = .nilIface ∧ Below w.heap.size w w'

set_option maxRecDepth 100000 in
theorem i2_nil_str (s : ByteArray) (w : World) : Calls Tryz.prog 49 #[.nilIface, .nilIface, .iface 9 (.string s)] w (RetNil w) := by
  go_enter Tryz.func49, Tryz.ntmps49
  go_wp2_with fail
  go_ret
  exact ⟨_, rfl, rfl, Below.refl _ _⟩
set_option maxRecDepth 100000 in
theorem i2_nil_int (n : Int) (w : World) : Calls Tryz.prog 49 #[.nilIface, .nilIface, .iface 3 (.int .i64 n)] w (RetNil w) := by
  go_enter Tryz.func49, Tryz.ntmps49
  go_wp2_with fail
  refine (toInt_int _ _).mono ?_
  rintro e w1 ⟨rfl, hw1⟩
  go_wp2_with fail
  go_ret
  exact ⟨_, rfl, rfl, hw1⟩
set_option maxRecDepth 100000 in
theorem i2_nil_flt (x : Nat) (w : World) : Calls Tryz.prog 49 #[.nilIface, .nilIface, .iface 64 (.float .f64 x)] w (RetNil w) := by
  go_enter Tryz.func49, Tryz.ntmps49
  go_wp2_with fail
  refine (toInt_flt _ _).mono ?_
  rintro e w1 ⟨n, rfl, h1, h2, hw1⟩
  clear h1 h2
  go_wp2_with fail
  go_ret
  exact ⟨_, rfl, rfl, hw1⟩
set_option maxRecDepth 100000 in
theorem i2_nil_map (r : Option Nat) (w : World) : Calls Tryz.prog 49 #[.nilIface, .nilIface, .iface 68 (.map r)] w (RetNil w) := by
  go_enter Tryz.func49, Tryz.ntmps49
  go_wp2_with fail
  go_ret
  exact ⟨_, rfl, rfl, Below.refl _ _⟩

set_option maxRecDepth 100000 in
theorem i2_map_str (r : Nat) (s : ByteArray) (w : World) (z : Value) (fz : z = .nilIface ∨ ∃ t y, z = .iface t y) (hl : (Instr.lookup 68 (.map (some r)) (.string s) false).run Tryz.prog w = .ok z w) :
    Calls Tryz.prog 49 #[.nilIface, .iface 68 (.map (some r)), .iface 9 (.string s)] w (Ret fun v w' => v = z ∧ w' = w) := by
  rcases fz with rfl | ⟨tz, yz, rfl⟩
  all_goals
    go_enter Tryz.func49, Tryz.ntmps49
    go_wp2_with fail
    go_ret
    exact ⟨_, rfl, rfl, rfl⟩

set_option maxRecDepth 100000 in
theorem i2_arr_int (a : Option Addr) (n c : Nat) (i : Int) (w : World) (z : Value) (fz : z = .nilIface ∨ ∃ t y, z = .iface t y) (H : ∀ w1, Below w.heap.size w w1 → Calls Tryz.prog 60 #[.slice a n c, .int .i64 i] w1 fun e w' => e = .returned z ∧ w' = w1) :
    Calls Tryz.prog 49 #[.nilIface, .iface 65 (.slice a n c), .iface 3 (.int .i64 i)] w (Ret fun v w' => v = z ∧ Below w.heap.size w w') := by
  have HH := Lib.hid H; clear H
  rcases fz with rfl | ⟨tz, yz, rfl⟩
  all_goals
    go_enter Tryz.func49, Tryz.ntmps49
    go_wp2_with fail
    refine (toInt_int _ _).mono ?_
    rintro e w1 ⟨rfl, hw1⟩
    have hb : Below w.heap.size w w1 := hw1
    go_wp2_with fail
    refine (HH.out w1 hb).mono ?_
    rintro e w2 ⟨rfl, rfl⟩
    go_wp2_with fail
    go_ret
    exact ⟨_, rfl, rfl, hb⟩

set_option maxRecDepth 100000 in
theorem i2_arr_map (a : Option Addr) (n c r : Nat) (w : World) (s e : Value) (fs : s = .nilIface ∨ ∃ t y, s = .iface t y) (fe : e = .nilIface ∨ ∃ t y, e = .iface t y) (hs : (Instr.lookup 68 (.map (some r)) (.string ⟨#[115, 116, 97, 114, 116]⟩) true).run Tryz.prog w = .ok (.tuple #[s, .bool true]) w)
    (he : (Instr.lookup 68 (.map (some r)) (.string ⟨#[101, 110, 100]⟩) true).run Tryz.prog w = .ok (.tuple #[e, .bool true]) w) (R : Value → World → Prop) (H : Calls Tryz.prog 63 #[.nilIface, .iface 65 (.slice a n c), e, s] w (Ret R)) :
    Calls Tryz.prog 49 #[.nilIface, .iface 65 (.slice a n c), .iface 68 (.map (some r))] w (Ret R) := by
  have HH := Lib.hid H; clear H
  rcases fe with rfl | ⟨te, ye, rfl⟩ <;> rcases fs with rfl | ⟨ts, ys, rfl⟩
  all_goals
    go_enter Tryz.func49, Tryz.ntmps49
    go_wp2_with fail
    refine HH.out.mono ?_
    rintro e w1 ⟨v, rfl, hv⟩
    have Hv := Lib.hid hv
    clear hv
    go_wp2_with fail
    go_ret
    exact ⟨_, rfl, Hv.out⟩

set_option maxRecDepth 100000 in
theorem i2_arr_str (y : Value) (s : ByteArray) (w : World) : Calls Tryz.prog 49 #[.nilIface, .iface 65 y, .iface 9 (.string s)] w (RetErr w) := by
  go_enter Tryz.func49, Tryz.ntmps49
  go_wp2_with fail
  go_ret
  exact ⟨_, rfl, .expectedObjectError _, below_alloc1 _ _⟩
set_option maxRecDepth 100000 in
theorem i2_arr_nil (y : Value) (w : World) : Calls Tryz.prog 49 #[.nilIface, .iface 65 y, .nilIface] w (RetErr w) := by
  go_enter Tryz.func49, Tryz.ntmps49
  go_wp2_with fail
  go_ret
  exact ⟨_, rfl, .arrayIndexNotNumberError _, below_alloc1 _ _⟩
set_option maxRecDepth 100000 in
theorem i2_arr_bool (y : Value) (b : Bool) (w : World) : Calls Tryz.prog 49 #[.nilIface, .iface 65 y, .iface 4 (.bool b)] w (RetErr w) := by
  go_enter Tryz.func49, Tryz.ntmps49
  go_wp2_with fail
  go_ret
  exact ⟨_, rfl, .arrayIndexNotNumberError _, below_alloc1 _ _⟩
set_option maxRecDepth 100000 in
theorem i2_map_nil (y : Value) (w : World) : Calls Tryz.prog 49 #[.nilIface, .iface 68 y, .nilIface] w (RetErr w) := by
  go_enter Tryz.func49, Tryz.ntmps49
  go_wp2_with fail
  go_ret
  exact ⟨_, rfl, .objectKeyNotStringError _, below_alloc1 _ _⟩
set_option maxRecDepth 100000 in
theorem i2_map_bool (y : Value) (b : Bool) (w : World) : Calls Tryz.prog 49 #[.nilIface, .iface 68 y, .iface 4 (.bool b)] w (RetErr w) := by
  go_enter Tryz.func49, Tryz.ntmps49
  go_wp2_with fail
  go_ret
  exact ⟨_, rfl, .objectKeyNotStringError _, below_alloc1 _ _⟩
set_option maxRecDepth 100000 in
theorem i2_map_int (y : Value) (n : Int) (w : World) : Calls Tryz.prog 49 #[.nilIface, .iface 68 y, .iface 3 (.int .i64 n)] w (RetErr w) := by
  go_enter Tryz.func49, Tryz.ntmps49
  go_wp2_with fail
  refine (toInt_int _ _).mono ?_
  rintro e w1 ⟨rfl, hw1⟩
  have hb : Below w.heap.size w w1 := hw1
  go_wp2_with fail
  go_ret
  exact ⟨_, rfl, .expectedArrayError _, keep_alloc hb hb.size _⟩
set_option maxRecDepth 100000 in
theorem i2_map_flt (y : Value) (n : Nat) (w : World) : Calls Tryz.prog 49 #[.nilIface, .iface 68 y, .iface 64 (.float .f64 n)] w (RetErr w) := by
  go_enter Tryz.func49, Tryz.ntmps49
  go_wp2_with fail
  refine (toInt_flt _ _).mono ?_
  rintro e w1 ⟨n, rfl, h1, h2, hw1⟩
  have hb : Below w.heap.size w w1 := hw1
  clear h1 h2
  go_wp2_with fail
  go_ret
  exact ⟨_, rfl, .expectedArrayError _, keep_alloc hb hb.size _⟩
set_option maxRecDepth 100000 in
theorem i2_map_arr (y z : Value) (w : World) (hz : ∃ a n c, z = .slice a n c) : Calls Tryz.prog 49 #[.nilIface, .iface 68 y, .iface 65 z] w (RetErr w) := by
  obtain ⟨a, n, c, rfl⟩ := hz
  go_enter Tryz.func49, Tryz.ntmps49
  go_wp2_with fail
  go_ret
  exact ⟨_, rfl, .expectedArrayError _, below_alloc1 _ _⟩

end Go.Proofs.YtiphcojcdegnkaaGreatDoor

namespace Go.Proofs.YtiphcojcdegnkaaGreatDoor
open Go Go.RowKit Go.Shelf

def valid_ren : Go.Shelf.Ren := ⟨fun | 196 => 54 | 259 => 66 | n => n, fun | 0 => 0 | 3 => 3 | 4 => 4 | 5 => 5 | 9 => 9 | 12 => 12 | 46 => 146 | 53 => 161 | 119 => 142 | 138 => 144 | 139 => 145 | n => n, fun | 3 => 0 | 4 => 1 | n => n⟩
theorem valid_lays : Go.Proofs.Lays.n196 Tryz.prog valid_ren := {
  mixed := by kernel_rfl
  f196 := Tryz.func54.trans (congrArg some (by kernel_rfl))
  f259 := Tryz.func66.trans (congrArg some (by kernel_rfl))
  t0 := Tryz.underlying0
  a0 := Tryz.isAgg0
  z0 := Tryz.sizeOf0
  v0 := Tryz.zeroValue0
  t3 := Tryz.underlying3
  a3 := Tryz.isAgg3
  z3 := Tryz.sizeOf3
  v3 := Tryz.zeroValue3
  t4 := Tryz.underlying4
  a4 := Tryz.isAgg4
  z4 := Tryz.sizeOf4
  v4 := Tryz.zeroValue4
  t5 := Tryz.underlying5
  a5 := Tryz.isAgg5
  z5 := Tryz.sizeOf5
  v5 := Tryz.zeroValue5
  t9 := Tryz.underlying9
  a9 := Tryz.isAgg9
  z9 := Tryz.sizeOf9
  v9 := Tryz.zeroValue9
  t12 := Tryz.underlying12
  a12 := Tryz.isAgg12
  z12 := Tryz.sizeOf12
  v12 := Tryz.zeroValue12
  t46 := Tryz.underlying146
  a46 := Tryz.isAgg146
  z46 := Tryz.sizeOf146
  v46 := Tryz.zeroValue146
  t53 := Tryz.underlying161
  a53 := Tryz.isAgg161
  z53 := Tryz.sizeOf161
  v53 := Tryz.zeroValue161
  t119 := Tryz.underlying142
  a119 := Tryz.isAgg142
  z119 := Tryz.sizeOf142
  t138 := Tryz.underlying144
  a138 := Tryz.isAgg144
  z138 := Tryz.sizeOf144
  v138 := Tryz.zeroValue144
  t139 := Tryz.underlying145
  a139 := Tryz.isAgg145
  z139 := Tryz.sizeOf145
  v139 := Tryz.zeroValue145
  g3 := by kernel_rfl
  g4 := by kernel_rfl }

/-- The two tables of package unicode/utf8 lie in w. -/
def Tabs (w : World) : Prop := Lib.Utf8Tabs 0 1 w

theorem Tabs.carry {B : Nat} {w w' : World} (h : Tabs w) (hb : Below B w w') (h1 : 0 < B) (h2 : 1 < B) : Tabs w' := by
  refine ⟨fun c hc => (hb.cell (p := ⟨_, c, none⟩) h1).trans (h.1 c hc), fun i hi => ⟨(hb.cell (p := ⟨_, _, none⟩) h2).trans (h.2 i hi).1, (hb.cell (p := ⟨_, _, none⟩) h2).trans (h.2 i hi).2⟩⟩

theorem Tabs.setCell {w : World} (h : Tabs w) (b i : Nat) (u : Value) (h1 : 0 < b) (h2 : 1 < b) : Tabs (w.setCell ⟨b, i, none⟩ u) :=
  h.carry (B := b) (⟨rfl, rfl, rfl, by simp [World.setCell], fun k hk => Below.heap_setCell _ _ _ _ (by simp; omega)⟩) h1 h2

theorem valid_any (s : ByteArray) (w : World) (hs : s.size ≤ 9223372036854775807) (hT : Tabs w) :
    Calls Tryz.prog 54 #[.string s] w fun e w' => e = .returned (.bool (Lib.validD s.data.toList)) ∧ Below w.heap.size w w' :=
  Any.utf8_ValidString valid_lays s w hs hT

end Go.Proofs.YtiphcojcdegnkaaGreatDoor
