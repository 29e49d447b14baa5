/- Contracts of gojq.slice, funcSlice. -/
/- Contract of gojq.funcIndex2, case by case. -/
/- Plain: what the paths' texts share. -/
/- Contract of gojq.funcIndex2. -/
import Derived.Test.YtjlkoekfcdpnaaaGreatDoorM03
import Derived.Test.YtjlkoekfcdpnaaaGreatDoorM07
import Derived.Test.YtjlkoekfcdpnaaaGreatDoorM01
import Derived.Test.YtjlkoekfcdpnaaaGreatDoorM09
import Derived.Test.YtjlkoekfcdpnaaaGreatDoorM08
namespace Go.Proofs.YtjlkoekfcdpnaaaGreatDoor
open Go Go.RowKit Go.Maps Go.Deep
attribute [local go_sem] assert_jsonNumber assert_jsonNumber_nil assert_int assert_int_nil assert_float64 assert_float64_nil assert_pbigInt assert_pbigInt_nil assert_string assert_string_nil assert_sl assert_sl_nil assert_m assert_m_nil assert_bool assert_bool_nil
/-- No bound, or an integer. -/
inductive BndV : Value → Option Int → Prop
  | none : BndV .nilIface none
  | some (x : Int) (h : -9223372036854775808 ≤ x ∧ x ≤ 9223372036854775807) : BndV (.iface 3 (.int .i64 x)) (some x)
def endI (x : Option Int) (lo n : Int) (d : Int) : Int := match x with | none => d | some x => clampI x lo n
/-- A slice cut. -/
def CutV (a : Option Addr) (p q c : Nat) (v : Value) : Prop := ∃ a' c', v = .iface 50 (.slice a' (q - p) c') ∧ q - p ≤ c' ∧ (p < q → ∀ b o, a = some ⟨b, o, none⟩ → a' = some ⟨b, o + p, none⟩) ∧ c' ≤ c ∧ (a ≠ none → a' ≠ none)
theorem cut_all {a : Option Addr} {q c : Nat} (h : q ≤ c) : CutV a 0 q c (.iface 50 (.slice a q c)) := ⟨a, c, by rw [Nat.sub_zero], by omega, fun _ b o e => by rw [e, Nat.add_zero], Nat.le_refl _, fun h => h⟩
theorem cut_none {a : Option Addr} {p c : Nat} : CutV a p p c (.iface 50 (.slice a 0 0)) := ⟨a, 0, by rw [Nat.sub_self], by omega, fun h => by omega, Nat.zero_le _, fun h => h⟩
theorem cut_some {a : Option Addr} {p q c : Nat} (h : q ≤ c) : CutV a p q c (.iface 50 (.slice (a.map fun x => x.add p) (q - p) (c - p))) :=
  ⟨_, _, rfl, by omega, (fun _ b o e => by subst e; simp only [Option.map_some]; unfold Addr.add; split <;> simp_all), by omega, fun hn e => hn (Option.map_eq_none_iff.1 e)⟩
theorem clampI_in (x lo hi : Int) (h : lo ≤ hi) : lo ≤ clampI x lo hi ∧ clampI x lo hi ≤ hi := by
  unfold clampI
  simp only
  generalize (if x < 0 then x + hi else x) = m
  split <;> (try split) <;> omega
set_option maxHeartbeats 4000000 in
set_option maxRecDepth 100000 in
theorem slice_fine (a : Option Addr) (n c : Nat) (hnc : n ≤ c) (hn : n ≤ 140737488355328) (e s : Value) (xe xs : Option Int) (he : BndV e xe) (hs : BndV s xs) (p q : Nat) (hp : endI xs 0 n 0 = p) (hq : endI xe p n n = q) (w : World) :
    Calls Tryz.prog 71 #[.slice a n c, e, s] w fun e w' => ∃ v, e = .returned v ∧ CutV a p q c v ∧ Below w.heap.size w w' := by
  have hpn : p ≤ n := by
    cases xs with
    | none => simp only [endI] at hp; omega
    | some x => have := clampI_in x 0 n (by omega); simp only [endI] at hp; omega
  have hpq : p ≤ q ∧ q ≤ n := by
    cases xe with
    | none => simp only [endI] at hq; omega
    | some x => have := clampI_in x p n (by omega); simp only [endI] at hq; omega
  have q1 : (0 : Int) ≤ (p : Int) := by omega
  have q2 : (p : Int) ≤ (q : Int) := by omega
  have q3 : (q : Int) ≤ (c : Int) := by omega
  cases hs with
  | none =>
    cases he with
    | none =>
      obtain rfl : q = n := by simp only [endI] at hq; omega
      obtain rfl : p = 0 := by simp only [endI] at hp; omega
      have Hfin := Lib.hid (cut_all (a := a) (q := q) (c := c) hnc)
      clear hp hq
      go_enter Tryz.func71, Tryz.ntmps71
      go_wp2_with fail
      go_ret
      exact ⟨_, rfl, Hfin.out, Below.refl _ _⟩
    | some x hx =>
      obtain rfl : p = 0 := by simp only [endI] at hp; omega
      have CE := Lib.hid fun w => clamp_any x 0 n hx (by omega) w
      rw [show clampI x 0 (n : Int) = (q : Int) from hq] at CE
      have Hfin := Lib.hid (cut_all (a := a) (q := q) (c := c) (by omega))
      clear hp hq
      go_enter Tryz.func71, Tryz.ntmps71
      go_wp2_with fail
      refine (toIntCeil_int _ _).mono ?_
      rintro e w3 ⟨rfl, hw3⟩
      have hb3 : Below w.heap.size w w3 := hw3
      go_wp2_with fail
      refine (CE.out _).mono ?_
      rintro e w4 ⟨rfl, rfl⟩
      go_wp2_with fail
      go_ret
      exact ⟨_, rfl, Hfin.out, hb3⟩
  | some y hy =>
    cases he with
    | none =>
      obtain rfl : q = n := by simp only [endI] at hq; omega
      have CS := Lib.hid fun w => clamp_any y 0 q hy (by omega) w
      rw [show clampI y 0 (q : Int) = (p : Int) from hp] at CS
      clear hp hq
      by_cases p0 : p = 0
      · subst p0
        have Hfin := Lib.hid (cut_all (a := a) (q := q) (c := c) (by omega))
        go_enter Tryz.func71, Tryz.ntmps71
        go_wp2_with fail
        refine (toInt_int _ _).mono ?_
        rintro e w1 ⟨rfl, hw1⟩
        have hb1 : Below w.heap.size w w1 := hw1
        go_wp2_with fail
        refine (CS.out _).mono ?_
        rintro e w2 ⟨rfl, rfl⟩
        go_wp2_with fail
        go_ret
        exact ⟨_, rfl, Hfin.out, hb1⟩
      · by_cases pc : c = p
        · have hqp : q = p := by omega
          subst hqp
          have Hfin := Lib.hid (cut_none (a := a) (p := q) (c := c))
          go_enter Tryz.func71, Tryz.ntmps71
          go_wp2_with fail
          refine (toInt_int _ _).mono ?_
          rintro e w1 ⟨rfl, hw1⟩
          have hb1 : Below w.heap.size w w1 := hw1
          go_wp2_with fail
          refine (CS.out _).mono ?_
          rintro e w2 ⟨rfl, rfl⟩
          go_wp2_with fail
          go_ret
          exact ⟨_, rfl, Hfin.out, hb1⟩
        · skip
          have Hfin := Lib.hid (cut_some (a := a) (p := p) (q := q) (c := c) (by omega))
          go_enter Tryz.func71, Tryz.ntmps71
          go_wp2_with fail
          refine (toInt_int _ _).mono ?_
          rintro e w1 ⟨rfl, hw1⟩
          have hb1 : Below w.heap.size w w1 := hw1
          go_wp2_with fail
          refine (CS.out _).mono ?_
          rintro e w2 ⟨rfl, rfl⟩
          go_wp2_with fail
          go_ret
          exact ⟨_, rfl, Hfin.out, hb1⟩
    | some x hx =>
      have CS := Lib.hid fun w => clamp_any y 0 n hy (by omega) w
      rw [show clampI y 0 (n : Int) = (p : Int) from hp] at CS
      have CE := Lib.hid fun w => clamp_any x p n hx (by omega) w
      rw [show clampI x (p : Int) (n : Int) = (q : Int) from hq] at CE
      clear hp hq
      by_cases p0 : p = 0
      · subst p0
        have Hfin := Lib.hid (cut_all (a := a) (q := q) (c := c) (by omega))
        go_enter Tryz.func71, Tryz.ntmps71
        go_wp2_with fail
        refine (toInt_int _ _).mono ?_
        rintro e w1 ⟨rfl, hw1⟩
        have hb1 : Below w.heap.size w w1 := hw1
        go_wp2_with fail
        refine (CS.out _).mono ?_
        rintro e w2 ⟨rfl, rfl⟩
        go_wp2_with fail
        refine (toIntCeil_int _ _).mono ?_
        rintro e w3 ⟨rfl, hw3⟩
        have hb3 : Below w.heap.size w w3 := below_next hb1 hw3
        go_wp2_with fail
        refine (CE.out _).mono ?_
        rintro e w4 ⟨rfl, rfl⟩
        go_wp2_with fail
        go_ret
        exact ⟨_, rfl, Hfin.out, hb3⟩
      · by_cases pc : c = p
        · have hqp : q = p := by omega
          subst hqp
          have Hfin := Lib.hid (cut_none (a := a) (p := q) (c := c))
          go_enter Tryz.func71, Tryz.ntmps71
          go_wp2_with fail
          refine (toInt_int _ _).mono ?_
          rintro e w1 ⟨rfl, hw1⟩
          have hb1 : Below w.heap.size w w1 := hw1
          go_wp2_with fail
          refine (CS.out _).mono ?_
          rintro e w2 ⟨rfl, rfl⟩
          go_wp2_with fail
          refine (toIntCeil_int _ _).mono ?_
          rintro e w3 ⟨rfl, hw3⟩
          have hb3 : Below w.heap.size w w3 := below_next hb1 hw3
          go_wp2_with fail
          refine (CE.out _).mono ?_
          rintro e w4 ⟨rfl, rfl⟩
          go_wp2_with fail
          go_ret
          exact ⟨_, rfl, Hfin.out, hb3⟩
        · skip
          have Hfin := Lib.hid (cut_some (a := a) (p := p) (q := q) (c := c) (by omega))
          go_enter Tryz.func71, Tryz.ntmps71
          go_wp2_with fail
          refine (toInt_int _ _).mono ?_
          rintro e w1 ⟨rfl, hw1⟩
          have hb1 : Below w.heap.size w w1 := hw1
          go_wp2_with fail
          refine (CS.out _).mono ?_
          rintro e w2 ⟨rfl, rfl⟩
          go_wp2_with fail
          refine (toIntCeil_int _ _).mono ?_
          rintro e w3 ⟨rfl, hw3⟩
          have hb3 : Below w.heap.size w w3 := below_next hb1 hw3
          go_wp2_with fail
          refine (CE.out _).mono ?_
          rintro e w4 ⟨rfl, rfl⟩
          go_wp2_with fail
          go_ret
          exact ⟨_, rfl, Hfin.out, hb3⟩
/-- An error of the bounds. -/
theorem slice_bad_start (a : Option Addr) (n c : Nat) (e s : Value) (hs : NoNum s) (w : World) : Calls Tryz.prog 71 #[.slice a n c, e, s] w (RetErr w) := by
  have TI := Lib.hid fun w => toInt_no hs w
  obtain ⟨t, y, rfl, _⟩ := hs
  go_enter Tryz.func71, Tryz.ntmps71
  go_wp2_with fail
  refine (TI.out _).mono ?_
  rintro e w1 ⟨rfl, hw1⟩
  have hb1 : Below w.heap.size w w1 := hw1
  go_wp2_with fail
  go_ret
  exact ⟨_, rfl, .arrayIndexNotNumberError _, keep_alloc hb1 hb1.size _⟩
theorem slice_bad_end (a : Option Addr) (n c : Nat) (hn : n ≤ 140737488355328) (e s : Value) (xs : Option Int) (he : NoNum e) (hs : BndV s xs) (w : World) : Calls Tryz.prog 71 #[.slice a n c, e, s] w (RetErr w) := by
  have TI := Lib.hid fun w => toIntCeil_no he w
  obtain ⟨t, y, rfl, _⟩ := he
  cases hs with
  | none =>
    go_enter Tryz.func71, Tryz.ntmps71
    go_wp2_with fail
    refine (TI.out _).mono ?_
    rintro e w1 ⟨rfl, hw1⟩
    have hb1 : Below w.heap.size w w1 := hw1
    go_wp2_with fail
    go_ret
    exact ⟨_, rfl, .arrayIndexNotNumberError _, keep_alloc hb1 hb1.size _⟩
  | some x hx =>
    have CS := Lib.hid fun w => clamp_any x 0 n hx (by omega) w
    go_enter Tryz.func71, Tryz.ntmps71
    go_wp2_with fail
    refine (toInt_int _ _).mono ?_
    rintro e w0 ⟨rfl, hw0⟩
    go_wp2_with fail
    refine (CS.out _).mono ?_
    rintro e w5 ⟨rfl, rfl⟩
    go_wp2_with fail
    refine (TI.out _).mono ?_
    rintro e w1 ⟨rfl, hw1⟩
    have hb1 : Below w.heap.size w w1 := below_next hw0 hw1
    go_wp2_with fail
    go_ret
    exact ⟨_, rfl, .arrayIndexNotNumberError _, keep_alloc hb1 hb1.size _⟩
/-- funcSlice at an array is slice. -/
theorem funcSlice_any (a : Option Addr) (n c : Nat) (e s : Value) (fe : e = .nilIface ∨ ∃ t y, e = .iface t y) (fs : s = .nilIface ∨ ∃ t y, s = .iface t y) (w : World) (R : Value → World → Prop) (H : Calls Tryz.prog 71 #[.slice a n c, e, s] w (Ret R)) :
    Calls Tryz.prog 54 #[.nilIface, .iface 50 (.slice a n c), e, s] w (Ret R) := by
  have HH := Lib.hid H
  clear H
  rcases fe with rfl | ⟨te, ye, rfl⟩ <;> rcases fs with rfl | ⟨ts, ys, rfl⟩
  all_goals
    go_enter Tryz.func54, Tryz.ntmps54
    go_wp2_with fail
    refine HH.out.mono ?_
    rintro e w1 ⟨v, rfl, hv⟩
    have Hv := Lib.hid hv
    clear hv
    go_wp2_with fail
    go_ret
    exact ⟨_, rfl, Hv.out⟩
end Go.Proofs.YtjlkoekfcdpnaaaGreatDoor

namespace Go.Proofs.YtjlkoekfcdpnaaaGreatDoor
open Go Go.RowKit Go.Maps Go.Deep
attribute [local go_sem] assert_jsonNumber assert_jsonNumber_nil assert_int assert_int_nil assert_float64 assert_float64_nil assert_pbigInt assert_pbigInt_nil assert_string assert_string_nil assert_sl assert_sl_nil assert_m assert_m_nil assert_bool assert_bool_nil
def RetNil (w : World) : Ending → World → Prop := Ret fun v w' => v = .nilIface ∧ Below w.heap.size w w'
set_option maxRecDepth 100000 in
theorem i2_nil_str (s : ByteArray) (w : World) : Calls Tryz.prog 39 #[.nilIface, .nilIface, .iface 9 (.string s)] w (RetNil w) := by
  go_enter Tryz.func39, Tryz.ntmps39
  go_wp2_with fail
  go_ret
  exact ⟨_, rfl, rfl, Below.refl _ _⟩
set_option maxRecDepth 100000 in
theorem i2_nil_int (n : Int) (w : World) : Calls Tryz.prog 39 #[.nilIface, .nilIface, .iface 3 (.int .i64 n)] w (RetNil w) := by
  go_enter Tryz.func39, Tryz.ntmps39
  go_wp2_with fail
  refine (toInt_int _ _).mono ?_
  rintro e w1 ⟨rfl, hw1⟩
  go_wp2_with fail
  go_ret
  exact ⟨_, rfl, rfl, hw1⟩
set_option maxRecDepth 100000 in
theorem i2_nil_flt (x : Nat) (w : World) : Calls Tryz.prog 39 #[.nilIface, .nilIface, .iface 49 (.float .f64 x)] w (RetNil w) := by
  go_enter Tryz.func39, Tryz.ntmps39
  go_wp2_with fail
  refine (toInt_flt _ _).mono ?_
  rintro e w1 ⟨n, rfl, h1, h2, hw1⟩
  clear h1 h2
  go_wp2_with fail
  go_ret
  exact ⟨_, rfl, rfl, hw1⟩
set_option maxRecDepth 100000 in
theorem i2_nil_map (r : Option Nat) (w : World) : Calls Tryz.prog 39 #[.nilIface, .nilIface, .iface 53 (.map r)] w (RetNil w) := by
  go_enter Tryz.func39, Tryz.ntmps39
  go_wp2_with fail
  go_ret
  exact ⟨_, rfl, rfl, Below.refl _ _⟩
set_option maxRecDepth 100000 in
theorem i2_map_str (r : Nat) (s : ByteArray) (w : World) (z : Value) (fz : z = .nilIface ∨ ∃ t y, z = .iface t y) (hl : (Instr.lookup 53 (.map (some r)) (.string s) false).run Tryz.prog w = .ok z w) :
    Calls Tryz.prog 39 #[.nilIface, .iface 53 (.map (some r)), .iface 9 (.string s)] w (Ret fun v w' => v = z ∧ w' = w) := by
  rcases fz with rfl | ⟨tz, yz, rfl⟩
  all_goals
    go_enter Tryz.func39, Tryz.ntmps39
    go_wp2_with fail
    go_ret
    exact ⟨_, rfl, rfl, rfl⟩
set_option maxRecDepth 100000 in
theorem i2_arr_int (a : Option Addr) (n c : Nat) (i : Int) (w : World) (z : Value) (fz : z = .nilIface ∨ ∃ t y, z = .iface t y) (H : ∀ w1, Below w.heap.size w w1 → Calls Tryz.prog 51 #[.slice a n c, .int .i64 i] w1 fun e w' => e = .returned z ∧ w' = w1) :
    Calls Tryz.prog 39 #[.nilIface, .iface 50 (.slice a n c), .iface 3 (.int .i64 i)] w (Ret fun v w' => v = z ∧ Below w.heap.size w w') := by
  have HH := Lib.hid H; clear H
  rcases fz with rfl | ⟨tz, yz, rfl⟩
  all_goals
    go_enter Tryz.func39, Tryz.ntmps39
    go_wp2_with fail
    refine (toInt_int _ _).mono ?_
    rintro e w1 ⟨rfl, hw1⟩
    have hb : Below w.heap.size w w1 := hw1
    go_wp2_with fail
    refine (HH.out w1 hb).mono ?_
    rintro e w2 ⟨rfl, rfl⟩
    go_wp2_with fail
    go_ret
    exact ⟨_, rfl, rfl, hb⟩
set_option maxRecDepth 100000 in
theorem i2_arr_map (a : Option Addr) (n c r : Nat) (w : World) (s e : Value) (fs : s = .nilIface ∨ ∃ t y, s = .iface t y) (fe : e = .nilIface ∨ ∃ t y, e = .iface t y) (hs : (Instr.lookup 53 (.map (some r)) (.string ⟨#[115, 116, 97, 114, 116]⟩) true).run Tryz.prog w = .ok (.tuple #[s, .bool true]) w)
    (he : (Instr.lookup 53 (.map (some r)) (.string ⟨#[101, 110, 100]⟩) true).run Tryz.prog w = .ok (.tuple #[e, .bool true]) w) (R : Value → World → Prop) (H : Calls Tryz.prog 54 #[.nilIface, .iface 50 (.slice a n c), e, s] w (Ret R)) :
    Calls Tryz.prog 39 #[.nilIface, .iface 50 (.slice a n c), .iface 53 (.map (some r))] w (Ret R) := by
  have HH := Lib.hid H; clear H
  rcases fe with rfl | ⟨te, ye, rfl⟩ <;> rcases fs with rfl | ⟨ts, ys, rfl⟩
  all_goals
    go_enter Tryz.func39, Tryz.ntmps39
    go_wp2_with fail
    refine HH.out.mono ?_
    rintro e w1 ⟨v, rfl, hv⟩
    have Hv := Lib.hid hv
    clear hv
    go_wp2_with fail
    go_ret
    exact ⟨_, rfl, Hv.out⟩
set_option maxRecDepth 100000 in
theorem i2_arr_str (y : Value) (s : ByteArray) (w : World) : Calls Tryz.prog 39 #[.nilIface, .iface 50 y, .iface 9 (.string s)] w (RetErr w) := by
  go_enter Tryz.func39, Tryz.ntmps39
  go_wp2_with fail
  go_ret
  exact ⟨_, rfl, .expectedObjectError _, below_alloc1 _ _⟩
set_option maxRecDepth 100000 in
theorem i2_arr_nil (y : Value) (w : World) : Calls Tryz.prog 39 #[.nilIface, .iface 50 y, .nilIface] w (RetErr w) := by
  go_enter Tryz.func39, Tryz.ntmps39
  go_wp2_with fail
  go_ret
  exact ⟨_, rfl, .arrayIndexNotNumberError _, below_alloc1 _ _⟩
set_option maxRecDepth 100000 in
theorem i2_arr_bool (y : Value) (b : Bool) (w : World) : Calls Tryz.prog 39 #[.nilIface, .iface 50 y, .iface 4 (.bool b)] w (RetErr w) := by
  go_enter Tryz.func39, Tryz.ntmps39
  go_wp2_with fail
  go_ret
  exact ⟨_, rfl, .arrayIndexNotNumberError _, below_alloc1 _ _⟩
set_option maxRecDepth 100000 in
theorem i2_map_nil (y : Value) (w : World) : Calls Tryz.prog 39 #[.nilIface, .iface 53 y, .nilIface] w (RetErr w) := by
  go_enter Tryz.func39, Tryz.ntmps39
  go_wp2_with fail
  go_ret
  exact ⟨_, rfl, .objectKeyNotStringError _, below_alloc1 _ _⟩
set_option maxRecDepth 100000 in
theorem i2_map_bool (y : Value) (b : Bool) (w : World) : Calls Tryz.prog 39 #[.nilIface, .iface 53 y, .iface 4 (.bool b)] w (RetErr w) := by
  go_enter Tryz.func39, Tryz.ntmps39
  go_wp2_with fail
  go_ret
  exact ⟨_, rfl, .objectKeyNotStringError _, below_alloc1 _ _⟩
set_option maxRecDepth 100000 in
theorem i2_map_int (y : Value) (n : Int) (w : World) : Calls Tryz.prog 39 #[.nilIface, .iface 53 y, .iface 3 (.int .i64 n)] w (RetErr w) := by
  go_enter Tryz.func39, Tryz.ntmps39
  go_wp2_with fail
  refine (toInt_int _ _).mono ?_
  rintro e w1 ⟨rfl, hw1⟩
  have hb : Below w.heap.size w w1 := hw1
  go_wp2_with fail
  go_ret
  exact ⟨_, rfl, .expectedArrayError _, keep_alloc hb hb.size _⟩
set_option maxRecDepth 100000 in
theorem i2_map_flt (y : Value) (n : Nat) (w : World) : Calls Tryz.prog 39 #[.nilIface, .iface 53 y, .iface 49 (.float .f64 n)] w (RetErr w) := by
  go_enter Tryz.func39, Tryz.ntmps39
  go_wp2_with fail
  refine (toInt_flt _ _).mono ?_
  rintro e w1 ⟨n, rfl, h1, h2, hw1⟩
  have hb : Below w.heap.size w w1 := hw1
  clear h1 h2
  go_wp2_with fail
  go_ret
  exact ⟨_, rfl, .expectedArrayError _, keep_alloc hb hb.size _⟩
set_option maxRecDepth 100000 in
theorem i2_map_arr (y z : Value) (w : World) (hz : ∃ a n c, z = .slice a n c) : Calls Tryz.prog 39 #[.nilIface, .iface 53 y, .iface 50 z] w (RetErr w) := by
  obtain ⟨a, n, c, rfl⟩ := hz
  go_enter Tryz.func39, Tryz.ntmps39
  go_wp2_with fail
  go_ret
  exact ⟨_, rfl, .expectedArrayError _, below_alloc1 _ _⟩
end Go.Proofs.YtjlkoekfcdpnaaaGreatDoor

namespace Go.Proofs.YtjlkoekfcdpnaaaGreatDoor
open Go Go.RowKit
theorem getD_of_lt {l : List V} {n : Nat} (h : n < l.length) (d : V) : l.getD n d = l[n] := by
  rw [List.getD_eq_getElem?_getD, List.getElem?_eq_getElem h]; rfl
def boundsOf : Bnd → Bnd → Cut
  | .raises, _ => .raises
  | .silent, _ => .silent
  | .at _, .raises => .raises
  | .at _, .silent => .silent
  | .at a, .at b => .fine a (if a ≤ b then b else a)
theorem boundsA_of {ks : List ByteArray} {vs : List V} (h2 : ks.length = 2) (hs : hasK ks startT = true) (he : hasK ks endT = true) (n : Nat) :
    boundsA ks vs n = boundsOf (bndA (getV ks vs startT) n 0) (bndA (getV ks vs endT) n n) := by
  unfold boundsA
  rw [if_neg (by simp [h2, hs, he])]
  cases bndA (getV ks vs startT) n 0 <;> cases bndA (getV ks vs endT) n n <;> rfl
theorem clamp_neg {x : Int} {n : Nat} (h : x < 0) : min (max (x + (n : Int)) 0) (n : Int) = ((clampN x n : Nat) : Int) := by
  unfold clampN; simp only; rw [if_pos h]; split <;> (try split) <;> omega
theorem clamp_pos {x : Int} {n : Nat} (h : ¬ x < 0) : min (max x 0) (n : Int) = ((clampN x n : Nat) : Int) := by
  unfold clampN; simp only; rw [if_neg h]; split <;> (try split) <;> omega
theorem indexA_mk (k h : Int) (t : ByteArray) (l : List V) (ks : List ByteArray) (vs : List V) (k' h' : Int) (t' : ByteArray) (l' : List V) (ks' : List ByteArray) (vs' : List V) :
    indexA (.mk k h t l ks vs) (.mk k' h' t' l' ks' vs') = if k' = 6 then cutA (.mk k h t l ks vs) (.mk k' h' t' l' ks' vs') else if k = 0 ∧ (k' = 4 ∨ k' = 3) then .fine nullV else if k = 6 ∧ k' = 4 then .fine (getV ks vs t')
      else if k = 5 ∧ k' = 3 then (if h'.tmod 2 ≠ 0 then .silent else .fine (nthA l h')) else if (k = 4 ∧ k' = 3) ∨ (k = 5 ∧ k' = 5) ∨ k = 0 then .silent else .raises := rfl
theorem nth_low {l : List V} {h : Int} (c : (if h.tdiv 2 < 0 then h.tdiv 2 + l.length else h.tdiv 2) < 0) : nthA l h = nullV := by
  unfold nthA; simp only; rw [if_pos c]
theorem nth_high {l : List V} {h : Int} (c : (l.length : Int) ≤ (if h.tdiv 2 < 0 then h.tdiv 2 + l.length else h.tdiv 2)) : nthA l h = nullV := by
  unfold nthA; simp only; rw [if_neg (by omega), List.getD_eq_getElem?_getD, List.getElem?_eq_none (by omega)]; rfl
theorem nth_at {l : List V} {h : Int} {n : Nat} (c : (if h.tdiv 2 < 0 then h.tdiv 2 + l.length else h.tdiv 2) = (n : Int)) (hn : n < l.length) : nthA l h = l[n] := by
  unfold nthA; simp only; rw [c, if_neg (by omega), Int.toNat_natCast, getD_of_lt hn]
theorem pathA_take {v : V} {p : List V} {n : Nat} (hn : n < p.length) {cur : V} (h : pathA v (p.take n) = .fine cur) : pathA v (p.take (n + 1)) = stepA cur p[n] := by
  rw [List.take_succ_eq_append_getElem hn, pathA_snoc, h]
theorem pathA_end {v : V} {p : List V} {n : Nat} (hn : n < p.length) {cur : V} (h : pathA v (p.take n) = .fine cur) (hs : ∀ x, stepA cur p[n] ≠ .fine x) : pathA v p = stepA cur p[n] := by
  have e := pathA_take hn h
  have := pathA_stop (p := p.take (n + 1)) (q := p.drop (n + 1)) (v := v) (fun x => by rw [e]; exact hs x)
  rw [List.take_append_drop, e] at this
  exact this
theorem Good.lens {v : V} (g : Good v) : v.keys.length = v.vals.length ∧ 0 ≤ v.kind ∧ v.kind ≤ 6 := by
  cases g with
  | mk shape half valid list rise vkeys vals =>
    simp only [shapeB, Bool.and_eq_true, decide_eq_true_eq, beq_iff_eq] at shape
    exact ⟨shape.2, shape.1.1.1.1.1.1, shape.1.1.1.1.1.2⟩
def cut0 : Cut → Ans
  | .fine _ _ => .fine nullV
  | _ => .silent
def cutL (l : List V) : Cut → Ans
  | .fine a b => .fine (.mk 5 0 ⟨#[]⟩ ((l.drop a).take (b - a)) [] [])
  | .raises => .raises
  | .silent => .silent
end Go.Proofs.YtjlkoekfcdpnaaaGreatDoor

namespace Go.Proofs.YtjlkoekfcdpnaaaGreatDoor
open Go Go.RowKit Go.Maps Go.Deep
def IdxR (w : World) (S : Nat → Prop) (an : Ans) (v : Value) (w' : World) : Prop := Below w.heap.size w w' ∧ (∀ y, an = .fine y → RepJ w' S (toJ y) v) ∧ (an = .raises → ErrV v)
theorem idx_err {w : World} {S : Nat → Prop} {f : Nat} {args : Array Value} {an : Ans} (ha : an = .raises) (h : Calls Tryz.prog f args w (RetErr w)) : Calls Tryz.prog f args w (Ret (IdxR w S an)) :=
  h.mono fun _ _ ⟨v, he, hv, hb⟩ => ⟨v, he, hb, (fun y e => by rw [ha] at e; cases e), fun _ => hv⟩
theorem idx_nil {w : World} {S : Nat → Prop} {f : Nat} {args : Array Value} {an : Ans} {y : V} (ha : an = .fine y) (hy : toJ y = .null) (h : Calls Tryz.prog f args w (RetNil w)) : Calls Tryz.prog f args w (Ret (IdxR w S an)) :=
  h.mono fun _ _ ⟨v, he, hv, hb⟩ => ⟨v, he, hb, (fun y' e => by rw [ha] at e; cases e; rw [hy, hv]; exact .null S), fun e => by rw [ha] at e; cases e⟩
theorem stepA_mk (k h : Int) (t : ByteArray) (l : List V) (ks : List ByteArray) (vs : List V) (k' h' : Int) (t' : ByteArray) (l' : List V) (ks' : List ByteArray) (vs' : List V) :
    stepA (.mk k h t l ks vs) (.mk k' h' t' l' ks' vs') = if k = 0 ∧ (k' = 4 ∨ k' = 3) then .fine (.mk k h t l ks vs) else if k = 4 ∧ k' = 6 then .silent else indexA (.mk k h t l ks vs) (.mk k' h' t' l' ks' vs') := rfl
theorem clampN_mm (y : Int) (n : Nat) : ((clampN y n : Nat) : Int) = min (max (if y < 0 then y + (n : Int) else y) 0) (n : Int) := by
  by_cases h : y < 0
  · rw [if_pos h, clamp_neg h]
  · rw [if_neg h, clamp_pos h]
theorem clampI_lo (y : Int) (p n : Nat) (h : p ≤ n) : clampI y p n = ((if p ≤ clampN y n then clampN y n else p : Nat) : Int) := by
  have e := clampN_mm y n
  generalize clampN y n = c at *
  unfold clampI
  simp only
  generalize (if y < 0 then y + (n : Int) else y) = m at *
  by_cases hc : p ≤ c
  · rw [if_pos hc]
    split <;> (try split) <;> omega
  · rw [if_neg hc]
    split <;> (try split) <;> omega
theorem clampI_N (y : Int) (n : Nat) : clampI y 0 n = (clampN y n : Nat) := by
  have := clampI_lo y 0 n (Nat.zero_le _)
  simpa using this
theorem bounds_loud {ks : List ByteArray} {vs : List V} {n : Nat} (h : boundsA ks vs n ≠ .silent) : ks.length = 2 ∧ hasK ks startT = true ∧ hasK ks endT = true := by
  by_cases c : ks.length ≠ 2 ∨ hasK ks startT = false ∨ hasK ks endT = false
  · exact absurd (by unfold boundsA; rw [if_pos c]) h
  · simp only [not_or, Bool.not_eq_false, Decidable.not_not] at c
    exact c
theorem rj_nil (w : World) (S : Nat → Prop) (a : Option Addr) (c : Nat) (hc : c ≤ capMax) (hnn : a ≠ none) : RepJ w S (.arr []) (.iface 50 (.slice a 0 c)) :=
  .arr (l := []) (fun _ => .nilIface) 0 0 0 (fun _ _ => False) (by simp) (Nat.zero_le _) (fun h => by simp at h) (fun i hi => by simp at hi) (fun i k hi => by simp at hi) (fun i j k _ hj => by simp at hj) (fun i hi => by simp at hi) hc hnn
theorem RepJ.cap {w : World} {S : Nat → Prop} {j : J} {v : Value} (h : RepJ w S j v) (t : TypeId) (a : Option Addr) (n c : Nat) (e : v = .iface t (.slice a n c)) : c ≤ capMax := by
  cases h <;> cases e
  assumption
theorem RepJ.some {w : World} {S : Nat → Prop} {j : J} {v : Value} (h : RepJ w S j v) (t : TypeId) (a : Option Addr) (n c : Nat) (e : v = .iface t (.slice a n c)) : a ≠ none := by
  cases h <;> cases e
  assumption
/-- A part of an array, cut as gojq.slice cuts. -/
theorem cut_rep {w : World} {S : Nat → Prop} {l : List V} {a : Option Addr} {c : Nat} (h : RepJ w S (.arr (toJL l)) (.iface 50 (.slice a l.length c))) (p q : Nat) (hpq : p ≤ q) (hq : q ≤ l.length) {v : Value} (hv : CutV a p q c v) :
    RepJ w S (toJ (.mk 5 0 ⟨#[]⟩ ((l.drop p).take (q - p)) [] [])) v := by
  rw [toJ_5]
  obtain ⟨a', c', rfl, hc', ha, hcc, hnn⟩ := hv
  replace hnn := hnn (h.some _ _ _ _ rfl)
  have hcm : c ≤ capMax := h.cap _ _ _ _ rfl
  by_cases e : p = q
  · subst e
    rw [Nat.sub_self, List.take_zero]
    exact rj_nil w S a' c' (Nat.le_trans hcc hcm) hnn
  · have := h.part p q hpq (by rw [toJL_len]; exact hq) a' c' hc' hcc (fun b o e' => ha (by omega) b o e') hnn
    rw [toJL_eq, List.map_take, List.map_drop, ← toJL_eq]
    exact this
/-- A bound as it stands in a path. -/
theorem bnd_rep {w : World} {S : Nat → Prop} {v : V} {x : Value} (g : Good v) (h : RepJ w S (toJ v) x) (n d : Nat) :
    (bndA v n d = .at d ∧ BndV x none) ∨ (∃ y, bndA v n d = .at (clampN y n) ∧ BndV x (some y)) ∨ (bndA v n d = .raises ∧ NoNum x) ∨ bndA v n d = .silent := by
  have gl := g.lens
  obtain ⟨k, hf, t, l, ks, vs⟩ := v
  simp only [V.kind] at gl
  have hc : k = 0 ∨ k = 1 ∨ k = 2 ∨ k = 3 ∨ k = 4 ∨ k = 5 ∨ k = 6 := by omega
  unfold bndA
  simp only [V.kind, V.half]
  rcases hc with rfl | rfl | rfl | rfl | rfl | rfl | rfl
  · rw [toJ_0] at h
    cases h
    exact .inl ⟨by simp, .none⟩
  · rw [toJ_1] at h
    cases h
    exact .inr (.inr (.inl ⟨by simp, _, _, rfl, by decide, by decide, by decide, by decide⟩))
  · rw [toJ_2] at h
    cases h
    exact .inr (.inr (.inl ⟨by simp, _, _, rfl, by decide, by decide, by decide, by decide⟩))
  · by_cases e : hf.tmod 2 = 0
    · rw [toJ_3i _ _ _ _ e] at h
      cases h with
      | int _ _ hr => exact .inr (.inl ⟨hf.tdiv 2, by simp [e], .some _ hr⟩)
    · exact .inr (.inr (.inr (by simp [e])))
  · rw [toJ_4] at h
    cases h
    exact .inr (.inr (.inl ⟨by simp, _, _, rfl, by decide, by decide, by decide, by decide⟩))
  · rw [toJ_5] at h
    cases h
    exact .inr (.inr (.inl ⟨by simp, _, _, rfl, by decide, by decide, by decide, by decide⟩))
  · rw [toJ_6] at h
    cases h
    exact .inr (.inr (.inl ⟨by simp, _, _, rfl, by decide, by decide, by decide, by decide⟩))
theorem RiseK.of {ks : List ByteArray} (rise : ∀ i (hi : i + 1 < ks.length), Op.bytesLess ks[i].toList ks[i + 1].toList = true) : RiseK ks := fun i j hi hj => rise_all ks rise j hj i hi
/-- What a map holds at a key. -/
theorem map_key {w : World} {r : Nat} {ks : List ByteArray} {vs : List V} {E : Nat → Value} (hlen : ks.length = vs.length) (rise : ∀ i (hi : i + 1 < ks.length), Op.bytesLess ks[i].toList ks[i + 1].toList = true) (hm : MapAt w r (toJM ks vs) E) {x : ByteArray} (hx : x.size ≤ 140737488351232) (hh : hasK ks x = true) :
    ∃ i, ∃ h : i < vs.length, getV ks vs x = vs[i] ∧ (toJM ks vs)[i]'(by rw [toJM_len _ _ hlen]; omega) = (x, toJ vs[i]) ∧ (Instr.lookup 53 (.map (some r)) (.string x) false).run Tryz.prog w = .ok (E i) w ∧ (Instr.lookup 53 (.map (some r)) (.string x) true).run Tryz.prog w = .ok (.tuple #[E i, .bool true]) w := by
  obtain ⟨hp, e⟩ := hasK_iff.1 hh
  have hp2 : placeI ks x < vs.length := by omega
  have hi : placeI ks x < (toJM ks vs).length := by rw [toJM_len _ _ hlen]; exact hp
  have eg := toJM_get ks vs hlen (placeI ks x) hp
  have e1 : (toJM ks vs)[placeI ks x].1 = x := by rw [eg]; exact e
  have L1 := hm.get (apart_toJM hlen rise) hi (by rw [e1]; exact hx)
  have L2 := hm.getOk (apart_toJM hlen rise) hi (by rw [e1]; exact hx)
  rw [e1] at L1 L2
  refine ⟨placeI ks x, hp2, ?_, ?_, L1, L2⟩
  · unfold getV
    rw [if_pos hh, getD_of_lt hp2]
  · rw [eg, e]
set_option maxHeartbeats 2000000 in
theorem index2_any {w0 : World} {B : Nat} {cur k : V} (gc : Good cur) (gk : Good k) {S S' : Nat → Prop} {u x : Value} (hu : RepJ w0 S (toJ cur) u) (hS : ∀ q, S q → q < B) (hx : RepJ w0 S' (toJ k) x) (hS' : ∀ q, S' q → q < B) (hk : cur.kind = 0 ∨ cur.kind = 5 ∨ cur.kind = 6) (hns : stepA cur k ≠ .silent)
    (w : World) (hbel : Below B w0 w) (hB : B ≤ w.heap.size) : Calls Tryz.prog 39 #[.nilIface, u, x] w (Ret (IdxR w S (stepA cur k))) := by
  have hu := hu.under hbel hS
  have hx := hx.under hbel hS'
  have hSw : ∀ q, S q → q < w.heap.size := fun q hq => Nat.lt_of_lt_of_le (hS q hq) hB
  clear hbel hB hS hS'
  have gl := gk.lens
  obtain ⟨kc, hc0, tc, lc, kc', vc⟩ := cur
  obtain ⟨kk, hf, t, l, ks, vs⟩ := k
  simp only [V.kind] at gl hk
  obtain ⟨shc, _, _, listc, risec, _, valsc⟩ := gc.all
  obtain ⟨shk, _, _, listk, risek, _, valsk⟩ := gk.all
  have hlenc : kc'.length = vc.length := gc.lens.1
  have hlenk : ks.length = vs.length := gk.lens.1
  have hkk : kk = 0 ∨ kk = 1 ∨ kk = 2 ∨ kk = 3 ∨ kk = 4 ∨ kk = 5 ∨ kk = 6 := by omega
  rw [stepA_mk, indexA_mk] at hns ⊢
  rcases hk with rfl | rfl | rfl
  · -- null
    have hu0 := hu
    rw [toJ_0] at hu
    cases hu
    rcases hkk with rfl | rfl | rfl | rfl | rfl | rfl | rfl
    · simp at hns
    · simp at hns
    · simp at hns
    · rw [if_pos ⟨rfl, .inr rfl⟩]
      by_cases e : hf.tmod 2 = 0
      · rw [toJ_3i _ _ _ _ e] at hx
        cases hx
        exact idx_nil rfl (toJ_0 _ _ _ _ _) (i2_nil_int _ w)
      · rw [toJ_3f _ _ _ _ e] at hx
        cases hx
        exact idx_nil rfl (toJ_0 _ _ _ _ _) (i2_nil_flt _ w)
    · rw [if_pos ⟨rfl, .inl rfl⟩]
      rw [toJ_4] at hx
      cases hx
      exact idx_nil rfl (toJ_0 _ _ _ _ _) (i2_nil_str _ w)
    · simp at hns
    · rw [toJ_6] at hx
      cases hx
      have e : (if (0 : Int) = 0 ∧ ((6 : Int) = 4 ∨ (6 : Int) = 3) then Ans.fine (V.mk 0 hc0 tc lc kc' vc) else if (0 : Int) = 4 ∧ (6 : Int) = 6 then .silent else
          if (6 : Int) = 6 then cutA (.mk 0 hc0 tc lc kc' vc) (.mk 6 hf t l ks vs) else if (0 : Int) = 0 ∧ ((6 : Int) = 4 ∨ (6 : Int) = 3) then .fine nullV else if (0 : Int) = 6 ∧ (6 : Int) = 4 then .fine (getV kc' vc t) else if (0 : Int) = 5 ∧ (6 : Int) = 3 then (if hf.tmod 2 ≠ 0 then .silent else .fine (nthA lc hf)) else if ((0 : Int) = 4 ∧ (6 : Int) = 3) ∨ ((0 : Int) = 5 ∧ (6 : Int) = 5) ∨ (0 : Int) = 0 then .silent else .raises) = cut0 (boundsA ks vs 0) := by
        rw [if_neg (by omega), if_neg (by omega), if_pos rfl]
        rfl
      rw [e] at hns ⊢
      cases hb : boundsA ks vs 0 with
      | fine a b => exact idx_nil (y := nullV) rfl (toJ_0 _ _ _ _ _) (i2_nil_map _ w)
      | raises => rw [hb] at hns; exact absurd rfl hns
      | silent => rw [hb] at hns; exact absurd rfl hns
  · -- an array
    have hu0 := hu
    rw [toJ_5] at hu hu0
    cases hu with
    | @arr _ _ a c f b o N F hl hc ca own sub dis ra =>
    rw [toJL_len] at hu0
    have hl : lc.length * 16 ≤ 140737488351232 := by rw [toJL_len] at hl; exact hl
    have hc : lc.length ≤ c := by rw [toJL_len] at hc; exact hc
    have hra : ∀ i (hi : i < lc.length), RepJ w S (toJ lc[i]) (f (o + i)) := fun i hi => by
      have := ra i (by rw [toJL_len]; exact hi)
      rw [toJL_get lc i hi] at this
      exact this.mono (fun q hq => sub i q (by rw [toJL_len]; exact hi) hq)
    rw [toJL_len] at ca ⊢
    rcases hkk with rfl | rfl | rfl | rfl | rfl | rfl | rfl
    · rw [toJ_0] at hx
      cases hx
      exact idx_err (by simp) (i2_arr_nil _ w)
    · rw [toJ_1] at hx
      cases hx
      exact idx_err (by simp) (i2_arr_bool _ _ w)
    · rw [toJ_2] at hx
      cases hx
      exact idx_err (by simp) (i2_arr_bool _ _ w)
    · simp only [show ¬ ((5 : Int) = 0) by decide, show ¬ ((5 : Int) = 4) by decide, show ¬ ((3 : Int) = 6) by decide, show ¬ ((5 : Int) = 6) by decide, false_and, if_false, and_self, if_true] at hns ⊢
      by_cases e : hf.tmod 2 = 0
      · rw [if_neg (by simpa using e)] at hns ⊢
        rw [toJ_3i _ _ _ _ e] at hx
        cases hx with
        | int _ _ hr =>
        have G := fun w1 (hw1 : Below w.heap.size w w1) => gindex_any w1 a lc.length c (fun i => f (o + i)) (by omega) (fun h0 => by
          obtain ⟨ea, hb, hrow, hN⟩ := ca h0
          exact ⟨b, o, ea, fun i hi => (hw1.cell (p := ⟨b, o + i, none⟩) (hSw b hb)).trans (hrow.cell (by omega))⟩) (fun i hi => (hra i hi).form) (hf.tdiv 2) hr
        cases hi : nthI (hf.tdiv 2) lc.length with
        | some m =>
          obtain ⟨em, hm⟩ := nthI_some hi
          rw [hi] at G
          refine (i2_arr_int a lc.length c (hf.tdiv 2) w (f (o + m)) (hra m hm).form G).mono ?_
          rintro e w' ⟨v, rfl, rfl, hb'⟩
          refine ⟨_, rfl, hb', fun y hy => ?_, fun hy => by cases hy⟩
          cases hy
          rw [nth_at em.symm hm]
          exact (hra m hm).under hb' hSw
        | none =>
          rw [hi] at G
          refine (i2_arr_int a lc.length c (hf.tdiv 2) w .nilIface (.inl rfl) G).mono ?_
          rintro e w' ⟨v, rfl, rfl, hb'⟩
          refine ⟨_, rfl, hb', fun y hy => ?_, fun hy => by cases hy⟩
          cases hy
          have en : nthA lc hf = nullV := by
            rcases nthI_none hi with h | h
            · exact nth_low h
            · exact nth_high h
          rw [en]
          show RepJ _ S (toJ (.mk 0 0 ⟨#[]⟩ [] [] [])) _
          rw [toJ_0]
          exact .null S
      · rw [if_pos (by simpa using e)] at hns
        exact absurd rfl hns
    · rw [toJ_4] at hx
      cases hx
      exact idx_err (by simp) (i2_arr_str _ _ w)
    · simp at hns
    · simp only [show ¬ ((5 : Int) = 0) by decide, show ¬ ((5 : Int) = 4) by decide, false_and, if_false, if_true] at hns ⊢
      have ec : cutA (.mk 5 hc0 tc lc kc' vc) (.mk 6 hf t l ks vs) = cutL lc (boundsA ks vs lc.length) := by
        unfold cutA
        rw [if_neg (by exact (by decide : ¬ (5 : Int) = 0)), if_pos (by exact (rfl : (5 : Int) = 5))]
        rfl
      rw [ec] at hns ⊢
      have hns2 : boundsA ks vs lc.length ≠ .silent := fun e => hns (by rw [e]; rfl)
      obtain ⟨h2, hs, he⟩ := bounds_loud hns2
      rw [boundsA_of h2 hs he] at hns ⊢
      rw [toJ_6] at hx
      cases hx with
      | @obj _ _ r E F hr hm hsz own sub dis rm =>
      obtain ⟨i1, hi1, eg1, em1, _, L1⟩ := map_key hlenk risek hm (x := startT) (by decide) hs
      obtain ⟨i2, hi2, eg2, em2, _, L2⟩ := map_key hlenk risek hm (x := endT) (by decide) he
      have hj1 := rm i1 (by rw [toJM_len _ _ hlenk]; omega)
      have hj2 := rm i2 (by rw [toJM_len _ _ hlenk]; omega)
      rw [em1] at hj1
      rw [em2] at hj2
      rw [eg1, eg2] at hns ⊢
      have A1 := bnd_rep (valsk i1 hi1) hj1 lc.length 0
      have A2 := bnd_rep (valsk i2 hi2) hj2 lc.length lc.length
      have key : ∀ R, Calls Tryz.prog 71 #[.slice a lc.length c, E i2, E i1] w (Ret R) → Calls Tryz.prog 39 #[.nilIface, .iface 50 (.slice a lc.length c), .iface 53 (.map (some r))] w (Ret R) :=
        fun R H => i2_arr_map a lc.length c r w (E i1) (E i2) hj1.form hj2.form L1 L2 R (funcSlice_any a lc.length c (E i2) (E i1) hj2.form hj1.form w R H)
      have fin : ∀ (p q : Nat) (xs xe : Option Int), BndV (E i1) xs → BndV (E i2) xe → endI xs 0 lc.length 0 = p → endI xe p lc.length lc.length = q → p ≤ q → q ≤ lc.length →
          Calls Tryz.prog 39 #[.nilIface, .iface 50 (.slice a lc.length c), .iface 53 (.map (some r))] w (Ret (IdxR w S (.fine (.mk 5 0 ⟨#[]⟩ ((lc.drop p).take (q - p)) [] [])))) := by
        intro p q xs xe b1 b2 e1 e2 hpq hql
        refine key _ ((slice_fine a lc.length c hc (by omega) (E i2) (E i1) xe xs b2 b1 p q e1 e2 w).mono ?_)
        rintro e w' ⟨v, rfl, hcut, hb'⟩
        refine ⟨v, rfl, hb', fun y hy => ?_, fun hy => by cases hy⟩
        cases hy
        exact (cut_rep hu0 p q hpq hql hcut).under hb' hSw
      rcases A1 with ⟨f1, b1⟩ | ⟨y1, f1, b1⟩ | ⟨f1, b1⟩ | f1
      · rcases A2 with ⟨f2, b2⟩ | ⟨y2, f2, b2⟩ | ⟨f2, b2⟩ | f2
        · rw [f1, f2]
          have := fin 0 lc.length none none b1 b2 rfl rfl (Nat.zero_le _) (Nat.le_refl _)
          simpa [boundsOf, cutL] using this
        · rw [f1, f2]
          have := fin 0 (clampN y2 lc.length) none (some y2) b1 b2 rfl (clampI_N y2 lc.length) (Nat.zero_le _) (clampN_le _ _)
          simpa [boundsOf, cutL] using this
        · rw [f1, f2]
          exact idx_err rfl (key _ (slice_bad_end a lc.length c (by omega) _ _ none b2 b1 w))
        · rw [f1, f2] at hns
          exact absurd rfl hns
      · rcases A2 with ⟨f2, b2⟩ | ⟨y2, f2, b2⟩ | ⟨f2, b2⟩ | f2
        · rw [f1, f2]
          have := fin (clampN y1 lc.length) lc.length (some y1) none b1 b2 (clampI_N y1 lc.length) rfl (clampN_le _ _) (Nat.le_refl _)
          have hle := clampN_le y1 lc.length
          simpa [boundsOf, cutL, hle] using this
        · rw [f1, f2]
          have hle := clampN_le y1 lc.length
          have hle2 := clampN_le y2 lc.length
          have := fin (clampN y1 lc.length) (if clampN y1 lc.length ≤ clampN y2 lc.length then clampN y2 lc.length else clampN y1 lc.length) (some y1) (some y2) b1 b2 (clampI_N y1 lc.length) (clampI_lo y2 _ _ hle) (by split <;> omega) (by split <;> omega)
          exact this
        · rw [f1, f2]
          exact idx_err rfl (key _ (slice_bad_end a lc.length c (by omega) _ _ (some y1) b2 b1 w))
        · rw [f1, f2] at hns
          exact absurd rfl hns
      · rw [f1]
        exact idx_err (by cases bndA vs[i2] lc.length lc.length <;> rfl) (key _ (slice_bad_start a lc.length c _ _ b1 w))
      · rw [f1] at hns
        exact absurd (by cases bndA vs[i2] lc.length lc.length <;> rfl) hns
  · -- an object
    rw [toJ_6] at hu
    cases hu with
    | @obj _ _ r E F hr hm hs own sub dis rm =>
    rcases hkk with rfl | rfl | rfl | rfl | rfl | rfl | rfl
    · rw [toJ_0] at hx
      cases hx
      exact idx_err (by simp) (i2_map_nil _ w)
    · rw [toJ_1] at hx
      cases hx
      exact idx_err (by simp) (i2_map_bool _ _ w)
    · rw [toJ_2] at hx
      cases hx
      exact idx_err (by simp) (i2_map_bool _ _ w)
    · by_cases e : hf.tmod 2 = 0
      · rw [toJ_3i _ _ _ _ e] at hx
        cases hx
        exact idx_err (by simp) (i2_map_int _ _ w)
      · rw [toJ_3f _ _ _ _ e] at hx
        cases hx
        exact idx_err (by simp) (i2_map_flt _ _ w)
    · rw [toJ_4] at hx
      cases hx with
      | str _ _ hts =>
      simp only [show ¬ ((6 : Int) = 0) by decide, show ¬ ((6 : Int) = 4) by decide, show ¬ ((4 : Int) = 6) by decide, false_and, if_false, and_self, if_true]
      cases hh : hasK kc' t with
      | true =>
        obtain ⟨i, hi, eg, em, L1, _⟩ := map_key hlenc risec hm hts hh
        have hi' : i < (toJM kc' vc).length := by rw [toJM_len _ _ hlenc]; omega
        have hj := rm i hi'
        rw [em] at hj
        refine (i2_map_str r t w _ hj.form L1).mono ?_
        rintro e w' ⟨v, rfl, rfl, rfl⟩
        refine ⟨_, rfl, Below.refl _ _, fun y hy => ?_, fun hy => by cases hy⟩
        cases hy
        rw [eg]
        exact hj.mono (fun q hq => sub i q hi' hq)
      | false =>
        have L := hm.miss (k := t) (fun p hp => by
          obtain ⟨j, hj, rfl⟩ := List.mem_iff_getElem.1 hp
          have hj2 : j < kc'.length := by rw [toJM_len _ _ hlenc] at hj; exact hj
          rw [toJM_get _ _ hlenc j hj2]
          exact hasK_miss (RiseK.of risec) hh _ (List.getElem_mem hj2)) hts
        refine (i2_map_str r t w _ (.inl rfl) L).mono ?_
        rintro e w' ⟨v, rfl, rfl, rfl⟩
        refine ⟨_, rfl, Below.refl _ _, fun y hy => ?_, fun hy => by cases hy⟩
        cases hy
        unfold getV
        rw [if_neg (by simp [hh])]
        show RepJ _ S (toJ (.mk 0 0 ⟨#[]⟩ [] [] [])) _
        rw [toJ_0]
        exact .null S
    · rw [toJ_5] at hx
      cases hx
      exact idx_err (by simp) (i2_map_arr _ _ w ⟨_, _, _, rfl⟩)
    · exfalso
      apply hns
      simp only [show ¬ ((6 : Int) = 0) by decide, show ¬ ((6 : Int) = 4) by decide, false_and, if_false, if_true]
      unfold cutA
      rw [if_neg (by exact (by decide : ¬ (6 : Int) = 0)), if_neg (by exact (by decide : ¬ (6 : Int) = 5)), if_pos (by exact (rfl : (6 : Int) = 6))]
end Go.Proofs.YtjlkoekfcdpnaaaGreatDoor
