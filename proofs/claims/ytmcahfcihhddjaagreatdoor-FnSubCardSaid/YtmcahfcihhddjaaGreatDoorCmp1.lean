/- Contracts of the comparisons of plain values: cmp.Compare, gojq.lt, Compare's callbacks at floats and at kinds. -/
import Derived.Test.YtmcahfcihhddjaaGreatDoorCmpW
import Derived.Test.YtmcahfcihhddjaaGreatDoorHalf
import Derived.Test.YtmcahfcihhddjaaGreatDoorBinI
namespace Go.Proofs.YtmcahfcihhddjaaGreatDoor
open Go Go.RowKit Go.Deep
attribute [local go_sem] assert_jsonNumber assert_jsonNumber_nil assert_int assert_int_nil assert_float64 assert_float64_nil assert_pbigInt assert_pbigInt_nil assert_string assert_string_nil assert_sl assert_sl_nil assert_m assert_m_nil assert_bool assert_bool_nil

theorem isNaN_int (n : Int) (w : World) : Calls Tryz.prog 125 #[.int .i64 n] w fun e w' => e = .returned (.bool false) ∧ w' = w := by
  go_enter Tryz.func125, Tryz.ntmps125
  go_wp2_with fail
  go_ret
  exact ⟨by simp, rfl⟩
theorem isNaN_str (s : ByteArray) (w : World) : Calls Tryz.prog 126 #[.string s] w fun e w' => e = .returned (.bool false) ∧ w' = w := by
  go_enter Tryz.func126, Tryz.ntmps126
  go_wp2_with fail
  go_ret
  exact ⟨by simp, rfl⟩
theorem isNaN_flt (x : Nat) (h : FloatKind.f64.format.order x x = some .eq) (w : World) : Calls Tryz.prog 58 #[.float .f64 x] w fun e w' => e = .returned (.bool false) ∧ w' = w := by
  go_enter Tryz.func58, Tryz.ntmps58
  go_wp2_with fail
  go_ret
  exact ⟨by simp, rfl⟩

theorem cmpi_any (a b : Int) (w : World) : Calls Tryz.prog 89 #[.int .i64 a, .int .i64 b] w fun e w' => e = .returned (.int .i64 (signI (a - b))) ∧ w' = w := by
  have N := Lib.hid isNaN_int
  rcases Int.lt_trichotomy a b with h | h | h
  · have e : signI (a - b) = -1 := by unfold signI; rw [if_pos (by omega)]
    rw [e]
    clear e
    go_enter Tryz.func89, Tryz.ntmps89
    go_wp2_with fail
    refine (N.out _ _).mono ?_
    rintro e w3 ⟨rfl, rfl⟩
    go_wp2_with fail
    refine (N.out _ _).mono ?_
    rintro e w3 ⟨rfl, rfl⟩
    go_wp2_with fail
    go_ret
    exact ⟨rfl, rfl⟩
  · have e : signI (a - b) = 0 := by unfold signI; rw [if_neg (by omega), if_neg (by omega)]
    have h1 : ¬ a < b := by omega
    have h2 : ¬ b < a := by omega
    rw [e]
    clear e h
    go_enter Tryz.func89, Tryz.ntmps89
    go_wp2_with fail
    refine (N.out _ _).mono ?_
    rintro e w3 ⟨rfl, rfl⟩
    go_wp2_with fail
    refine (N.out _ _).mono ?_
    rintro e w3 ⟨rfl, rfl⟩
    go_wp2_with fail
    go_ret
    exact ⟨rfl, rfl⟩
  · have e : signI (a - b) = 1 := by unfold signI; rw [if_neg (by omega), if_pos (by omega)]
    have h1 : ¬ a < b := by omega
    rw [e]
    clear e
    go_enter Tryz.func89, Tryz.ntmps89
    go_wp2_with fail
    refine (N.out _ _).mono ?_
    rintro e w3 ⟨rfl, rfl⟩
    go_wp2_with fail
    refine (N.out _ _).mono ?_
    rintro e w3 ⟨rfl, rfl⟩
    go_wp2_with fail
    go_ret
    exact ⟨rfl, rfl⟩

theorem cmps_any (a b : ByteArray) (w : World) : Calls Tryz.prog 93 #[.string a, .string b] w fun e w' => e = .returned (.int .i64 (textsC a b)) ∧ w' = w := by
  have N := Lib.hid isNaN_str
  have hsw : Op.bytesLess a.toList b.toList = false → (a.toList == b.toList) = !Op.bytesLess b.toList a.toList := by
    intro h
    by_cases e : a.toList = b.toList
    · rw [e, bLess_eq]; simp [List.lt_irrefl]
    · have : (a.toList == b.toList) = false := by simpa using e
      rw [this]
      rw [bLess_eq] at h ⊢
      simp only [decide_eq_false_iff_not] at h
      symm
      rw [Bool.not_eq_false', decide_eq_true_eq]
      exact Decidable.byContradiction fun h2 => e (List.le_antisymm (List.not_lt.1 h2) (List.not_lt.1 h))
  cases h : Op.bytesLess a.toList b.toList
  · have hs := hsw h
    cases h' : Op.bytesLess b.toList a.toList
    · have hc : textsC a b = 0 := by unfold textsC; rw [h, h']; rfl
      rw [hc]
      clear hc hsw
      rw [h'] at hs
      go_enter Tryz.func93, Tryz.ntmps93
      go_wp2_with fail
      refine (N.out _ _).mono ?_
      rintro e w3 ⟨rfl, rfl⟩
      go_wp2_with fail
      refine (N.out _ _).mono ?_
      rintro e w3 ⟨rfl, rfl⟩
      go_wp2_with fail
      go_ret
      exact ⟨rfl, rfl⟩
    · have hc : textsC a b = 1 := by unfold textsC; rw [h, h']; rfl
      rw [hc]
      clear hc hsw
      rw [h'] at hs
      go_enter Tryz.func93, Tryz.ntmps93
      go_wp2_with fail
      refine (N.out _ _).mono ?_
      rintro e w3 ⟨rfl, rfl⟩
      go_wp2_with fail
      refine (N.out _ _).mono ?_
      rintro e w3 ⟨rfl, rfl⟩
      go_wp2_with fail
      go_ret
      exact ⟨rfl, rfl⟩
  · have hc : textsC a b = -1 := by unfold textsC; rw [h]; rfl
    rw [hc]
    clear hc hsw
    go_enter Tryz.func93, Tryz.ntmps93
    go_wp2_with fail
    refine (N.out _ _).mono ?_
    rintro e w3 ⟨rfl, rfl⟩
    go_wp2_with fail
    refine (N.out _ _).mono ?_
    rintro e w3 ⟨rfl, rfl⟩
    go_wp2_with fail
    go_ret
    exact ⟨rfl, rfl⟩

theorem lt_any (x y : Nat) (o : Ordering) (hx : FloatKind.f64.format.order x x = some .eq) (ho : FloatKind.f64.format.order x y = some o) (w : World) :
    Calls Tryz.prog 91 #[.float .f64 x, .float .f64 y] w fun e w' => e = .returned (.bool (o == .lt)) ∧ w' = w := by
  have N := Lib.hid (isNaN_flt x hx)
  clear hx
  cases o
  all_goals
    go_enter Tryz.func91, Tryz.ntmps91
    go_wp2_with fail
    try refine (N.out _).mono ?_
    try rintro e w3 ⟨rfl, rfl⟩
    try go_wp2_with fail
    go_ret
    exact ⟨rfl, rfl⟩

def ordI : Ordering → Int
  | .lt => -1
  | .eq => 0
  | .gt => 1
theorem cmpf_any (x y : Nat) (o : Ordering) (hx : FloatKind.f64.format.order x x = some .eq) (ho : FloatKind.f64.format.order x y = some o) (w : World) :
    Calls Tryz.prog 90 #[.float .f64 x, .float .f64 y] w fun e w' => e = .returned (.int .i64 (ordI o)) ∧ w' = w := by
  have N := Lib.hid (lt_any x y o hx ho)
  clear hx
  cases o
  all_goals
    go_enter Tryz.func90, Tryz.ntmps90
    go_wp2_with fail
    refine (N.out _).mono ?_
    rintro e w3 ⟨rfl, rfl⟩
    go_wp2_with fail
    go_ret
    exact ⟨rfl, rfl⟩
theorem ordI_cmp (a b : Int) : ordI (compare a b) = signI (a - b) := by
  show ordI (compareOfLessAndEq a b) = _
  unfold compareOfLessAndEq signI
  by_cases h : a < b
  · rw [if_pos h, if_pos (show a - b < 0 by omega)]; rfl
  · rw [if_neg h, if_neg (show ¬ a - b < 0 by omega)]
    by_cases h2 : a = b
    · rw [if_pos h2, if_neg (show ¬ 0 < a - b by omega)]; rfl
    · rw [if_neg h2, if_pos (show 0 < a - b by omega)]; rfl

theorem cmpf_hb (a b : Int) (fa : FitsH a) (fb : FitsH b) (w : World) :
    Calls Tryz.prog 90 #[.float .f64 (hb a), .float .f64 (hb b)] w fun e w' => e = .returned (.int .i64 (signI (a - b))) ∧ w' = w := by
  rw [← ordI_cmp]
  exact cmpf_any _ _ _ ((order_hb (hb_isH fa) (hb_isH fa)).trans (by simp)) (order_hb (hb_isH fa) (hb_isH fb)) w

def kindJ : J → Int
  | .null => 0
  | .bool b => if b then 2 else 1
  | .int _ => 3
  | .flt _ => 3
  | .str _ => 4
  | .arr _ => 5
  | .obj _ => 6
  | .hole => 0

theorem kind_null (w : World) : Calls Tryz.prog 98 #[.nilIface] w fun e w' => e = .returned (.int .i64 0) ∧ w' = w := by
  go_enter Tryz.func98, Tryz.ntmps98
  go_wp2_with fail
  go_ret
  exact ⟨rfl, rfl⟩
theorem kind_bool (b : Bool) (w : World) : Calls Tryz.prog 98 #[.iface 4 (.bool b)] w fun e w' => e = .returned (.int .i64 (if b then 2 else 1)) ∧ w' = w := by
  cases b
  all_goals
    go_enter Tryz.func98, Tryz.ntmps98
    go_wp2_with fail
    go_ret
    exact ⟨rfl, rfl⟩
theorem kind_int (n : Int) (w : World) : Calls Tryz.prog 98 #[.iface 3 (.int .i64 n)] w fun e w' => e = .returned (.int .i64 3) ∧ w' = w := by
  go_enter Tryz.func98, Tryz.ntmps98
  go_wp2_with fail
  go_ret
  exact ⟨rfl, rfl⟩
theorem kind_flt (x : Nat) (w : World) : Calls Tryz.prog 98 #[.iface 63 (.float .f64 x)] w fun e w' => e = .returned (.int .i64 3) ∧ w' = w := by
  go_enter Tryz.func98, Tryz.ntmps98
  go_wp2_with fail
  go_ret
  exact ⟨rfl, rfl⟩
theorem kind_str (s : ByteArray) (w : World) : Calls Tryz.prog 98 #[.iface 9 (.string s)] w fun e w' => e = .returned (.int .i64 4) ∧ w' = w := by
  go_enter Tryz.func98, Tryz.ntmps98
  go_wp2_with fail
  go_ret
  exact ⟨rfl, rfl⟩
theorem kind_arr (a : Option Addr) (n c : Nat) (w : World) : Calls Tryz.prog 98 #[.iface 64 (.slice a n c)] w fun e w' => e = .returned (.int .i64 5) ∧ w' = w := by
  go_enter Tryz.func98, Tryz.ntmps98
  go_wp2_with fail
  go_ret
  exact ⟨rfl, rfl⟩
theorem kind_obj (r : Option Nat) (w : World) : Calls Tryz.prog 98 #[.iface 67 (.map r)] w fun e w' => e = .returned (.int .i64 6) ∧ w' = w := by
  go_enter Tryz.func98, Tryz.ntmps98
  go_wp2_with fail
  go_ret
  exact ⟨rfl, rfl⟩

theorem kind_any {w0 : World} {S : Nat → Prop} {j : J} {x : Value} (h : RepJ w0 S j x) (hh : j ≠ .hole) (w : World) : Calls Tryz.prog 98 #[x] w fun e w' => e = .returned (.int .i64 (kindJ j)) ∧ w' = w := by
  cases h with
  | null => exact kind_null w
  | bool _ b => exact kind_bool b w
  | int _ n => exact kind_int n w
  | flt _ x => exact kind_flt x w
  | str _ s => exact kind_str s w
  | arr => exact kind_arr _ _ _ w
  | obj => exact kind_obj _ w

theorem cmpk_any {w0 : World} {S S' : Nat → Prop} {j j' : J} {x y : Value} (h : RepJ w0 S j x) (hh : j ≠ .hole) (h' : RepJ w0 S' j' y) (hh' : j' ≠ .hole) (w : World) :
    Calls Tryz.prog 97 #[x, y] w fun e w' => e = .returned (.int .i64 (signI (kindJ j - kindJ j'))) ∧ w' = w := by
  have K1 := Lib.hid (kind_any h hh)
  have K2 := Lib.hid (kind_any h' hh')
  have C := Lib.hid (cmpi_any (kindJ j) (kindJ j'))
  clear h h' hh hh'
  go_enter Tryz.func97, Tryz.ntmps97
  go_wp2_with fail
  refine (K1.out _).mono ?_
  rintro e w3 ⟨rfl, rfl⟩
  clear K1
  go_wp2_with fail
  refine (K2.out _).mono ?_
  rintro e w3 ⟨rfl, rfl⟩
  clear K2
  go_wp2_with fail
  refine (C.out _).mono ?_
  rintro e w3 ⟨rfl, rfl⟩
  clear C
  go_wp2_with fail
  go_ret
  exact ⟨rfl, rfl⟩

end Go.Proofs.YtmcahfcihhddjaaGreatDoor
