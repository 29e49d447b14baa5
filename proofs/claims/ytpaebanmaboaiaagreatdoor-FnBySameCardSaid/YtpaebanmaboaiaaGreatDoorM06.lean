/- Contracts of gojq.binopTypeSwitch[int]: it hands on to one of its callbacks (printed by wip/gen_bin.py). -/
/- Plain: the kind of a tree of Go's, and the numbers in it. -/
/- Contracts of the comparisons of plain values: cmp.Compare, gojq.lt, Compare's callbacks at floats and at kinds. -/
/- Contract of Compare's callback at arrays, over what Compare says of their elements. -/
import Derived.Test.YtpaebanmaboaiaaGreatDoorM01
import Derived.Test.YtpaebanmaboaiaaGreatDoorM05
import Derived.Test.YtpaebanmaboaiaaGreatDoorM03
import Derived.Test.YtpaebanmaboaiaaGreatDoorM04
import Derived.WalkLawsBesides
namespace Go.Proofs.YtpaebanmaboaiaaGreatDoor
open Go Go.RowKit
attribute [local go_sem] assert_jsonNumber assert_jsonNumber_nil assert_int assert_int_nil assert_float64 assert_float64_nil assert_pbigInt assert_pbigInt_nil assert_string assert_string_nil assert_sl assert_sl_nil assert_m assert_m_nil assert_bool assert_bool_nil
set_option maxHeartbeats 4000000 in
set_option maxRecDepth 100000 in
theorem bini_ii (f1 f2 f3 f4 f5 f6 f7 : Nat) (l r : Int) (w : World) (R : Value → World → Prop) (en : EntersF f1) (h : Calls Tryz.prog f1 #[.int .i64 l, .int .i64 r] w (Ret R)) :
    Calls Tryz.prog 69 #[.iface 3 (.int .i64 l), .iface 3 (.int .i64 r), .func (.func f1) #[] #[], .func (.func f2) #[] #[], .func (.func f3) #[] #[], .func (.func f4) #[] #[], .func (.func f5) #[] #[], .func (.func f6) #[] #[], .func (.func f7) #[] #[]] w (Ret R) := by
  have H := Lib.hid h; clear h
  unfold EntersF at en
  go_enter Tryz.func69, Tryz.ntmps69
  go_wp2_with fail
  refine H.out.mono ?_
  rintro e w2 ⟨v, rfl, hR⟩
  go_wp2_with fail
  go_ret
  exact ⟨_, rfl, hR⟩
set_option maxHeartbeats 4000000 in
set_option maxRecDepth 100000 in
theorem bini_if (f1 f2 f3 f4 f5 f6 f7 : Nat) (l : Int) (r : Nat) (w : World) (R : Value → World → Prop) (en : EntersF f2) (h : Calls Tryz.prog f2 #[.float .f64 (floatOfInt .f64 l), .float .f64 r] w (Ret R)) :
    Calls Tryz.prog 69 #[.iface 3 (.int .i64 l), .iface 48 (.float .f64 r), .func (.func f1) #[] #[], .func (.func f2) #[] #[], .func (.func f3) #[] #[], .func (.func f4) #[] #[], .func (.func f5) #[] #[], .func (.func f6) #[] #[], .func (.func f7) #[] #[]] w (Ret R) := by
  have H := Lib.hid h; clear h
  unfold EntersF at en
  go_enter Tryz.func69, Tryz.ntmps69
  go_wp2_with fail
  refine H.out.mono ?_
  rintro e w2 ⟨v, rfl, hR⟩
  go_wp2_with fail
  go_ret
  exact ⟨_, rfl, hR⟩
set_option maxHeartbeats 4000000 in
set_option maxRecDepth 100000 in
theorem bini_fi (f1 f2 f3 f4 f5 f6 f7 : Nat) (l : Nat) (r : Int) (w : World) (R : Value → World → Prop) (en : EntersF f2) (h : Calls Tryz.prog f2 #[.float .f64 l, .float .f64 (floatOfInt .f64 r)] w (Ret R)) :
    Calls Tryz.prog 69 #[.iface 48 (.float .f64 l), .iface 3 (.int .i64 r), .func (.func f1) #[] #[], .func (.func f2) #[] #[], .func (.func f3) #[] #[], .func (.func f4) #[] #[], .func (.func f5) #[] #[], .func (.func f6) #[] #[], .func (.func f7) #[] #[]] w (Ret R) := by
  have H := Lib.hid h; clear h
  unfold EntersF at en
  go_enter Tryz.func69, Tryz.ntmps69
  go_wp2_with fail
  refine H.out.mono ?_
  rintro e w2 ⟨v, rfl, hR⟩
  go_wp2_with fail
  go_ret
  exact ⟨_, rfl, hR⟩
set_option maxHeartbeats 4000000 in
set_option maxRecDepth 100000 in
theorem bini_ff (f1 f2 f3 f4 f5 f6 f7 : Nat) (l r : Nat) (w : World) (R : Value → World → Prop) (en : EntersF f2) (h : Calls Tryz.prog f2 #[.float .f64 l, .float .f64 r] w (Ret R)) :
    Calls Tryz.prog 69 #[.iface 48 (.float .f64 l), .iface 48 (.float .f64 r), .func (.func f1) #[] #[], .func (.func f2) #[] #[], .func (.func f3) #[] #[], .func (.func f4) #[] #[], .func (.func f5) #[] #[], .func (.func f6) #[] #[], .func (.func f7) #[] #[]] w (Ret R) := by
  have H := Lib.hid h; clear h
  unfold EntersF at en
  go_enter Tryz.func69, Tryz.ntmps69
  go_wp2_with fail
  refine H.out.mono ?_
  rintro e w2 ⟨v, rfl, hR⟩
  go_wp2_with fail
  go_ret
  exact ⟨_, rfl, hR⟩
set_option maxHeartbeats 4000000 in
set_option maxRecDepth 100000 in
theorem bini_ss (f1 f2 f3 f4 f5 f6 f7 : Nat) (l r : ByteArray) (w : World) (R : Value → World → Prop) (en : EntersF f4) (h : Calls Tryz.prog f4 #[.string l, .string r] w (Ret R)) :
    Calls Tryz.prog 69 #[.iface 9 (.string l), .iface 9 (.string r), .func (.func f1) #[] #[], .func (.func f2) #[] #[], .func (.func f3) #[] #[], .func (.func f4) #[] #[], .func (.func f5) #[] #[], .func (.func f6) #[] #[], .func (.func f7) #[] #[]] w (Ret R) := by
  have H := Lib.hid h; clear h
  unfold EntersF at en
  go_enter Tryz.func69, Tryz.ntmps69
  go_wp2_with fail
  refine H.out.mono ?_
  rintro e w2 ⟨v, rfl, hR⟩
  go_wp2_with fail
  go_ret
  exact ⟨_, rfl, hR⟩
set_option maxHeartbeats 4000000 in
set_option maxRecDepth 100000 in
theorem bini_aa (f1 f2 f3 f4 f5 f6 f7 : Nat) (a a' : Option Addr) (n n' c c' : Nat) (w : World) (R : Value → World → Prop) (en : EntersF f5) (h : Calls Tryz.prog f5 #[.slice a n c, .slice a' n' c'] w (Ret R)) :
    Calls Tryz.prog 69 #[.iface 49 (.slice a n c), .iface 49 (.slice a' n' c'), .func (.func f1) #[] #[], .func (.func f2) #[] #[], .func (.func f3) #[] #[], .func (.func f4) #[] #[], .func (.func f5) #[] #[], .func (.func f6) #[] #[], .func (.func f7) #[] #[]] w (Ret R) := by
  have H := Lib.hid h; clear h
  unfold EntersF at en
  go_enter Tryz.func69, Tryz.ntmps69
  go_wp2_with fail
  refine H.out.mono ?_
  rintro e w2 ⟨v, rfl, hR⟩
  go_wp2_with fail
  go_ret
  exact ⟨_, rfl, hR⟩
set_option maxHeartbeats 4000000 in
set_option maxRecDepth 100000 in
theorem bini_mm (f1 f2 f3 f4 f5 f6 f7 : Nat) (r r' : Option Nat) (w : World) (R : Value → World → Prop) (en : EntersF f6) (h : Calls Tryz.prog f6 #[.map r, .map r'] w (Ret R)) :
    Calls Tryz.prog 69 #[.iface 52 (.map r), .iface 52 (.map r'), .func (.func f1) #[] #[], .func (.func f2) #[] #[], .func (.func f3) #[] #[], .func (.func f4) #[] #[], .func (.func f5) #[] #[], .func (.func f6) #[] #[], .func (.func f7) #[] #[]] w (Ret R) := by
  have H := Lib.hid h; clear h
  unfold EntersF at en
  go_enter Tryz.func69, Tryz.ntmps69
  go_wp2_with fail
  refine H.out.mono ?_
  rintro e w2 ⟨v, rfl, hR⟩
  go_wp2_with fail
  go_ret
  exact ⟨_, rfl, hR⟩
set_option maxHeartbeats 4000000 in
set_option maxRecDepth 100000 in
theorem bini_n_nil (f1 f2 f3 f4 f5 f6 f7 : Nat)  (w : World) (R : Value → World → Prop) (en : EntersF f7) (h : Calls Tryz.prog f7 #[.nilIface, .nilIface] w (Ret R)) :
    Calls Tryz.prog 69 #[.nilIface, .nilIface, .func (.func f1) #[] #[], .func (.func f2) #[] #[], .func (.func f3) #[] #[], .func (.func f4) #[] #[], .func (.func f5) #[] #[], .func (.func f6) #[] #[], .func (.func f7) #[] #[]] w (Ret R) := by
  have H := Lib.hid h; clear h
  unfold EntersF at en
  go_enter Tryz.func69, Tryz.ntmps69
  go_wp2_with fail
  refine H.out.mono ?_
  rintro e w2 ⟨v, rfl, hR⟩
  go_wp2_with fail
  go_ret
  exact ⟨_, rfl, hR⟩
set_option maxHeartbeats 4000000 in
set_option maxRecDepth 100000 in
theorem bini_n_else (f1 f2 f3 f4 f5 f6 f7 : Nat)  (t : TypeId) (y : Value) (n0 : t ≠ 134) (w : World) (R : Value → World → Prop) (en : EntersF f7) (h : Calls Tryz.prog f7 #[.nilIface, .iface t y] w (Ret R)) :
    Calls Tryz.prog 69 #[.nilIface, .iface t y, .func (.func f1) #[] #[], .func (.func f2) #[] #[], .func (.func f3) #[] #[], .func (.func f4) #[] #[], .func (.func f5) #[] #[], .func (.func f6) #[] #[], .func (.func f7) #[] #[]] w (Ret R) := by
  have H := Lib.hid h; clear h
  unfold EntersF at en
  go_enter Tryz.func69, Tryz.ntmps69
  go_wp2_with fail
  refine H.out.mono ?_
  rintro e w2 ⟨v, rfl, hR⟩
  go_wp2_with fail
  go_ret
  exact ⟨_, rfl, hR⟩
set_option maxHeartbeats 4000000 in
set_option maxRecDepth 100000 in
theorem bini_b_nil (f1 f2 f3 f4 f5 f6 f7 : Nat) (b : Bool) (w : World) (R : Value → World → Prop) (en : EntersF f7) (h : Calls Tryz.prog f7 #[.iface 4 (.bool b), .nilIface] w (Ret R)) :
    Calls Tryz.prog 69 #[.iface 4 (.bool b), .nilIface, .func (.func f1) #[] #[], .func (.func f2) #[] #[], .func (.func f3) #[] #[], .func (.func f4) #[] #[], .func (.func f5) #[] #[], .func (.func f6) #[] #[], .func (.func f7) #[] #[]] w (Ret R) := by
  have H := Lib.hid h; clear h
  unfold EntersF at en
  go_enter Tryz.func69, Tryz.ntmps69
  go_wp2_with fail
  refine H.out.mono ?_
  rintro e w2 ⟨v, rfl, hR⟩
  go_wp2_with fail
  go_ret
  exact ⟨_, rfl, hR⟩
set_option maxHeartbeats 4000000 in
set_option maxRecDepth 100000 in
theorem bini_b_else (f1 f2 f3 f4 f5 f6 f7 : Nat) (b : Bool) (t : TypeId) (y : Value) (n0 : t ≠ 134) (w : World) (R : Value → World → Prop) (en : EntersF f7) (h : Calls Tryz.prog f7 #[.iface 4 (.bool b), .iface t y] w (Ret R)) :
    Calls Tryz.prog 69 #[.iface 4 (.bool b), .iface t y, .func (.func f1) #[] #[], .func (.func f2) #[] #[], .func (.func f3) #[] #[], .func (.func f4) #[] #[], .func (.func f5) #[] #[], .func (.func f6) #[] #[], .func (.func f7) #[] #[]] w (Ret R) := by
  have H := Lib.hid h; clear h
  unfold EntersF at en
  go_enter Tryz.func69, Tryz.ntmps69
  go_wp2_with fail
  refine H.out.mono ?_
  rintro e w2 ⟨v, rfl, hR⟩
  go_wp2_with fail
  go_ret
  exact ⟨_, rfl, hR⟩
set_option maxHeartbeats 4000000 in
set_option maxRecDepth 100000 in
theorem bini_i_nil (f1 f2 f3 f4 f5 f6 f7 : Nat) (l : Int) (w : World) (R : Value → World → Prop) (en : EntersF f7) (h : Calls Tryz.prog f7 #[.iface 3 (.int .i64 l), .nilIface] w (Ret R)) :
    Calls Tryz.prog 69 #[.iface 3 (.int .i64 l), .nilIface, .func (.func f1) #[] #[], .func (.func f2) #[] #[], .func (.func f3) #[] #[], .func (.func f4) #[] #[], .func (.func f5) #[] #[], .func (.func f6) #[] #[], .func (.func f7) #[] #[]] w (Ret R) := by
  have H := Lib.hid h; clear h
  unfold EntersF at en
  go_enter Tryz.func69, Tryz.ntmps69
  go_wp2_with fail
  refine H.out.mono ?_
  rintro e w2 ⟨v, rfl, hR⟩
  go_wp2_with fail
  go_ret
  exact ⟨_, rfl, hR⟩
set_option maxHeartbeats 4000000 in
set_option maxRecDepth 100000 in
theorem bini_i_else (f1 f2 f3 f4 f5 f6 f7 : Nat) (l : Int) (t : TypeId) (y : Value) (n0 : t ≠ 134) (n1 : t ≠ 3) (n2 : t ≠ 48) (n3 : t ≠ 113) (w : World) (R : Value → World → Prop) (en : EntersF f7) (h : Calls Tryz.prog f7 #[.iface 3 (.int .i64 l), .iface t y] w (Ret R)) :
    Calls Tryz.prog 69 #[.iface 3 (.int .i64 l), .iface t y, .func (.func f1) #[] #[], .func (.func f2) #[] #[], .func (.func f3) #[] #[], .func (.func f4) #[] #[], .func (.func f5) #[] #[], .func (.func f6) #[] #[], .func (.func f7) #[] #[]] w (Ret R) := by
  have H := Lib.hid h; clear h
  unfold EntersF at en
  go_enter Tryz.func69, Tryz.ntmps69
  go_wp2_with fail
  refine H.out.mono ?_
  rintro e w2 ⟨v, rfl, hR⟩
  go_wp2_with fail
  go_ret
  exact ⟨_, rfl, hR⟩
set_option maxHeartbeats 4000000 in
set_option maxRecDepth 100000 in
theorem bini_f_nil (f1 f2 f3 f4 f5 f6 f7 : Nat) (l : Nat) (w : World) (R : Value → World → Prop) (en : EntersF f7) (h : Calls Tryz.prog f7 #[.iface 48 (.float .f64 l), .nilIface] w (Ret R)) :
    Calls Tryz.prog 69 #[.iface 48 (.float .f64 l), .nilIface, .func (.func f1) #[] #[], .func (.func f2) #[] #[], .func (.func f3) #[] #[], .func (.func f4) #[] #[], .func (.func f5) #[] #[], .func (.func f6) #[] #[], .func (.func f7) #[] #[]] w (Ret R) := by
  have H := Lib.hid h; clear h
  unfold EntersF at en
  go_enter Tryz.func69, Tryz.ntmps69
  go_wp2_with fail
  refine H.out.mono ?_
  rintro e w2 ⟨v, rfl, hR⟩
  go_wp2_with fail
  go_ret
  exact ⟨_, rfl, hR⟩
set_option maxHeartbeats 4000000 in
set_option maxRecDepth 100000 in
theorem bini_f_else (f1 f2 f3 f4 f5 f6 f7 : Nat) (l : Nat) (t : TypeId) (y : Value) (n0 : t ≠ 134) (n1 : t ≠ 3) (n2 : t ≠ 48) (n3 : t ≠ 113) (w : World) (R : Value → World → Prop) (en : EntersF f7) (h : Calls Tryz.prog f7 #[.iface 48 (.float .f64 l), .iface t y] w (Ret R)) :
    Calls Tryz.prog 69 #[.iface 48 (.float .f64 l), .iface t y, .func (.func f1) #[] #[], .func (.func f2) #[] #[], .func (.func f3) #[] #[], .func (.func f4) #[] #[], .func (.func f5) #[] #[], .func (.func f6) #[] #[], .func (.func f7) #[] #[]] w (Ret R) := by
  have H := Lib.hid h; clear h
  unfold EntersF at en
  go_enter Tryz.func69, Tryz.ntmps69
  go_wp2_with fail
  refine H.out.mono ?_
  rintro e w2 ⟨v, rfl, hR⟩
  go_wp2_with fail
  go_ret
  exact ⟨_, rfl, hR⟩
set_option maxHeartbeats 4000000 in
set_option maxRecDepth 100000 in
theorem bini_s_nil (f1 f2 f3 f4 f5 f6 f7 : Nat) (l : ByteArray) (w : World) (R : Value → World → Prop) (en : EntersF f7) (h : Calls Tryz.prog f7 #[.iface 9 (.string l), .nilIface] w (Ret R)) :
    Calls Tryz.prog 69 #[.iface 9 (.string l), .nilIface, .func (.func f1) #[] #[], .func (.func f2) #[] #[], .func (.func f3) #[] #[], .func (.func f4) #[] #[], .func (.func f5) #[] #[], .func (.func f6) #[] #[], .func (.func f7) #[] #[]] w (Ret R) := by
  have H := Lib.hid h; clear h
  unfold EntersF at en
  go_enter Tryz.func69, Tryz.ntmps69
  go_wp2_with fail
  refine H.out.mono ?_
  rintro e w2 ⟨v, rfl, hR⟩
  go_wp2_with fail
  go_ret
  exact ⟨_, rfl, hR⟩
set_option maxHeartbeats 4000000 in
set_option maxRecDepth 100000 in
theorem bini_s_else (f1 f2 f3 f4 f5 f6 f7 : Nat) (l : ByteArray) (t : TypeId) (y : Value) (n0 : t ≠ 134) (n1 : t ≠ 9) (w : World) (R : Value → World → Prop) (en : EntersF f7) (h : Calls Tryz.prog f7 #[.iface 9 (.string l), .iface t y] w (Ret R)) :
    Calls Tryz.prog 69 #[.iface 9 (.string l), .iface t y, .func (.func f1) #[] #[], .func (.func f2) #[] #[], .func (.func f3) #[] #[], .func (.func f4) #[] #[], .func (.func f5) #[] #[], .func (.func f6) #[] #[], .func (.func f7) #[] #[]] w (Ret R) := by
  have H := Lib.hid h; clear h
  unfold EntersF at en
  go_enter Tryz.func69, Tryz.ntmps69
  go_wp2_with fail
  refine H.out.mono ?_
  rintro e w2 ⟨v, rfl, hR⟩
  go_wp2_with fail
  go_ret
  exact ⟨_, rfl, hR⟩
set_option maxHeartbeats 4000000 in
set_option maxRecDepth 100000 in
theorem bini_a_nil (f1 f2 f3 f4 f5 f6 f7 : Nat) (a : Option Addr) (n c : Nat) (w : World) (R : Value → World → Prop) (en : EntersF f7) (h : Calls Tryz.prog f7 #[.iface 49 (.slice a n c), .nilIface] w (Ret R)) :
    Calls Tryz.prog 69 #[.iface 49 (.slice a n c), .nilIface, .func (.func f1) #[] #[], .func (.func f2) #[] #[], .func (.func f3) #[] #[], .func (.func f4) #[] #[], .func (.func f5) #[] #[], .func (.func f6) #[] #[], .func (.func f7) #[] #[]] w (Ret R) := by
  have H := Lib.hid h; clear h
  unfold EntersF at en
  go_enter Tryz.func69, Tryz.ntmps69
  go_wp2_with fail
  refine H.out.mono ?_
  rintro e w2 ⟨v, rfl, hR⟩
  go_wp2_with fail
  go_ret
  exact ⟨_, rfl, hR⟩
set_option maxHeartbeats 4000000 in
set_option maxRecDepth 100000 in
theorem bini_a_else (f1 f2 f3 f4 f5 f6 f7 : Nat) (a : Option Addr) (n c : Nat) (t : TypeId) (y : Value) (n0 : t ≠ 134) (n1 : t ≠ 49) (w : World) (R : Value → World → Prop) (en : EntersF f7) (h : Calls Tryz.prog f7 #[.iface 49 (.slice a n c), .iface t y] w (Ret R)) :
    Calls Tryz.prog 69 #[.iface 49 (.slice a n c), .iface t y, .func (.func f1) #[] #[], .func (.func f2) #[] #[], .func (.func f3) #[] #[], .func (.func f4) #[] #[], .func (.func f5) #[] #[], .func (.func f6) #[] #[], .func (.func f7) #[] #[]] w (Ret R) := by
  have H := Lib.hid h; clear h
  unfold EntersF at en
  go_enter Tryz.func69, Tryz.ntmps69
  go_wp2_with fail
  refine H.out.mono ?_
  rintro e w2 ⟨v, rfl, hR⟩
  go_wp2_with fail
  go_ret
  exact ⟨_, rfl, hR⟩
set_option maxHeartbeats 4000000 in
set_option maxRecDepth 100000 in
theorem bini_m_nil (f1 f2 f3 f4 f5 f6 f7 : Nat) (r : Option Nat) (w : World) (R : Value → World → Prop) (en : EntersF f7) (h : Calls Tryz.prog f7 #[.iface 52 (.map r), .nilIface] w (Ret R)) :
    Calls Tryz.prog 69 #[.iface 52 (.map r), .nilIface, .func (.func f1) #[] #[], .func (.func f2) #[] #[], .func (.func f3) #[] #[], .func (.func f4) #[] #[], .func (.func f5) #[] #[], .func (.func f6) #[] #[], .func (.func f7) #[] #[]] w (Ret R) := by
  have H := Lib.hid h; clear h
  unfold EntersF at en
  go_enter Tryz.func69, Tryz.ntmps69
  go_wp2_with fail
  refine H.out.mono ?_
  rintro e w2 ⟨v, rfl, hR⟩
  go_wp2_with fail
  go_ret
  exact ⟨_, rfl, hR⟩
set_option maxHeartbeats 4000000 in
set_option maxRecDepth 100000 in
theorem bini_m_else (f1 f2 f3 f4 f5 f6 f7 : Nat) (r : Option Nat) (t : TypeId) (y : Value) (n0 : t ≠ 134) (n1 : t ≠ 52) (w : World) (R : Value → World → Prop) (en : EntersF f7) (h : Calls Tryz.prog f7 #[.iface 52 (.map r), .iface t y] w (Ret R)) :
    Calls Tryz.prog 69 #[.iface 52 (.map r), .iface t y, .func (.func f1) #[] #[], .func (.func f2) #[] #[], .func (.func f3) #[] #[], .func (.func f4) #[] #[], .func (.func f5) #[] #[], .func (.func f6) #[] #[], .func (.func f7) #[] #[]] w (Ret R) := by
  have H := Lib.hid h; clear h
  unfold EntersF at en
  go_enter Tryz.func69, Tryz.ntmps69
  go_wp2_with fail
  refine H.out.mono ?_
  rintro e w2 ⟨v, rfl, hR⟩
  go_wp2_with fail
  go_ret
  exact ⟨_, rfl, hR⟩
end Go.Proofs.YtpaebanmaboaiaaGreatDoor

namespace Go.Proofs.YtpaebanmaboaiaaGreatDoor
open Go Go.RowKit
def kindJ : J → Int
  | .null => 0
  | .bool b => if b then 2 else 1
  | .int _ => 3
  | .flt _ => 3
  | .str _ => 4
  | .arr _ => 5
  | .obj _ => 6
  | .hole => 0
theorem kindJ_toJ {k h : Int} {t : ByteArray} {l : List V} {ks : List ByteArray} {vs : List V} (hk : 0 ≤ k ∧ k ≤ 6) : kindJ (toJ (.mk k h t l ks vs)) = k := by
  rcases (show k = 0 ∨ k = 1 ∨ k = 2 ∨ k = 3 ∨ k = 4 ∨ k = 5 ∨ k = 6 by omega) with rfl | rfl | rfl | rfl | rfl | rfl | rfl
  all_goals
    unfold toJ
    try simp [kindJ]
  by_cases o : h.tmod 2 = 0 <;> simp [o]
theorem toJ_whole (v : V) : toJ v ≠ .hole := by
  obtain ⟨k, h, t, l, ks, vs⟩ := v
  unfold toJ
  repeat' split
  all_goals simp
theorem num_hb {h : Int} (o : h.tmod 2 = 0) : floatOfInt .f64 (h.tdiv 2) = hb h := by
  have e : 2 * h.tdiv 2 = h := by have := Int.mul_tdiv_add_tmod h 2; omega
  have := hb_int (h.tdiv 2)
  rw [e] at this
  exact this
theorem fitsH_half {h : Int} (g : halfB h = true) : FitsH h := by
  obtain ⟨h1, h2, h3⟩ := half_bounds g
  exact ⟨h1, h2, fun o => h3 (fun e => o (by have := Int.mul_tdiv_add_tmod h 2; omega))⟩
theorem num_flt {h : Int} (g : halfB h = true) (o : ¬ h.tmod 2 = 0) : halfBits h = hb h := by
  obtain ⟨h1, h2, h3⟩ := half_bounds g
  exact halfBits_hb (h3 o).1 (h3 o).2 (by rintro rfl; exact o rfl)
end Go.Proofs.YtpaebanmaboaiaaGreatDoor

namespace Go.Proofs.YtpaebanmaboaiaaGreatDoor
open Go Go.RowKit Go.Deep
attribute [local go_sem] assert_jsonNumber assert_jsonNumber_nil assert_int assert_int_nil assert_float64 assert_float64_nil assert_pbigInt assert_pbigInt_nil assert_string assert_string_nil assert_sl assert_sl_nil assert_m assert_m_nil assert_bool assert_bool_nil
theorem isNaN_int (n : Int) (w : World) : Calls Tryz.prog 95 #[.int .i64 n] w fun e w' => e = .returned (.bool false) ∧ w' = w := by
  go_enter Tryz.func95, Tryz.ntmps95
  go_wp2_with fail
  go_ret
  exact ⟨by simp, rfl⟩
theorem isNaN_str (s : ByteArray) (w : World) : Calls Tryz.prog 98 #[.string s] w fun e w' => e = .returned (.bool false) ∧ w' = w := by
  go_enter Tryz.func98, Tryz.ntmps98
  go_wp2_with fail
  go_ret
  exact ⟨by simp, rfl⟩
theorem isNaN_flt (x : Nat) (h : FloatKind.f64.format.order x x = some .eq) (w : World) : Calls Tryz.prog 96 #[.float .f64 x] w fun e w' => e = .returned (.bool false) ∧ w' = w := by
  go_enter Tryz.func96, Tryz.ntmps96
  go_wp2_with fail
  go_ret
  exact ⟨by simp, rfl⟩
theorem cmpi_any (a b : Int) (w : World) : Calls Tryz.prog 70 #[.int .i64 a, .int .i64 b] w fun e w' => e = .returned (.int .i64 (signI (a - b))) ∧ w' = w := by
  have N := Lib.hid isNaN_int
  rcases Int.lt_trichotomy a b with h | h | h
  · have e : signI (a - b) = -1 := by unfold signI; rw [if_pos (by omega)]
    rw [e]
    clear e
    go_enter Tryz.func70, Tryz.ntmps70
    go_wp2_with fail
    refine (N.out _ _).mono ?_
    rintro e w3 ⟨rfl, rfl⟩
    go_wp2_with fail
    refine (N.out _ _).mono ?_
    rintro e w3 ⟨rfl, rfl⟩
    go_wp2_with fail
    go_ret
    exact ⟨rfl, rfl⟩
  · have e : signI (a - b) = 0 := by unfold signI; rw [if_neg (by omega), if_neg (by omega)]
    have h1 : ¬ a < b := by omega
    have h2 : ¬ b < a := by omega
    rw [e]
    clear e h
    go_enter Tryz.func70, Tryz.ntmps70
    go_wp2_with fail
    refine (N.out _ _).mono ?_
    rintro e w3 ⟨rfl, rfl⟩
    go_wp2_with fail
    refine (N.out _ _).mono ?_
    rintro e w3 ⟨rfl, rfl⟩
    go_wp2_with fail
    go_ret
    exact ⟨rfl, rfl⟩
  · have e : signI (a - b) = 1 := by unfold signI; rw [if_neg (by omega), if_pos (by omega)]
    have h1 : ¬ a < b := by omega
    rw [e]
    clear e
    go_enter Tryz.func70, Tryz.ntmps70
    go_wp2_with fail
    refine (N.out _ _).mono ?_
    rintro e w3 ⟨rfl, rfl⟩
    go_wp2_with fail
    refine (N.out _ _).mono ?_
    rintro e w3 ⟨rfl, rfl⟩
    go_wp2_with fail
    go_ret
    exact ⟨rfl, rfl⟩
theorem cmps_any (a b : ByteArray) (w : World) : Calls Tryz.prog 74 #[.string a, .string b] w fun e w' => e = .returned (.int .i64 (textsC a b)) ∧ w' = w := by
  have N := Lib.hid isNaN_str
  have hsw : Op.bytesLess a.toList b.toList = false → (a.toList == b.toList) = !Op.bytesLess b.toList a.toList := by
    intro h
    by_cases e : a.toList = b.toList
    · rw [e, bLess_eq]; simp [List.lt_irrefl]
    · have : (a.toList == b.toList) = false := by simpa using e
      rw [this]
      rw [bLess_eq] at h ⊢
      simp only [decide_eq_false_iff_not] at h
      symm
      rw [Bool.not_eq_false', decide_eq_true_eq]
      exact Decidable.byContradiction fun h2 => e (List.le_antisymm (List.not_lt.1 h2) (List.not_lt.1 h))
  cases h : Op.bytesLess a.toList b.toList
  · have hs := hsw h
    cases h' : Op.bytesLess b.toList a.toList
    · have hc : textsC a b = 0 := by unfold textsC; rw [h, h']; rfl
      rw [hc]
      clear hc hsw
      rw [h'] at hs
      go_enter Tryz.func74, Tryz.ntmps74
      go_wp2_with fail
      refine (N.out _ _).mono ?_
      rintro e w3 ⟨rfl, rfl⟩
      go_wp2_with fail
      refine (N.out _ _).mono ?_
      rintro e w3 ⟨rfl, rfl⟩
      go_wp2_with fail
      go_ret
      exact ⟨rfl, rfl⟩
    · have hc : textsC a b = 1 := by unfold textsC; rw [h, h']; rfl
      rw [hc]
      clear hc hsw
      rw [h'] at hs
      go_enter Tryz.func74, Tryz.ntmps74
      go_wp2_with fail
      refine (N.out _ _).mono ?_
      rintro e w3 ⟨rfl, rfl⟩
      go_wp2_with fail
      refine (N.out _ _).mono ?_
      rintro e w3 ⟨rfl, rfl⟩
      go_wp2_with fail
      go_ret
      exact ⟨rfl, rfl⟩
  · have hc : textsC a b = -1 := by unfold textsC; rw [h]; rfl
    rw [hc]
    clear hc hsw
    go_enter Tryz.func74, Tryz.ntmps74
    go_wp2_with fail
    refine (N.out _ _).mono ?_
    rintro e w3 ⟨rfl, rfl⟩
    go_wp2_with fail
    refine (N.out _ _).mono ?_
    rintro e w3 ⟨rfl, rfl⟩
    go_wp2_with fail
    go_ret
    exact ⟨rfl, rfl⟩
theorem lt_any (x y : Nat) (o : Ordering) (hx : FloatKind.f64.format.order x x = some .eq) (ho : FloatKind.f64.format.order x y = some o) (w : World) :
    Calls Tryz.prog 72 #[.float .f64 x, .float .f64 y] w fun e w' => e = .returned (.bool (o == .lt)) ∧ w' = w := by
  have N := Lib.hid (isNaN_flt x hx)
  clear hx
  cases o
  all_goals
    go_enter Tryz.func72, Tryz.ntmps72
    go_wp2_with fail
    try refine (N.out _).mono ?_
    try rintro e w3 ⟨rfl, rfl⟩
    try go_wp2_with fail
    go_ret
    exact ⟨rfl, rfl⟩
def ordI : Ordering → Int
  | .lt => -1
  | .eq => 0
  | .gt => 1
theorem cmpf_any (x y : Nat) (o : Ordering) (hx : FloatKind.f64.format.order x x = some .eq) (ho : FloatKind.f64.format.order x y = some o) (w : World) :
    Calls Tryz.prog 71 #[.float .f64 x, .float .f64 y] w fun e w' => e = .returned (.int .i64 (ordI o)) ∧ w' = w := by
  have N := Lib.hid (lt_any x y o hx ho)
  clear hx
  cases o
  all_goals
    go_enter Tryz.func71, Tryz.ntmps71
    go_wp2_with fail
    refine (N.out _).mono ?_
    rintro e w3 ⟨rfl, rfl⟩
    go_wp2_with fail
    go_ret
    exact ⟨rfl, rfl⟩
theorem ordI_cmp (a b : Int) : ordI (compare a b) = signI (a - b) := by
  show ordI (compareOfLessAndEq a b) = _
  unfold compareOfLessAndEq signI
  by_cases h : a < b
  · rw [if_pos h, if_pos (show a - b < 0 by omega)]; rfl
  · rw [if_neg h, if_neg (show ¬ a - b < 0 by omega)]
    by_cases h2 : a = b
    · rw [if_pos h2, if_neg (show ¬ 0 < a - b by omega)]; rfl
    · rw [if_neg h2, if_pos (show 0 < a - b by omega)]; rfl
theorem cmpf_hb (a b : Int) (fa : FitsH a) (fb : FitsH b) (w : World) :
    Calls Tryz.prog 71 #[.float .f64 (hb a), .float .f64 (hb b)] w fun e w' => e = .returned (.int .i64 (signI (a - b))) ∧ w' = w := by
  rw [← ordI_cmp]
  exact cmpf_any _ _ _ ((order_hb (hb_isH fa) (hb_isH fa)).trans (by simp)) (order_hb (hb_isH fa) (hb_isH fb)) w
theorem kind_null (w : World) : Calls Tryz.prog 79 #[.nilIface] w fun e w' => e = .returned (.int .i64 0) ∧ w' = w := by
  go_enter Tryz.func79, Tryz.ntmps79
  go_wp2_with fail
  go_ret
  exact ⟨rfl, rfl⟩
theorem kind_bool (b : Bool) (w : World) : Calls Tryz.prog 79 #[.iface 4 (.bool b)] w fun e w' => e = .returned (.int .i64 (if b then 2 else 1)) ∧ w' = w := by
  cases b
  all_goals
    go_enter Tryz.func79, Tryz.ntmps79
    go_wp2_with fail
    go_ret
    exact ⟨rfl, rfl⟩
theorem kind_int (n : Int) (w : World) : Calls Tryz.prog 79 #[.iface 3 (.int .i64 n)] w fun e w' => e = .returned (.int .i64 3) ∧ w' = w := by
  go_enter Tryz.func79, Tryz.ntmps79
  go_wp2_with fail
  go_ret
  exact ⟨rfl, rfl⟩
theorem kind_flt (x : Nat) (w : World) : Calls Tryz.prog 79 #[.iface 48 (.float .f64 x)] w fun e w' => e = .returned (.int .i64 3) ∧ w' = w := by
  go_enter Tryz.func79, Tryz.ntmps79
  go_wp2_with fail
  go_ret
  exact ⟨rfl, rfl⟩
theorem kind_str (s : ByteArray) (w : World) : Calls Tryz.prog 79 #[.iface 9 (.string s)] w fun e w' => e = .returned (.int .i64 4) ∧ w' = w := by
  go_enter Tryz.func79, Tryz.ntmps79
  go_wp2_with fail
  go_ret
  exact ⟨rfl, rfl⟩
theorem kind_arr (a : Option Addr) (n c : Nat) (w : World) : Calls Tryz.prog 79 #[.iface 49 (.slice a n c)] w fun e w' => e = .returned (.int .i64 5) ∧ w' = w := by
  go_enter Tryz.func79, Tryz.ntmps79
  go_wp2_with fail
  go_ret
  exact ⟨rfl, rfl⟩
theorem kind_obj (r : Option Nat) (w : World) : Calls Tryz.prog 79 #[.iface 52 (.map r)] w fun e w' => e = .returned (.int .i64 6) ∧ w' = w := by
  go_enter Tryz.func79, Tryz.ntmps79
  go_wp2_with fail
  go_ret
  exact ⟨rfl, rfl⟩
theorem kind_any {w0 : World} {S : Nat → Prop} {j : J} {x : Value} (h : RepJ w0 S j x) (hh : j ≠ .hole) (w : World) : Calls Tryz.prog 79 #[x] w fun e w' => e = .returned (.int .i64 (kindJ j)) ∧ w' = w := by
  cases h with
  | null => exact kind_null w
  | bool _ b => exact kind_bool b w
  | int _ n => exact kind_int n w
  | flt _ x => exact kind_flt x w
  | str _ s => exact kind_str s w
  | arr => exact kind_arr _ _ _ w
  | obj => exact kind_obj _ w
  | hole => exact absurd rfl hh
theorem cmpk_any {w0 : World} {S S' : Nat → Prop} {j j' : J} {x y : Value} (h : RepJ w0 S j x) (hh : j ≠ .hole) (h' : RepJ w0 S' j' y) (hh' : j' ≠ .hole) (w : World) :
    Calls Tryz.prog 78 #[x, y] w fun e w' => e = .returned (.int .i64 (signI (kindJ j - kindJ j'))) ∧ w' = w := by
  have K1 := Lib.hid (kind_any h hh)
  have K2 := Lib.hid (kind_any h' hh')
  have C := Lib.hid (cmpi_any (kindJ j) (kindJ j'))
  clear h h' hh hh'
  go_enter Tryz.func78, Tryz.ntmps78
  go_wp2_with fail
  refine (K1.out _).mono ?_
  rintro e w3 ⟨rfl, rfl⟩
  clear K1
  go_wp2_with fail
  refine (K2.out _).mono ?_
  rintro e w3 ⟨rfl, rfl⟩
  clear K2
  go_wp2_with fail
  refine (C.out _).mono ?_
  rintro e w3 ⟨rfl, rfl⟩
  clear C
  go_wp2_with fail
  go_ret
  exact ⟨rfl, rfl⟩
end Go.Proofs.YtpaebanmaboaiaaGreatDoor

namespace Go.Proofs.YtpaebanmaboaiaaGreatDoor
open Go Go.RowKit Go.Deep
def CmpAt (w0 : World) (B : Nat) (x y : Value) (c : Int) : Prop :=
  ∀ w, Below B w0 w → B ≤ w.heap.size → Calls Tryz.prog 60 #[x, y] w (IntP w c)
/-- What a row's values are. -/
def CellsOf (w : World) (B : Nat) (a : Option Addr) (n : Nat) (f : Nat → Value) : Prop :=
  0 < n → ∃ b o, a = some ⟨b, o, none⟩ ∧ b < B ∧ ∀ i, i < n → w.cell? ⟨b, o + i, none⟩ = some (f i)
/-- The first that is not 0, or the sign of the lengths' difference. -/
def Firsts (n1 n2 : Nat) (C : Nat → Int) (rest : Nat → Int) : Prop :=
  (∀ n, n < n1 → n < n2 → rest n = if C n = 0 then rest (n + 1) else C n) ∧ ∀ n, (n1 ≤ n ∨ n2 ≤ n) → n ≤ n1 → n ≤ n2 → rest n = signI ((n1 : Int) - n2)
set_option maxHeartbeats 2000000 in
set_option maxRecDepth 100000 in
theorem arrs_of (w0 : World) (B n1 n2 : Nat) (a a' : Option Addr) (c c' : Nat) (f f' : Nat → Value) (cf : CellsOf w0 B a n1 f) (cf' : CellsOf w0 B a' n2 f') (of1 : ∀ i, i < n1 → (f i).oneCell' = true) (of2 : ∀ i, i < n2 → (f' i).oneCell' = true) (C rest : Nat → Int)
    (hC : ∀ i, i < n1 → i < n2 → CmpAt w0 B (f i) (f' i) (C i)) (hrest : Firsts n1 n2 C rest) (hl : n1 * 16 ≤ 140737488351232) (w : World) (hbel : Below B w0 w) (hB : B ≤ w.heap.size) :
    Calls Tryz.prog 75 #[.slice a n1 c, .slice a' n2 c'] w (IntP w (rest 0)) := by
  have K := Lib.hid (cmpi_any n1 n2)
  have Hcf := Lib.hid cf; clear cf
  have Hcf' := Lib.hid cf'; clear cf'
  have HC := Lib.hid hC; clear hC
  have Hrest := Lib.hid hrest; clear hrest
  have Hbel := Lib.hid hbel; clear hbel
  have Ho := Lib.hid of1; clear of1
  have Ho' := Lib.hid of2; clear of2
  obtain ⟨M, hM1, hM2, hM3, hm1⟩ : ∃ M : Nat, M ≤ n1 ∧ M ≤ n2 ∧ (M = n1 ∨ M = n2) ∧ (if (n2 : Int) < (n1 : Int) then (n2 : Int) else (n1 : Int)) = (M : Int) := by
    by_cases h : n2 < n1
    · exact ⟨n2, by omega, by omega, .inr rfl, by rw [if_pos (by omega)]⟩
    · exact ⟨n1, by omega, by omega, .inl rfl, by rw [if_neg (by omega)]⟩
  have hm2 : (if n2 < n1 then (n2 : Int) else (n1 : Int)) = (M : Int) := by
    rw [← hm1]
    by_cases h : n2 < n1
    · rw [if_pos h, if_pos (by omega)]
    · rw [if_neg h, if_neg (by omega)]
  have Hm3 := Lib.hid hM3; clear hM3
  go_enter Tryz.func75, Tryz.ntmps75
  go_wp2_with fail
  go_loopw [12] (fun i wr => TwoLoop w n1 n2 rest (rest 0) i wr) (fun i _ => M - (intOf i).toNat)
  case atStart => exact ⟨0, Nat.zero_le _, Nat.zero_le _, rfl, Below.refl _ _, rfl⟩
  case round =>
    obtain ⟨n, hn, hn', rfl, hb, hfin⟩ := hrel
    have Hfin := Lib.hid hfin; clear hfin
    by_cases h0 : n < M
    · have h1 : n < n1 := by omega
      have h2 : n < n2 := by omega
      obtain ⟨b1, o1, rfl, hb1, c1⟩ := Hcf.out (by omega)
      obtain ⟨b2, o2, rfl, hb2, c2⟩ := Hcf'.out (by omega)
      have hb0 : Below B w0 wr := Hbel.out.trans (hb.mono hB)
      have y1 : wr.cell? ⟨b1, o1 + n, none⟩ = some (f n) := (hb0.cell (p := ⟨b1, o1 + n, none⟩) hb1).trans (c1 n h1)
      have y2 : wr.cell? ⟨b2, o2 + n, none⟩ = some (f' n) := (hb0.cell (p := ⟨b2, o2 + n, none⟩) hb2).trans (c2 n h2)
      have q1 := Ho.out n h1
      have q2 := Ho'.out n h2
      have HI := Lib.hid (HC.out n h1 h2 wr.drew hb0.drew (by have := hb.size; show B ≤ wr.heap.size; omega))
      have hd := Hrest.out.1 n h1 h2
      have Hd := Lib.hid (Hfin.out.symm.trans hd); clear hd
      have u1 : (n : Int) < (n1 : Int) := by omega
      have u2 : (n : Int) < (n2 : Int) := by omega
      have u4 : (n : Int) < (M : Int) := by omega
      have u3 : (0 : Int) ≤ (n : Int) := by omega
      clear c1 c2 hb0
      go_wp2_with fail
      refine wp_region_tail 8 (by kernel_rfl) (by kernel_rfl) ?_
      simp only [List.take_succ_cons, List.take_zero, List.drop_succ_cons, List.drop_zero]
      repeat (go_big_quiet_step (fail))
      refine wpQuiet_nil ?_
      clear u1 u2 u3 u4 y1 y2
      go_wp2_with fail
      refine HI.out.mono ?_
      rintro e w2 ⟨rfl, hb3⟩
      have hb4 : Below w.heap.size w w2 := hb.drew.trans (hb3.mono hb.size)
      clear HI
      generalize C n = cc at Hd
      by_cases hc : cc = 0
      · have Hd2 := Lib.hid (Hd.out.trans (if_pos hc)); clear Hd
        subst hc
        go_wp2_with fail
        go_roundw
        case rel => exact ⟨n + 1, by omega, by omega, by go_num, hb4, Hd2.out.symm⟩
        case measure => simp [intOf]; omega
      · have Hd2 := Lib.hid (Hd.out.trans (if_neg hc)); clear Hd
        have tc : (cc != 0) = true := by simpa using hc
        clear hc
        go_wp2_with fail
        go_ret
        exact ⟨by rw [Hd2.out]; rfl, hb4⟩
    · have hd := Hrest.out.2 n (by have := Hm3.out; omega) hn hn'
      have Hd := Lib.hid (Hfin.out.symm.trans hd); clear hd
      have u4 : ¬ (n : Int) < (M : Int) := by omega
      go_wp2_with fail
      refine (K.out _).mono ?_
      rintro e w2 ⟨rfl, rfl⟩
      clear K
      go_wp2_with fail
      go_ret
      exact ⟨by rw [Hd.out]; rfl, hb⟩
end Go.Proofs.YtpaebanmaboaiaaGreatDoor
