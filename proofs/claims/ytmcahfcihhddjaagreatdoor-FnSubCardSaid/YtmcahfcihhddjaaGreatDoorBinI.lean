/- Contracts of gojq.binopTypeSwitch[int]: it hands on to one of its callbacks (printed by wip/gen_bin.py). -/
import Derived.Test.YtmcahfcihhddjaaGreatDoorBaseJ
import Derived.Test.YtmcahfcihhddjaaGreatDoorAsserts
import Derived.Test.YtmcahfcihhddjaaGreatDoorBin
namespace Go.Proofs.YtmcahfcihhddjaaGreatDoor
open Go Go.RowKit
attribute [local go_sem] assert_jsonNumber assert_jsonNumber_nil assert_int assert_int_nil assert_float64 assert_float64_nil assert_pbigInt assert_pbigInt_nil assert_string assert_string_nil assert_sl assert_sl_nil assert_m assert_m_nil assert_bool assert_bool_nil

set_option maxHeartbeats 4000000 in
set_option maxRecDepth 100000 in
theorem bini_ii (f1 f2 f3 f4 f5 f6 f7 : Nat) (l r : Int) (w : World) (R : Value → World → Prop) (en : EntersF f1) (h : Calls Tryz.prog f1 #[.int .i64 l, .int .i64 r] w (Ret R)) :
    Calls Tryz.prog 88 #[.iface 3 (.int .i64 l), .iface 3 (.int .i64 r), .func (.func f1) #[] #[], .func (.func f2) #[] #[], .func (.func f3) #[] #[], .func (.func f4) #[] #[], .func (.func f5) #[] #[], .func (.func f6) #[] #[], .func (.func f7) #[] #[]] w (Ret R) := by
  have H := Lib.hid h; clear h
  unfold EntersF at en
  go_enter Tryz.func88, Tryz.ntmps88
  go_wp2_with fail
  refine H.out.mono ?_
  rintro e w2 ⟨v, rfl, hR⟩
  go_wp2_with fail
  go_ret
  exact ⟨_, rfl, hR⟩

set_option maxHeartbeats 4000000 in
set_option maxRecDepth 100000 in
theorem bini_if (f1 f2 f3 f4 f5 f6 f7 : Nat) (l : Int) (r : Nat) (w : World) (R : Value → World → Prop) (en : EntersF f2) (h : Calls Tryz.prog f2 #[.float .f64 (floatOfInt .f64 l), .float .f64 r] w (Ret R)) :
    Calls Tryz.prog 88 #[.iface 3 (.int .i64 l), .iface 63 (.float .f64 r), .func (.func f1) #[] #[], .func (.func f2) #[] #[], .func (.func f3) #[] #[], .func (.func f4) #[] #[], .func (.func f5) #[] #[], .func (.func f6) #[] #[], .func (.func f7) #[] #[]] w (Ret R) := by
  have H := Lib.hid h; clear h
  unfold EntersF at en
  go_enter Tryz.func88, Tryz.ntmps88
  go_wp2_with fail
  refine H.out.mono ?_
  rintro e w2 ⟨v, rfl, hR⟩
  go_wp2_with fail
  go_ret
  exact ⟨_, rfl, hR⟩

set_option maxHeartbeats 4000000 in
set_option maxRecDepth 100000 in
theorem bini_fi (f1 f2 f3 f4 f5 f6 f7 : Nat) (l : Nat) (r : Int) (w : World) (R : Value → World → Prop) (en : EntersF f2) (h : Calls Tryz.prog f2 #[.float .f64 l, .float .f64 (floatOfInt .f64 r)] w (Ret R)) :
    Calls Tryz.prog 88 #[.iface 63 (.float .f64 l), .iface 3 (.int .i64 r), .func (.func f1) #[] #[], .func (.func f2) #[] #[], .func (.func f3) #[] #[], .func (.func f4) #[] #[], .func (.func f5) #[] #[], .func (.func f6) #[] #[], .func (.func f7) #[] #[]] w (Ret R) := by
  have H := Lib.hid h; clear h
  unfold EntersF at en
  go_enter Tryz.func88, Tryz.ntmps88
  go_wp2_with fail
  refine H.out.mono ?_
  rintro e w2 ⟨v, rfl, hR⟩
  go_wp2_with fail
  go_ret
  exact ⟨_, rfl, hR⟩

set_option maxHeartbeats 4000000 in
set_option maxRecDepth 100000 in
theorem bini_ff (f1 f2 f3 f4 f5 f6 f7 : Nat) (l r : Nat) (w : World) (R : Value → World → Prop) (en : EntersF f2) (h : Calls Tryz.prog f2 #[.float .f64 l, .float .f64 r] w (Ret R)) :
    Calls Tryz.prog 88 #[.iface 63 (.float .f64 l), .iface 63 (.float .f64 r), .func (.func f1) #[] #[], .func (.func f2) #[] #[], .func (.func f3) #[] #[], .func (.func f4) #[] #[], .func (.func f5) #[] #[], .func (.func f6) #[] #[], .func (.func f7) #[] #[]] w (Ret R) := by
  have H := Lib.hid h; clear h
  unfold EntersF at en
  go_enter Tryz.func88, Tryz.ntmps88
  go_wp2_with fail
  refine H.out.mono ?_
  rintro e w2 ⟨v, rfl, hR⟩
  go_wp2_with fail
  go_ret
  exact ⟨_, rfl, hR⟩

set_option maxHeartbeats 4000000 in
set_option maxRecDepth 100000 in
theorem bini_ss (f1 f2 f3 f4 f5 f6 f7 : Nat) (l r : ByteArray) (w : World) (R : Value → World → Prop) (en : EntersF f4) (h : Calls Tryz.prog f4 #[.string l, .string r] w (Ret R)) :
    Calls Tryz.prog 88 #[.iface 9 (.string l), .iface 9 (.string r), .func (.func f1) #[] #[], .func (.func f2) #[] #[], .func (.func f3) #[] #[], .func (.func f4) #[] #[], .func (.func f5) #[] #[], .func (.func f6) #[] #[], .func (.func f7) #[] #[]] w (Ret R) := by
  have H := Lib.hid h; clear h
  unfold EntersF at en
  go_enter Tryz.func88, Tryz.ntmps88
  go_wp2_with fail
  refine H.out.mono ?_
  rintro e w2 ⟨v, rfl, hR⟩
  go_wp2_with fail
  go_ret
  exact ⟨_, rfl, hR⟩

set_option maxHeartbeats 4000000 in
set_option maxRecDepth 100000 in
theorem bini_aa (f1 f2 f3 f4 f5 f6 f7 : Nat) (a a' : Option Addr) (n n' c c' : Nat) (w : World) (R : Value → World → Prop) (en : EntersF f5) (h : Calls Tryz.prog f5 #[.slice a n c, .slice a' n' c'] w (Ret R)) :
    Calls Tryz.prog 88 #[.iface 64 (.slice a n c), .iface 64 (.slice a' n' c'), .func (.func f1) #[] #[], .func (.func f2) #[] #[], .func (.func f3) #[] #[], .func (.func f4) #[] #[], .func (.func f5) #[] #[], .func (.func f6) #[] #[], .func (.func f7) #[] #[]] w (Ret R) := by
  have H := Lib.hid h; clear h
  unfold EntersF at en
  go_enter Tryz.func88, Tryz.ntmps88
  go_wp2_with fail
  refine H.out.mono ?_
  rintro e w2 ⟨v, rfl, hR⟩
  go_wp2_with fail
  go_ret
  exact ⟨_, rfl, hR⟩

set_option maxHeartbeats 4000000 in
set_option maxRecDepth 100000 in
theorem bini_mm (f1 f2 f3 f4 f5 f6 f7 : Nat) (r r' : Option Nat) (w : World) (R : Value → World → Prop) (en : EntersF f6) (h : Calls Tryz.prog f6 #[.map r, .map r'] w (Ret R)) :
    Calls Tryz.prog 88 #[.iface 67 (.map r), .iface 67 (.map r'), .func (.func f1) #[] #[], .func (.func f2) #[] #[], .func (.func f3) #[] #[], .func (.func f4) #[] #[], .func (.func f5) #[] #[], .func (.func f6) #[] #[], .func (.func f7) #[] #[]] w (Ret R) := by
  have H := Lib.hid h; clear h
  unfold EntersF at en
  go_enter Tryz.func88, Tryz.ntmps88
  go_wp2_with fail
  refine H.out.mono ?_
  rintro e w2 ⟨v, rfl, hR⟩
  go_wp2_with fail
  go_ret
  exact ⟨_, rfl, hR⟩

set_option maxHeartbeats 4000000 in
set_option maxRecDepth 100000 in
theorem bini_n_nil (f1 f2 f3 f4 f5 f6 f7 : Nat)  (w : World) (R : Value → World → Prop) (en : EntersF f7) (h : Calls Tryz.prog f7 #[.nilIface, .nilIface] w (Ret R)) :
    Calls Tryz.prog 88 #[.nilIface, .nilIface, .func (.func f1) #[] #[], .func (.func f2) #[] #[], .func (.func f3) #[] #[], .func (.func f4) #[] #[], .func (.func f5) #[] #[], .func (.func f6) #[] #[], .func (.func f7) #[] #[]] w (Ret R) := by
  have H := Lib.hid h; clear h
  unfold EntersF at en
  go_enter Tryz.func88, Tryz.ntmps88
  go_wp2_with fail
  refine H.out.mono ?_
  rintro e w2 ⟨v, rfl, hR⟩
  go_wp2_with fail
  go_ret
  exact ⟨_, rfl, hR⟩

set_option maxHeartbeats 4000000 in
set_option maxRecDepth 100000 in
theorem bini_n_else (f1 f2 f3 f4 f5 f6 f7 : Nat)  (t : TypeId) (y : Value) (n0 : t ≠ 116) (w : World) (R : Value → World → Prop) (en : EntersF f7) (h : Calls Tryz.prog f7 #[.nilIface, .iface t y] w (Ret R)) :
    Calls Tryz.prog 88 #[.nilIface, .iface t y, .func (.func f1) #[] #[], .func (.func f2) #[] #[], .func (.func f3) #[] #[], .func (.func f4) #[] #[], .func (.func f5) #[] #[], .func (.func f6) #[] #[], .func (.func f7) #[] #[]] w (Ret R) := by
  have H := Lib.hid h; clear h
  unfold EntersF at en
  go_enter Tryz.func88, Tryz.ntmps88
  go_wp2_with fail
  refine H.out.mono ?_
  rintro e w2 ⟨v, rfl, hR⟩
  go_wp2_with fail
  go_ret
  exact ⟨_, rfl, hR⟩

set_option maxHeartbeats 4000000 in
set_option maxRecDepth 100000 in
theorem bini_b_nil (f1 f2 f3 f4 f5 f6 f7 : Nat) (b : Bool) (w : World) (R : Value → World → Prop) (en : EntersF f7) (h : Calls Tryz.prog f7 #[.iface 4 (.bool b), .nilIface] w (Ret R)) :
    Calls Tryz.prog 88 #[.iface 4 (.bool b), .nilIface, .func (.func f1) #[] #[], .func (.func f2) #[] #[], .func (.func f3) #[] #[], .func (.func f4) #[] #[], .func (.func f5) #[] #[], .func (.func f6) #[] #[], .func (.func f7) #[] #[]] w (Ret R) := by
  have H := Lib.hid h; clear h
  unfold EntersF at en
  go_enter Tryz.func88, Tryz.ntmps88
  go_wp2_with fail
  refine H.out.mono ?_
  rintro e w2 ⟨v, rfl, hR⟩
  go_wp2_with fail
  go_ret
  exact ⟨_, rfl, hR⟩

set_option maxHeartbeats 4000000 in
set_option maxRecDepth 100000 in
theorem bini_b_else (f1 f2 f3 f4 f5 f6 f7 : Nat) (b : Bool) (t : TypeId) (y : Value) (n0 : t ≠ 116) (w : World) (R : Value → World → Prop) (en : EntersF f7) (h : Calls Tryz.prog f7 #[.iface 4 (.bool b), .iface t y] w (Ret R)) :
    Calls Tryz.prog 88 #[.iface 4 (.bool b), .iface t y, .func (.func f1) #[] #[], .func (.func f2) #[] #[], .func (.func f3) #[] #[], .func (.func f4) #[] #[], .func (.func f5) #[] #[], .func (.func f6) #[] #[], .func (.func f7) #[] #[]] w (Ret R) := by
  have H := Lib.hid h; clear h
  unfold EntersF at en
  go_enter Tryz.func88, Tryz.ntmps88
  go_wp2_with fail
  refine H.out.mono ?_
  rintro e w2 ⟨v, rfl, hR⟩
  go_wp2_with fail
  go_ret
  exact ⟨_, rfl, hR⟩

set_option maxHeartbeats 4000000 in
set_option maxRecDepth 100000 in
theorem bini_i_nil (f1 f2 f3 f4 f5 f6 f7 : Nat) (l : Int) (w : World) (R : Value → World → Prop) (en : EntersF f7) (h : Calls Tryz.prog f7 #[.iface 3 (.int .i64 l), .nilIface] w (Ret R)) :
    Calls Tryz.prog 88 #[.iface 3 (.int .i64 l), .nilIface, .func (.func f1) #[] #[], .func (.func f2) #[] #[], .func (.func f3) #[] #[], .func (.func f4) #[] #[], .func (.func f5) #[] #[], .func (.func f6) #[] #[], .func (.func f7) #[] #[]] w (Ret R) := by
  have H := Lib.hid h; clear h
  unfold EntersF at en
  go_enter Tryz.func88, Tryz.ntmps88
  go_wp2_with fail
  refine H.out.mono ?_
  rintro e w2 ⟨v, rfl, hR⟩
  go_wp2_with fail
  go_ret
  exact ⟨_, rfl, hR⟩

set_option maxHeartbeats 4000000 in
set_option maxRecDepth 100000 in
theorem bini_i_else (f1 f2 f3 f4 f5 f6 f7 : Nat) (l : Int) (t : TypeId) (y : Value) (n0 : t ≠ 116) (n1 : t ≠ 3) (n2 : t ≠ 63) (n3 : t ≠ 94) (w : World) (R : Value → World → Prop) (en : EntersF f7) (h : Calls Tryz.prog f7 #[.iface 3 (.int .i64 l), .iface t y] w (Ret R)) :
    Calls Tryz.prog 88 #[.iface 3 (.int .i64 l), .iface t y, .func (.func f1) #[] #[], .func (.func f2) #[] #[], .func (.func f3) #[] #[], .func (.func f4) #[] #[], .func (.func f5) #[] #[], .func (.func f6) #[] #[], .func (.func f7) #[] #[]] w (Ret R) := by
  have H := Lib.hid h; clear h
  unfold EntersF at en
  go_enter Tryz.func88, Tryz.ntmps88
  go_wp2_with fail
  refine H.out.mono ?_
  rintro e w2 ⟨v, rfl, hR⟩
  go_wp2_with fail
  go_ret
  exact ⟨_, rfl, hR⟩

set_option maxHeartbeats 4000000 in
set_option maxRecDepth 100000 in
theorem bini_f_nil (f1 f2 f3 f4 f5 f6 f7 : Nat) (l : Nat) (w : World) (R : Value → World → Prop) (en : EntersF f7) (h : Calls Tryz.prog f7 #[.iface 63 (.float .f64 l), .nilIface] w (Ret R)) :
    Calls Tryz.prog 88 #[.iface 63 (.float .f64 l), .nilIface, .func (.func f1) #[] #[], .func (.func f2) #[] #[], .func (.func f3) #[] #[], .func (.func f4) #[] #[], .func (.func f5) #[] #[], .func (.func f6) #[] #[], .func (.func f7) #[] #[]] w (Ret R) := by
  have H := Lib.hid h; clear h
  unfold EntersF at en
  go_enter Tryz.func88, Tryz.ntmps88
  go_wp2_with fail
  refine H.out.mono ?_
  rintro e w2 ⟨v, rfl, hR⟩
  go_wp2_with fail
  go_ret
  exact ⟨_, rfl, hR⟩

set_option maxHeartbeats 4000000 in
set_option maxRecDepth 100000 in
theorem bini_f_else (f1 f2 f3 f4 f5 f6 f7 : Nat) (l : Nat) (t : TypeId) (y : Value) (n0 : t ≠ 116) (n1 : t ≠ 3) (n2 : t ≠ 63) (n3 : t ≠ 94) (w : World) (R : Value → World → Prop) (en : EntersF f7) (h : Calls Tryz.prog f7 #[.iface 63 (.float .f64 l), .iface t y] w (Ret R)) :
    Calls Tryz.prog 88 #[.iface 63 (.float .f64 l), .iface t y, .func (.func f1) #[] #[], .func (.func f2) #[] #[], .func (.func f3) #[] #[], .func (.func f4) #[] #[], .func (.func f5) #[] #[], .func (.func f6) #[] #[], .func (.func f7) #[] #[]] w (Ret R) := by
  have H := Lib.hid h; clear h
  unfold EntersF at en
  go_enter Tryz.func88, Tryz.ntmps88
  go_wp2_with fail
  refine H.out.mono ?_
  rintro e w2 ⟨v, rfl, hR⟩
  go_wp2_with fail
  go_ret
  exact ⟨_, rfl, hR⟩

set_option maxHeartbeats 4000000 in
set_option maxRecDepth 100000 in
theorem bini_s_nil (f1 f2 f3 f4 f5 f6 f7 : Nat) (l : ByteArray) (w : World) (R : Value → World → Prop) (en : EntersF f7) (h : Calls Tryz.prog f7 #[.iface 9 (.string l), .nilIface] w (Ret R)) :
    Calls Tryz.prog 88 #[.iface 9 (.string l), .nilIface, .func (.func f1) #[] #[], .func (.func f2) #[] #[], .func (.func f3) #[] #[], .func (.func f4) #[] #[], .func (.func f5) #[] #[], .func (.func f6) #[] #[], .func (.func f7) #[] #[]] w (Ret R) := by
  have H := Lib.hid h; clear h
  unfold EntersF at en
  go_enter Tryz.func88, Tryz.ntmps88
  go_wp2_with fail
  refine H.out.mono ?_
  rintro e w2 ⟨v, rfl, hR⟩
  go_wp2_with fail
  go_ret
  exact ⟨_, rfl, hR⟩

set_option maxHeartbeats 4000000 in
set_option maxRecDepth 100000 in
theorem bini_s_else (f1 f2 f3 f4 f5 f6 f7 : Nat) (l : ByteArray) (t : TypeId) (y : Value) (n0 : t ≠ 116) (n1 : t ≠ 9) (w : World) (R : Value → World → Prop) (en : EntersF f7) (h : Calls Tryz.prog f7 #[.iface 9 (.string l), .iface t y] w (Ret R)) :
    Calls Tryz.prog 88 #[.iface 9 (.string l), .iface t y, .func (.func f1) #[] #[], .func (.func f2) #[] #[], .func (.func f3) #[] #[], .func (.func f4) #[] #[], .func (.func f5) #[] #[], .func (.func f6) #[] #[], .func (.func f7) #[] #[]] w (Ret R) := by
  have H := Lib.hid h; clear h
  unfold EntersF at en
  go_enter Tryz.func88, Tryz.ntmps88
  go_wp2_with fail
  refine H.out.mono ?_
  rintro e w2 ⟨v, rfl, hR⟩
  go_wp2_with fail
  go_ret
  exact ⟨_, rfl, hR⟩

set_option maxHeartbeats 4000000 in
set_option maxRecDepth 100000 in
theorem bini_a_nil (f1 f2 f3 f4 f5 f6 f7 : Nat) (a : Option Addr) (n c : Nat) (w : World) (R : Value → World → Prop) (en : EntersF f7) (h : Calls Tryz.prog f7 #[.iface 64 (.slice a n c), .nilIface] w (Ret R)) :
    Calls Tryz.prog 88 #[.iface 64 (.slice a n c), .nilIface, .func (.func f1) #[] #[], .func (.func f2) #[] #[], .func (.func f3) #[] #[], .func (.func f4) #[] #[], .func (.func f5) #[] #[], .func (.func f6) #[] #[], .func (.func f7) #[] #[]] w (Ret R) := by
  have H := Lib.hid h; clear h
  unfold EntersF at en
  go_enter Tryz.func88, Tryz.ntmps88
  go_wp2_with fail
  refine H.out.mono ?_
  rintro e w2 ⟨v, rfl, hR⟩
  go_wp2_with fail
  go_ret
  exact ⟨_, rfl, hR⟩

set_option maxHeartbeats 4000000 in
set_option maxRecDepth 100000 in
theorem bini_a_else (f1 f2 f3 f4 f5 f6 f7 : Nat) (a : Option Addr) (n c : Nat) (t : TypeId) (y : Value) (n0 : t ≠ 116) (n1 : t ≠ 64) (w : World) (R : Value → World → Prop) (en : EntersF f7) (h : Calls Tryz.prog f7 #[.iface 64 (.slice a n c), .iface t y] w (Ret R)) :
    Calls Tryz.prog 88 #[.iface 64 (.slice a n c), .iface t y, .func (.func f1) #[] #[], .func (.func f2) #[] #[], .func (.func f3) #[] #[], .func (.func f4) #[] #[], .func (.func f5) #[] #[], .func (.func f6) #[] #[], .func (.func f7) #[] #[]] w (Ret R) := by
  have H := Lib.hid h; clear h
  unfold EntersF at en
  go_enter Tryz.func88, Tryz.ntmps88
  go_wp2_with fail
  refine H.out.mono ?_
  rintro e w2 ⟨v, rfl, hR⟩
  go_wp2_with fail
  go_ret
  exact ⟨_, rfl, hR⟩

set_option maxHeartbeats 4000000 in
set_option maxRecDepth 100000 in
theorem bini_m_nil (f1 f2 f3 f4 f5 f6 f7 : Nat) (r : Option Nat) (w : World) (R : Value → World → Prop) (en : EntersF f7) (h : Calls Tryz.prog f7 #[.iface 67 (.map r), .nilIface] w (Ret R)) :
    Calls Tryz.prog 88 #[.iface 67 (.map r), .nilIface, .func (.func f1) #[] #[], .func (.func f2) #[] #[], .func (.func f3) #[] #[], .func (.func f4) #[] #[], .func (.func f5) #[] #[], .func (.func f6) #[] #[], .func (.func f7) #[] #[]] w (Ret R) := by
  have H := Lib.hid h; clear h
  unfold EntersF at en
  go_enter Tryz.func88, Tryz.ntmps88
  go_wp2_with fail
  refine H.out.mono ?_
  rintro e w2 ⟨v, rfl, hR⟩
  go_wp2_with fail
  go_ret
  exact ⟨_, rfl, hR⟩

set_option maxHeartbeats 4000000 in
set_option maxRecDepth 100000 in
theorem bini_m_else (f1 f2 f3 f4 f5 f6 f7 : Nat) (r : Option Nat) (t : TypeId) (y : Value) (n0 : t ≠ 116) (n1 : t ≠ 67) (w : World) (R : Value → World → Prop) (en : EntersF f7) (h : Calls Tryz.prog f7 #[.iface 67 (.map r), .iface t y] w (Ret R)) :
    Calls Tryz.prog 88 #[.iface 67 (.map r), .iface t y, .func (.func f1) #[] #[], .func (.func f2) #[] #[], .func (.func f3) #[] #[], .func (.func f4) #[] #[], .func (.func f5) #[] #[], .func (.func f6) #[] #[], .func (.func f7) #[] #[]] w (Ret R) := by
  have H := Lib.hid h; clear h
  unfold EntersF at en
  go_enter Tryz.func88, Tryz.ntmps88
  go_wp2_with fail
  refine H.out.mono ?_
  rintro e w2 ⟨v, rfl, hR⟩
  go_wp2_with fail
  go_ret
  exact ⟨_, rfl, hR⟩

end Go.Proofs.YtmcahfcihhddjaaGreatDoor
