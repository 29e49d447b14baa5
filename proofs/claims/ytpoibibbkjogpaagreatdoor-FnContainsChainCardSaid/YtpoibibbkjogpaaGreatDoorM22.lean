/- Contracts of gojq.binopTypeSwitch[any]: it hands on to one of its callbacks (printed by wip/gen_bin.py). -/
/- binopTypeSwitch[any] hands on to its callbacks: the way from what they say to what it says. -/
/- Callbacks of gojq.funcContains: what they answer where the second value is what is left of the first one. -/
/- Callbacks of gojq.funcContains at arrays: each element of the second is in an element of the first. -/
/- Callbacks of gojq.funcContains at floats, at texts and at values of two kinds. -/
import Derived.Test.YtpoibibbkjogpaaGreatDoorM02
import Derived.Test.YtpoibibbkjogpaaGreatDoorM03
import Derived.Test.YtpoibibbkjogpaaGreatDoorM20
namespace Go.Proofs.YtpoibibbkjogpaaGreatDoor
open Go Go.RowKit
attribute [local go_sem] assert_jsonNumber assert_jsonNumber_nil assert_int assert_int_nil assert_float64 assert_float64_nil assert_pbigInt assert_pbigInt_nil assert_string assert_string_nil assert_sl assert_sl_nil assert_m assert_m_nil assert_bool assert_bool_nil


set_option maxHeartbeats 4000000 in
set_option maxRecDepth 100000 in
theorem bin_ii (f1 f2 f3 f4 f5 f6 f7 : Nat) (l r : Int) (w : World) (R : Value → World → Prop) (en : EntersF f1) (h : Calls Tryz.prog f1 #[.int .i64 l, .int .i64 r] w (Ret R)) :
    Calls Tryz.prog 48 #[.iface 3 (.int .i64 l), .iface 3 (.int .i64 r), .func (.func f1) #[] #[], .func (.func f2) #[] #[], .func (.func f3) #[] #[], .func (.func f4) #[] #[], .func (.func f5) #[] #[], .func (.func f6) #[] #[], .func (.func f7) #[] #[]] w (Ret R) := by
  have H := Lib.hid h; clear h
  unfold EntersF at en
  go_enter Tryz.func48, Tryz.ntmps48
  go_wp2_with fail
  refine H.out.mono ?_
  rintro e w2 ⟨v, rfl, hR⟩
  go_wp2_with fail
  go_ret
  exact ⟨_, rfl, hR⟩

set_option maxHeartbeats 4000000 in
set_option maxRecDepth 100000 in
theorem bin_if (f1 f2 f3 f4 f5 f6 f7 : Nat) (l : Int) (r : Nat) (w : World) (R : Value → World → Prop) (en : EntersF f2) (h : Calls Tryz.prog f2 #[.float .f64 (floatOfInt .f64 l), .float .f64 r] w (Ret R)) :
    Calls Tryz.prog 48 #[.iface 3 (.int .i64 l), .iface 58 (.float .f64 r), .func (.func f1) #[] #[], .func (.func f2) #[] #[], .func (.func f3) #[] #[], .func (.func f4) #[] #[], .func (.func f5) #[] #[], .func (.func f6) #[] #[], .func (.func f7) #[] #[]] w (Ret R) := by
  have H := Lib.hid h; clear h
  unfold EntersF at en
  go_enter Tryz.func48, Tryz.ntmps48
  go_wp2_with fail
  refine H.out.mono ?_
  rintro e w2 ⟨v, rfl, hR⟩
  go_wp2_with fail
  go_ret
  exact ⟨_, rfl, hR⟩

set_option maxHeartbeats 4000000 in
set_option maxRecDepth 100000 in
theorem bin_fi (f1 f2 f3 f4 f5 f6 f7 : Nat) (l : Nat) (r : Int) (w : World) (R : Value → World → Prop) (en : EntersF f2) (h : Calls Tryz.prog f2 #[.float .f64 l, .float .f64 (floatOfInt .f64 r)] w (Ret R)) :
    Calls Tryz.prog 48 #[.iface 58 (.float .f64 l), .iface 3 (.int .i64 r), .func (.func f1) #[] #[], .func (.func f2) #[] #[], .func (.func f3) #[] #[], .func (.func f4) #[] #[], .func (.func f5) #[] #[], .func (.func f6) #[] #[], .func (.func f7) #[] #[]] w (Ret R) := by
  have H := Lib.hid h; clear h
  unfold EntersF at en
  go_enter Tryz.func48, Tryz.ntmps48
  go_wp2_with fail
  refine H.out.mono ?_
  rintro e w2 ⟨v, rfl, hR⟩
  go_wp2_with fail
  go_ret
  exact ⟨_, rfl, hR⟩

set_option maxHeartbeats 4000000 in
set_option maxRecDepth 100000 in
theorem bin_ff (f1 f2 f3 f4 f5 f6 f7 : Nat) (l r : Nat) (w : World) (R : Value → World → Prop) (en : EntersF f2) (h : Calls Tryz.prog f2 #[.float .f64 l, .float .f64 r] w (Ret R)) :
    Calls Tryz.prog 48 #[.iface 58 (.float .f64 l), .iface 58 (.float .f64 r), .func (.func f1) #[] #[], .func (.func f2) #[] #[], .func (.func f3) #[] #[], .func (.func f4) #[] #[], .func (.func f5) #[] #[], .func (.func f6) #[] #[], .func (.func f7) #[] #[]] w (Ret R) := by
  have H := Lib.hid h; clear h
  unfold EntersF at en
  go_enter Tryz.func48, Tryz.ntmps48
  go_wp2_with fail
  refine H.out.mono ?_
  rintro e w2 ⟨v, rfl, hR⟩
  go_wp2_with fail
  go_ret
  exact ⟨_, rfl, hR⟩

set_option maxHeartbeats 4000000 in
set_option maxRecDepth 100000 in
theorem bin_ss (f1 f2 f3 f4 f5 f6 f7 : Nat) (l r : ByteArray) (w : World) (R : Value → World → Prop) (en : EntersF f4) (h : Calls Tryz.prog f4 #[.string l, .string r] w (Ret R)) :
    Calls Tryz.prog 48 #[.iface 9 (.string l), .iface 9 (.string r), .func (.func f1) #[] #[], .func (.func f2) #[] #[], .func (.func f3) #[] #[], .func (.func f4) #[] #[], .func (.func f5) #[] #[], .func (.func f6) #[] #[], .func (.func f7) #[] #[]] w (Ret R) := by
  have H := Lib.hid h; clear h
  unfold EntersF at en
  go_enter Tryz.func48, Tryz.ntmps48
  go_wp2_with fail
  refine H.out.mono ?_
  rintro e w2 ⟨v, rfl, hR⟩
  go_wp2_with fail
  go_ret
  exact ⟨_, rfl, hR⟩

set_option maxHeartbeats 4000000 in
set_option maxRecDepth 100000 in
theorem bin_aa (f1 f2 f3 f4 f5 f6 f7 : Nat) (a a' : Option Addr) (n n' c c' : Nat) (w : World) (R : Value → World → Prop) (en : EntersF f5) (h : Calls Tryz.prog f5 #[.slice a n c, .slice a' n' c'] w (Ret R)) :
    Calls Tryz.prog 48 #[.iface 59 (.slice a n c), .iface 59 (.slice a' n' c'), .func (.func f1) #[] #[], .func (.func f2) #[] #[], .func (.func f3) #[] #[], .func (.func f4) #[] #[], .func (.func f5) #[] #[], .func (.func f6) #[] #[], .func (.func f7) #[] #[]] w (Ret R) := by
  have H := Lib.hid h; clear h
  unfold EntersF at en
  go_enter Tryz.func48, Tryz.ntmps48
  go_wp2_with fail
  refine H.out.mono ?_
  rintro e w2 ⟨v, rfl, hR⟩
  go_wp2_with fail
  go_ret
  exact ⟨_, rfl, hR⟩

set_option maxHeartbeats 4000000 in
set_option maxRecDepth 100000 in
theorem bin_mm (f1 f2 f3 f4 f5 f6 f7 : Nat) (r r' : Option Nat) (w : World) (R : Value → World → Prop) (en : EntersF f6) (h : Calls Tryz.prog f6 #[.map r, .map r'] w (Ret R)) :
    Calls Tryz.prog 48 #[.iface 62 (.map r), .iface 62 (.map r'), .func (.func f1) #[] #[], .func (.func f2) #[] #[], .func (.func f3) #[] #[], .func (.func f4) #[] #[], .func (.func f5) #[] #[], .func (.func f6) #[] #[], .func (.func f7) #[] #[]] w (Ret R) := by
  have H := Lib.hid h; clear h
  unfold EntersF at en
  go_enter Tryz.func48, Tryz.ntmps48
  go_wp2_with fail
  refine H.out.mono ?_
  rintro e w2 ⟨v, rfl, hR⟩
  go_wp2_with fail
  go_ret
  exact ⟨_, rfl, hR⟩

set_option maxHeartbeats 4000000 in
set_option maxRecDepth 100000 in
theorem bin_n_nil (f1 f2 f3 f4 f5 f6 f7 : Nat)  (w : World) (R : Value → World → Prop) (en : EntersF f7) (h : Calls Tryz.prog f7 #[.nilIface, .nilIface] w (Ret R)) :
    Calls Tryz.prog 48 #[.nilIface, .nilIface, .func (.func f1) #[] #[], .func (.func f2) #[] #[], .func (.func f3) #[] #[], .func (.func f4) #[] #[], .func (.func f5) #[] #[], .func (.func f6) #[] #[], .func (.func f7) #[] #[]] w (Ret R) := by
  have H := Lib.hid h; clear h
  unfold EntersF at en
  go_enter Tryz.func48, Tryz.ntmps48
  go_wp2_with fail
  refine H.out.mono ?_
  rintro e w2 ⟨v, rfl, hR⟩
  go_wp2_with fail
  go_ret
  exact ⟨_, rfl, hR⟩

set_option maxHeartbeats 4000000 in
set_option maxRecDepth 100000 in
theorem bin_n_else (f1 f2 f3 f4 f5 f6 f7 : Nat)  (t : TypeId) (y : Value) (n0 : t ≠ 119) (w : World) (R : Value → World → Prop) (en : EntersF f7) (h : Calls Tryz.prog f7 #[.nilIface, .iface t y] w (Ret R)) :
    Calls Tryz.prog 48 #[.nilIface, .iface t y, .func (.func f1) #[] #[], .func (.func f2) #[] #[], .func (.func f3) #[] #[], .func (.func f4) #[] #[], .func (.func f5) #[] #[], .func (.func f6) #[] #[], .func (.func f7) #[] #[]] w (Ret R) := by
  have H := Lib.hid h; clear h
  unfold EntersF at en
  go_enter Tryz.func48, Tryz.ntmps48
  go_wp2_with fail
  refine H.out.mono ?_
  rintro e w2 ⟨v, rfl, hR⟩
  go_wp2_with fail
  go_ret
  exact ⟨_, rfl, hR⟩

set_option maxHeartbeats 4000000 in
set_option maxRecDepth 100000 in
theorem bin_b_nil (f1 f2 f3 f4 f5 f6 f7 : Nat) (b : Bool) (w : World) (R : Value → World → Prop) (en : EntersF f7) (h : Calls Tryz.prog f7 #[.iface 4 (.bool b), .nilIface] w (Ret R)) :
    Calls Tryz.prog 48 #[.iface 4 (.bool b), .nilIface, .func (.func f1) #[] #[], .func (.func f2) #[] #[], .func (.func f3) #[] #[], .func (.func f4) #[] #[], .func (.func f5) #[] #[], .func (.func f6) #[] #[], .func (.func f7) #[] #[]] w (Ret R) := by
  have H := Lib.hid h; clear h
  unfold EntersF at en
  go_enter Tryz.func48, Tryz.ntmps48
  go_wp2_with fail
  refine H.out.mono ?_
  rintro e w2 ⟨v, rfl, hR⟩
  go_wp2_with fail
  go_ret
  exact ⟨_, rfl, hR⟩

set_option maxHeartbeats 4000000 in
set_option maxRecDepth 100000 in
theorem bin_b_else (f1 f2 f3 f4 f5 f6 f7 : Nat) (b : Bool) (t : TypeId) (y : Value) (n0 : t ≠ 119) (w : World) (R : Value → World → Prop) (en : EntersF f7) (h : Calls Tryz.prog f7 #[.iface 4 (.bool b), .iface t y] w (Ret R)) :
    Calls Tryz.prog 48 #[.iface 4 (.bool b), .iface t y, .func (.func f1) #[] #[], .func (.func f2) #[] #[], .func (.func f3) #[] #[], .func (.func f4) #[] #[], .func (.func f5) #[] #[], .func (.func f6) #[] #[], .func (.func f7) #[] #[]] w (Ret R) := by
  have H := Lib.hid h; clear h
  unfold EntersF at en
  go_enter Tryz.func48, Tryz.ntmps48
  go_wp2_with fail
  refine H.out.mono ?_
  rintro e w2 ⟨v, rfl, hR⟩
  go_wp2_with fail
  go_ret
  exact ⟨_, rfl, hR⟩

set_option maxHeartbeats 4000000 in
set_option maxRecDepth 100000 in
theorem bin_i_nil (f1 f2 f3 f4 f5 f6 f7 : Nat) (l : Int) (w : World) (R : Value → World → Prop) (en : EntersF f7) (h : Calls Tryz.prog f7 #[.iface 3 (.int .i64 l), .nilIface] w (Ret R)) :
    Calls Tryz.prog 48 #[.iface 3 (.int .i64 l), .nilIface, .func (.func f1) #[] #[], .func (.func f2) #[] #[], .func (.func f3) #[] #[], .func (.func f4) #[] #[], .func (.func f5) #[] #[], .func (.func f6) #[] #[], .func (.func f7) #[] #[]] w (Ret R) := by
  have H := Lib.hid h; clear h
  unfold EntersF at en
  go_enter Tryz.func48, Tryz.ntmps48
  go_wp2_with fail
  refine H.out.mono ?_
  rintro e w2 ⟨v, rfl, hR⟩
  go_wp2_with fail
  go_ret
  exact ⟨_, rfl, hR⟩

set_option maxHeartbeats 4000000 in
set_option maxRecDepth 100000 in
theorem bin_i_else (f1 f2 f3 f4 f5 f6 f7 : Nat) (l : Int) (t : TypeId) (y : Value) (n0 : t ≠ 119) (n1 : t ≠ 3) (n2 : t ≠ 58) (n3 : t ≠ 87) (w : World) (R : Value → World → Prop) (en : EntersF f7) (h : Calls Tryz.prog f7 #[.iface 3 (.int .i64 l), .iface t y] w (Ret R)) :
    Calls Tryz.prog 48 #[.iface 3 (.int .i64 l), .iface t y, .func (.func f1) #[] #[], .func (.func f2) #[] #[], .func (.func f3) #[] #[], .func (.func f4) #[] #[], .func (.func f5) #[] #[], .func (.func f6) #[] #[], .func (.func f7) #[] #[]] w (Ret R) := by
  have H := Lib.hid h; clear h
  unfold EntersF at en
  go_enter Tryz.func48, Tryz.ntmps48
  go_wp2_with fail
  refine H.out.mono ?_
  rintro e w2 ⟨v, rfl, hR⟩
  go_wp2_with fail
  go_ret
  exact ⟨_, rfl, hR⟩

set_option maxHeartbeats 4000000 in
set_option maxRecDepth 100000 in
theorem bin_f_nil (f1 f2 f3 f4 f5 f6 f7 : Nat) (l : Nat) (w : World) (R : Value → World → Prop) (en : EntersF f7) (h : Calls Tryz.prog f7 #[.iface 58 (.float .f64 l), .nilIface] w (Ret R)) :
    Calls Tryz.prog 48 #[.iface 58 (.float .f64 l), .nilIface, .func (.func f1) #[] #[], .func (.func f2) #[] #[], .func (.func f3) #[] #[], .func (.func f4) #[] #[], .func (.func f5) #[] #[], .func (.func f6) #[] #[], .func (.func f7) #[] #[]] w (Ret R) := by
  have H := Lib.hid h; clear h
  unfold EntersF at en
  go_enter Tryz.func48, Tryz.ntmps48
  go_wp2_with fail
  refine H.out.mono ?_
  rintro e w2 ⟨v, rfl, hR⟩
  go_wp2_with fail
  go_ret
  exact ⟨_, rfl, hR⟩

set_option maxHeartbeats 4000000 in
set_option maxRecDepth 100000 in
theorem bin_f_else (f1 f2 f3 f4 f5 f6 f7 : Nat) (l : Nat) (t : TypeId) (y : Value) (n0 : t ≠ 119) (n1 : t ≠ 3) (n2 : t ≠ 58) (n3 : t ≠ 87) (w : World) (R : Value → World → Prop) (en : EntersF f7) (h : Calls Tryz.prog f7 #[.iface 58 (.float .f64 l), .iface t y] w (Ret R)) :
    Calls Tryz.prog 48 #[.iface 58 (.float .f64 l), .iface t y, .func (.func f1) #[] #[], .func (.func f2) #[] #[], .func (.func f3) #[] #[], .func (.func f4) #[] #[], .func (.func f5) #[] #[], .func (.func f6) #[] #[], .func (.func f7) #[] #[]] w (Ret R) := by
  have H := Lib.hid h; clear h
  unfold EntersF at en
  go_enter Tryz.func48, Tryz.ntmps48
  go_wp2_with fail
  refine H.out.mono ?_
  rintro e w2 ⟨v, rfl, hR⟩
  go_wp2_with fail
  go_ret
  exact ⟨_, rfl, hR⟩

set_option maxHeartbeats 4000000 in
set_option maxRecDepth 100000 in
theorem bin_s_nil (f1 f2 f3 f4 f5 f6 f7 : Nat) (l : ByteArray) (w : World) (R : Value → World → Prop) (en : EntersF f7) (h : Calls Tryz.prog f7 #[.iface 9 (.string l), .nilIface] w (Ret R)) :
    Calls Tryz.prog 48 #[.iface 9 (.string l), .nilIface, .func (.func f1) #[] #[], .func (.func f2) #[] #[], .func (.func f3) #[] #[], .func (.func f4) #[] #[], .func (.func f5) #[] #[], .func (.func f6) #[] #[], .func (.func f7) #[] #[]] w (Ret R) := by
  have H := Lib.hid h; clear h
  unfold EntersF at en
  go_enter Tryz.func48, Tryz.ntmps48
  go_wp2_with fail
  refine H.out.mono ?_
  rintro e w2 ⟨v, rfl, hR⟩
  go_wp2_with fail
  go_ret
  exact ⟨_, rfl, hR⟩

set_option maxHeartbeats 4000000 in
set_option maxRecDepth 100000 in
theorem bin_s_else (f1 f2 f3 f4 f5 f6 f7 : Nat) (l : ByteArray) (t : TypeId) (y : Value) (n0 : t ≠ 119) (n1 : t ≠ 9) (w : World) (R : Value → World → Prop) (en : EntersF f7) (h : Calls Tryz.prog f7 #[.iface 9 (.string l), .iface t y] w (Ret R)) :
    Calls Tryz.prog 48 #[.iface 9 (.string l), .iface t y, .func (.func f1) #[] #[], .func (.func f2) #[] #[], .func (.func f3) #[] #[], .func (.func f4) #[] #[], .func (.func f5) #[] #[], .func (.func f6) #[] #[], .func (.func f7) #[] #[]] w (Ret R) := by
  have H := Lib.hid h; clear h
  unfold EntersF at en
  go_enter Tryz.func48, Tryz.ntmps48
  go_wp2_with fail
  refine H.out.mono ?_
  rintro e w2 ⟨v, rfl, hR⟩
  go_wp2_with fail
  go_ret
  exact ⟨_, rfl, hR⟩

set_option maxHeartbeats 4000000 in
set_option maxRecDepth 100000 in
theorem bin_a_nil (f1 f2 f3 f4 f5 f6 f7 : Nat) (a : Option Addr) (n c : Nat) (w : World) (R : Value → World → Prop) (en : EntersF f7) (h : Calls Tryz.prog f7 #[.iface 59 (.slice a n c), .nilIface] w (Ret R)) :
    Calls Tryz.prog 48 #[.iface 59 (.slice a n c), .nilIface, .func (.func f1) #[] #[], .func (.func f2) #[] #[], .func (.func f3) #[] #[], .func (.func f4) #[] #[], .func (.func f5) #[] #[], .func (.func f6) #[] #[], .func (.func f7) #[] #[]] w (Ret R) := by
  have H := Lib.hid h; clear h
  unfold EntersF at en
  go_enter Tryz.func48, Tryz.ntmps48
  go_wp2_with fail
  refine H.out.mono ?_
  rintro e w2 ⟨v, rfl, hR⟩
  go_wp2_with fail
  go_ret
  exact ⟨_, rfl, hR⟩

set_option maxHeartbeats 4000000 in
set_option maxRecDepth 100000 in
theorem bin_a_else (f1 f2 f3 f4 f5 f6 f7 : Nat) (a : Option Addr) (n c : Nat) (t : TypeId) (y : Value) (n0 : t ≠ 119) (n1 : t ≠ 59) (w : World) (R : Value → World → Prop) (en : EntersF f7) (h : Calls Tryz.prog f7 #[.iface 59 (.slice a n c), .iface t y] w (Ret R)) :
    Calls Tryz.prog 48 #[.iface 59 (.slice a n c), .iface t y, .func (.func f1) #[] #[], .func (.func f2) #[] #[], .func (.func f3) #[] #[], .func (.func f4) #[] #[], .func (.func f5) #[] #[], .func (.func f6) #[] #[], .func (.func f7) #[] #[]] w (Ret R) := by
  have H := Lib.hid h; clear h
  unfold EntersF at en
  go_enter Tryz.func48, Tryz.ntmps48
  go_wp2_with fail
  refine H.out.mono ?_
  rintro e w2 ⟨v, rfl, hR⟩
  go_wp2_with fail
  go_ret
  exact ⟨_, rfl, hR⟩

set_option maxHeartbeats 4000000 in
set_option maxRecDepth 100000 in
theorem bin_m_nil (f1 f2 f3 f4 f5 f6 f7 : Nat) (r : Option Nat) (w : World) (R : Value → World → Prop) (en : EntersF f7) (h : Calls Tryz.prog f7 #[.iface 62 (.map r), .nilIface] w (Ret R)) :
    Calls Tryz.prog 48 #[.iface 62 (.map r), .nilIface, .func (.func f1) #[] #[], .func (.func f2) #[] #[], .func (.func f3) #[] #[], .func (.func f4) #[] #[], .func (.func f5) #[] #[], .func (.func f6) #[] #[], .func (.func f7) #[] #[]] w (Ret R) := by
  have H := Lib.hid h; clear h
  unfold EntersF at en
  go_enter Tryz.func48, Tryz.ntmps48
  go_wp2_with fail
  refine H.out.mono ?_
  rintro e w2 ⟨v, rfl, hR⟩
  go_wp2_with fail
  go_ret
  exact ⟨_, rfl, hR⟩

set_option maxHeartbeats 4000000 in
set_option maxRecDepth 100000 in
theorem bin_m_else (f1 f2 f3 f4 f5 f6 f7 : Nat) (r : Option Nat) (t : TypeId) (y : Value) (n0 : t ≠ 119) (n1 : t ≠ 62) (w : World) (R : Value → World → Prop) (en : EntersF f7) (h : Calls Tryz.prog f7 #[.iface 62 (.map r), .iface t y] w (Ret R)) :
    Calls Tryz.prog 48 #[.iface 62 (.map r), .iface t y, .func (.func f1) #[] #[], .func (.func f2) #[] #[], .func (.func f3) #[] #[], .func (.func f4) #[] #[], .func (.func f5) #[] #[], .func (.func f6) #[] #[], .func (.func f7) #[] #[]] w (Ret R) := by
  have H := Lib.hid h; clear h
  unfold EntersF at en
  go_enter Tryz.func48, Tryz.ntmps48
  go_wp2_with fail
  refine H.out.mono ?_
  rintro e w2 ⟨v, rfl, hR⟩
  go_wp2_with fail
  go_ret
  exact ⟨_, rfl, hR⟩

end Go.Proofs.YtpoibibbkjogpaaGreatDoor

namespace Go.Proofs.YtpoibibbkjogpaaGreatDoor
open Go Go.RowKit Go.Deep

/-- What is to be said of the callbacks f1 .. f7. -/
def DispA (f1 f2 f4 f5 f6 f7 : Nat) (j k : J) (x y : Value) (R : Value → World → Prop) (w : World) : Prop :=
  match j, k with
  | .int l, .int r => -9223372036854775808 ≤ l ∧ l ≤ 9223372036854775807 → -9223372036854775808 ≤ r ∧ r ≤ 9223372036854775807 → Calls Tryz.prog f1 #[.int .i64 l, .int .i64 r] w (Ret R)
  | .int l, .flt r => Calls Tryz.prog f2 #[.float .f64 (floatOfInt .f64 l), .float .f64 r] w (Ret R)
  | .flt l, .int r => Calls Tryz.prog f2 #[.float .f64 l, .float .f64 (floatOfInt .f64 r)] w (Ret R)
  | .flt l, .flt r => Calls Tryz.prog f2 #[.float .f64 l, .float .f64 r] w (Ret R)
  | .str s, .str t => Calls Tryz.prog f4 #[.string s, .string t] w (Ret R)
  | .arr _, .arr _ => ∀ a n k a' n' k', x = .iface 59 (.slice a n k) → y = .iface 59 (.slice a' n' k') → Calls Tryz.prog f5 #[.slice a n k, .slice a' n' k'] w (Ret R)
  | .obj _, .obj _ => ∀ r r', x = .iface 62 (.map (some r)) → y = .iface 62 (.map (some r')) → Calls Tryz.prog f6 #[.map (some r), .map (some r')] w (Ret R)
  | .hole, _ => False
  | _, .hole => False
  | _, _ => Calls Tryz.prog f7 #[x, y] w (Ret R)

set_option maxHeartbeats 4000000 in
set_option maxRecDepth 100000 in
theorem bin_disp (f1 f2 f3 f4 f5 f6 f7 : Nat) (e1 : EntersF f1) (e2 : EntersF f2) (e4 : EntersF f4) (e5 : EntersF f5) (e6 : EntersF f6) (e7 : EntersF f7) {w0 : World} {S S' : Nat → Prop} {j k : J} {x y : Value} (hx : RepJ w0 S j x) (hy : RepJ w0 S' k y) (R : Value → World → Prop) (w : World) (h : DispA f1 f2 f4 f5 f6 f7 j k x y R w) :
    Calls Tryz.prog 48 #[x, y, .func (.func f1) #[] #[], .func (.func f2) #[] #[], .func (.func f3) #[] #[], .func (.func f4) #[] #[], .func (.func f5) #[] #[], .func (.func f6) #[] #[], .func (.func f7) #[] #[]] w (Ret R) := by
  cases hx with
  | null => cases hy with
    | null => exact bin_n_nil _ _ _ _ _ _ _ w _ e7 h
    | bool => exact bin_n_else _ _ _ _ _ _ _ _ _ (by decide) w _ e7 h
    | int => exact bin_n_else _ _ _ _ _ _ _ _ _ (by decide) w _ e7 h
    | flt => exact bin_n_else _ _ _ _ _ _ _ _ _ (by decide) w _ e7 h
    | str => exact bin_n_else _ _ _ _ _ _ _ _ _ (by decide) w _ e7 h
    | arr => exact bin_n_else _ _ _ _ _ _ _ _ _ (by decide) w _ e7 h
    | obj => exact bin_n_else _ _ _ _ _ _ _ _ _ (by decide) w _ e7 h
    | hole => exact absurd h (by simp [DispA])
  | bool _ b => cases hy with
    | null => exact bin_b_nil _ _ _ _ _ _ _ _ w _ e7 h
    | bool => exact bin_b_else _ _ _ _ _ _ _ _ _ _ (by decide) w _ e7 h
    | int => exact bin_b_else _ _ _ _ _ _ _ _ _ _ (by decide) w _ e7 h
    | flt => exact bin_b_else _ _ _ _ _ _ _ _ _ _ (by decide) w _ e7 h
    | str => exact bin_b_else _ _ _ _ _ _ _ _ _ _ (by decide) w _ e7 h
    | arr => exact bin_b_else _ _ _ _ _ _ _ _ _ _ (by decide) w _ e7 h
    | obj => exact bin_b_else _ _ _ _ _ _ _ _ _ _ (by decide) w _ e7 h
    | hole => exact absurd h (by simp [DispA])
  | int _ l hl => cases hy with
    | null => exact bin_i_nil _ _ _ _ _ _ _ _ w _ e7 h
    | bool => exact bin_i_else _ _ _ _ _ _ _ _ _ _ (by decide) (by decide) (by decide) (by decide) w _ e7 h
    | int _ _ hr => exact bin_ii _ _ _ _ _ _ _ _ _ w _ e1 (h hl hr)
    | flt => exact bin_if _ _ _ _ _ _ _ _ _ w _ e2 (h)
    | str => exact bin_i_else _ _ _ _ _ _ _ _ _ _ (by decide) (by decide) (by decide) (by decide) w _ e7 h
    | arr => exact bin_i_else _ _ _ _ _ _ _ _ _ _ (by decide) (by decide) (by decide) (by decide) w _ e7 h
    | obj => exact bin_i_else _ _ _ _ _ _ _ _ _ _ (by decide) (by decide) (by decide) (by decide) w _ e7 h
    | hole => exact absurd h (by simp [DispA])
  | flt _ l => cases hy with
    | null => exact bin_f_nil _ _ _ _ _ _ _ _ w _ e7 h
    | bool => exact bin_f_else _ _ _ _ _ _ _ _ _ _ (by decide) (by decide) (by decide) (by decide) w _ e7 h
    | int => exact bin_fi _ _ _ _ _ _ _ _ _ w _ e2 (h)
    | flt => exact bin_ff _ _ _ _ _ _ _ _ _ w _ e2 (h)
    | str => exact bin_f_else _ _ _ _ _ _ _ _ _ _ (by decide) (by decide) (by decide) (by decide) w _ e7 h
    | arr => exact bin_f_else _ _ _ _ _ _ _ _ _ _ (by decide) (by decide) (by decide) (by decide) w _ e7 h
    | obj => exact bin_f_else _ _ _ _ _ _ _ _ _ _ (by decide) (by decide) (by decide) (by decide) w _ e7 h
    | hole => exact absurd h (by simp [DispA])
  | str _ s => cases hy with
    | null => exact bin_s_nil _ _ _ _ _ _ _ _ w _ e7 h
    | bool => exact bin_s_else _ _ _ _ _ _ _ _ _ _ (by decide) (by decide) w _ e7 h
    | int => exact bin_s_else _ _ _ _ _ _ _ _ _ _ (by decide) (by decide) w _ e7 h
    | flt => exact bin_s_else _ _ _ _ _ _ _ _ _ _ (by decide) (by decide) w _ e7 h
    | str => exact bin_ss _ _ _ _ _ _ _ _ _ w _ e4 (h)
    | arr => exact bin_s_else _ _ _ _ _ _ _ _ _ _ (by decide) (by decide) w _ e7 h
    | obj => exact bin_s_else _ _ _ _ _ _ _ _ _ _ (by decide) (by decide) w _ e7 h
    | hole => exact absurd h (by simp [DispA])
  | arr => cases hy with
    | null => exact bin_a_nil _ _ _ _ _ _ _ _ _ _ w _ e7 h
    | bool => exact bin_a_else _ _ _ _ _ _ _ _ _ _ _ _ (by decide) (by decide) w _ e7 h
    | int => exact bin_a_else _ _ _ _ _ _ _ _ _ _ _ _ (by decide) (by decide) w _ e7 h
    | flt => exact bin_a_else _ _ _ _ _ _ _ _ _ _ _ _ (by decide) (by decide) w _ e7 h
    | str => exact bin_a_else _ _ _ _ _ _ _ _ _ _ _ _ (by decide) (by decide) w _ e7 h
    | arr => exact bin_aa _ _ _ _ _ _ _ _ _ _ _ _ _ w _ e5 (h _ _ _ _ _ _ rfl rfl)
    | obj => exact bin_a_else _ _ _ _ _ _ _ _ _ _ _ _ (by decide) (by decide) w _ e7 h
    | hole => exact absurd h (by simp [DispA])
  | obj => cases hy with
    | null => exact bin_m_nil _ _ _ _ _ _ _ _ w _ e7 h
    | bool => exact bin_m_else _ _ _ _ _ _ _ _ _ _ (by decide) (by decide) w _ e7 h
    | int => exact bin_m_else _ _ _ _ _ _ _ _ _ _ (by decide) (by decide) w _ e7 h
    | flt => exact bin_m_else _ _ _ _ _ _ _ _ _ _ (by decide) (by decide) w _ e7 h
    | str => exact bin_m_else _ _ _ _ _ _ _ _ _ _ (by decide) (by decide) w _ e7 h
    | arr => exact bin_m_else _ _ _ _ _ _ _ _ _ _ (by decide) (by decide) w _ e7 h
    | obj => exact bin_mm _ _ _ _ _ _ _ _ _ w _ e6 (h _ _ rfl rfl)
    | hole => exact absurd h (by simp [DispA])
  | hole => exact absurd h (by simp [DispA])

end Go.Proofs.YtpoibibbkjogpaaGreatDoor

namespace Go.Proofs.YtpoibibbkjogpaaGreatDoor
open Go Go.RowKit Go.Maps Go.Deep

/-- A bool or an error; true where P. -/
def ContR (w : World) (P : Prop) (u : Value) (w' : World) : Prop := Below w.heap.size w w' ∧ ((∃ b, u = .iface 4 (.bool b)) ∨ ErrV u) ∧ (P → u = .iface 4 (.bool true))
def ContC (w0 : World) (B : Nat) (x y : Value) (P : Prop) : Prop := ∀ w, Below B w0 w → B ≤ w.heap.size → Calls Tryz.prog 36 #[x, y] w (Ret (ContR w P))
/-- The elements of an array, read. -/
def CellsC (w0 : World) (B : Nat) (a : Option Addr) (n : Nat) (f : Nat → Value) : Prop := 0 < n → ∃ b o, a = some ⟨b, o, none⟩ ∧ b < B ∧ ∀ i, i < n → w0.cell? ⟨b, o + i, none⟩ = some (f i)
theorem eql_true (b : Bool) (w : World) : (binOp .eql 20 (.iface 4 (.bool b)) (.iface 4 (.bool true))).run Tryz.prog w = .ok (.bool b) w := by
  cases b <;> kernel_rfl
theorem eql_err (t : TypeId) (v : Value) (ht : t ≠ 4) (w : World) : (binOp .eql 20 (.iface t v) (.iface 4 (.bool true))).run Tryz.prog w = .ok (.bool false) w := by
  have h : (Op.equalIn 10000 20 (.iface t v) (.iface 4 (.bool true))).run Tryz.prog w = .ok false w := by
    rw [show (10000 : Nat) = 9999 + 1 from rfl, Op.equalIn]
    simp [run_underlying Tryz.underlying20, Result.andThen, ht]
  show (Sem.run Tryz.prog ((Op.equalIn 10000 20 (.iface t v) (.iface 4 (.bool true))) >>= fun b => pure (Value.bool b)) w) = _
  simp [h, Result.andThen]
theorem neq_true (b : Bool) (w : World) : (binOp .neq 20 (.iface 4 (.bool b)) (.iface 4 (.bool true))).run Tryz.prog w = .ok (.bool (!b)) w := by
  cases b <;> kernel_rfl

theorem cont_ints (l r : Int) (w : World) : Calls Tryz.prog 49 #[.int .i64 l, .int .i64 r] w (Ret (ContR w (l = r))) := by
  go_enter Tryz.func49, Tryz.ntmps49
  go_wp2_with fail
  go_ret
  exact ⟨_, rfl, Below.refl _ _, .inl ⟨_, rfl⟩, fun h => by rw [h]; simp⟩
theorem cont_strs (l r : ByteArray) (w : World) (_ : l.size ≤ 140737488351232) (_ : r.size ≤ 140737488351232) (H : Calls Tryz.prog 54 #[.string l, .string r] w fun e w' => ∃ b, e = .returned (.bool b) ∧ Below w.heap.size w w' ∧ (l = r → b = true)) :
    Calls Tryz.prog 53 #[.string l, .string r] w (Ret (ContR w (l = r))) := by
  go_enter Tryz.func53, Tryz.ntmps53
  go_wp2_with fail
  refine H.mono ?_
  rintro e w1 ⟨b, rfl, hb, he⟩
  have He := Lib.hid he
  clear he
  go_wp2_with fail
  go_ret
  exact ⟨_, rfl, hb, .inl ⟨_, rfl⟩, fun h => by rw [He.out h]; rfl⟩

end Go.Proofs.YtpoibibbkjogpaaGreatDoor

namespace Go.Proofs.YtpoibibbkjogpaaGreatDoor
open Go Go.RowKit Go.Maps Go.Deep

def ContIn (wo : World) (n : Nat) (P : Nat → Prop) (i : Value) (wr : World) : Prop := ∃ m : Nat, m ≤ n ∧ i = .int .i64 (m : Nat) ∧ Below wo.heap.size wo wr ∧ ∀ q, q < m → ¬ P q
def ContOut (w : World) (n : Nat) (i : Value) (wr : World) : Prop := ∃ m : Nat, m ≤ n ∧ i = .int .i64 (m : Nat) ∧ Below w.heap.size w wr

set_option maxHeartbeats 4000000 in
set_option maxRecDepth 100000 in
theorem cont_arrs (w0 : World) (B : Nat) (n n' : Nat) (a a' : Option Addr) (c c' : Nat) (f f' : Nat → Value) (cf : CellsC w0 B a n f) (cf' : CellsC w0 B a' n' f') (of1 : ∀ i, i < n → IsI (f i)) (of2 : ∀ i, i < n' → IsI (f' i)) (hn : n ≤ 140737488351232) (hn' : n' ≤ 140737488351232) (P : Nat → Nat → Prop)
    (hC : ∀ i j, i < n → j < n' → ContC w0 B (f i) (f' j) (P i j)) (w : World) (hbel : Below B w0 w) (hB : B ≤ w.heap.size) :
    Calls Tryz.prog 55 #[.slice a n c, .slice a' n' c'] w (Ret (ContR w (∀ j, j < n' → ∃ i, i < n ∧ P i j))) := by
  have Hcf := Lib.hid cf; clear cf
  have Hcf' := Lib.hid cf'; clear cf'
  have HC := Lib.hid hC; clear hC
  have Ho := Lib.hid of1; clear of1
  have Ho' := Lib.hid of2; clear of2
  have Hbel := Lib.hid hbel; clear hbel
  go_enter Tryz.func55, Tryz.ntmps55
  go_wp2_with fail
  go_step3
  go_wp2_with fail
  go_step3
  go_wp2_with fail
  go_loopw [11] (fun i wr => ContOut w n' i wr) (fun i _ => n' - (intOf i).toNat)
  case atStart => exact ⟨0, Nat.zero_le _, rfl, Below.refl _ _⟩
  case round =>
    obtain ⟨j, hj, rfl, hb⟩ := hrel
    have hs := hb.size
    by_cases hj' : j < n'
    · obtain ⟨b2, o2, rfl, hb2, c2⟩ := Hcf'.out (by omega)
      have hb0 : Below B w0 wr := Hbel.out.trans (hb.mono hB)
      have y2 : wr.cell? ⟨b2, o2 + j, none⟩ = some (f' j) := (hb0.cell (p := ⟨b2, o2 + j, none⟩) hb2).trans (c2 j hj')
      have u1 : (j : Int) < (n' : Int) := by omega
      have u3 : (0 : Int) ≤ (j : Int) := by omega
      have u9 : j < 140737488355328 := by omega
      have Hb := Lib.hid hb
      have fo2 := Ho'.out j hj'
      have HCj := Lib.hid fun i hi => HC.out i j hi hj'
      clear hb c2 hb0
      generalize f' j = xr at *
      obtain ⟨wo, hwo⟩ : ∃ wo : World, wo = wr := ⟨_, rfl⟩
      rcases fo2 with rfl | ⟨tr, xr, rfl⟩
      all_goals
        go_wp2_with fail
        subst hwo
        go_loopw [17] (fun i wr => ContIn wo n (fun i => P i j) i wr) (fun i _ => n - (intOf i).toNat)
        case atStart => exact ⟨0, Nat.zero_le _, rfl, Below.refl _ _, fun q h => by omega⟩
        case round =>
          obtain ⟨m, hm, rfl, hbi, hno⟩ := hrel
          have Hno := Lib.hid hno
          clear hno
          have hsi := hbi.size
          by_cases hm' : m < n
          · obtain ⟨b1, o1, rfl, hb1, c1⟩ := Hcf.out (by omega)
            have hb0 : Below B w0 wr := Hbel.out.trans ((Hb.out.mono hB).trans (hbi.mono (by omega)))
            have y1 : wr.cell? ⟨b1, o1 + m, none⟩ = some (f m) := (hb0.cell (p := ⟨b1, o1 + m, none⟩) hb1).trans (c1 m hm')
            have HI := Lib.hid (HCj.out m hm' wr hb0 (by omega))
            have fo1 := Ho.out m hm'
            have u4 : (m : Int) < (n : Int) := by omega
            have u5 : (0 : Int) ≤ (m : Int) := by omega
            have u8 : m < 140737488355328 := by omega
            clear c1 hb0
            generalize f m = xl at *
            rcases fo1 with rfl | ⟨tl, xl, rfl⟩
            all_goals
              go_wp2_with fail
              refine HI.out.mono ?_
              rintro e w2 ⟨u, rfl, hb3, hform, hP⟩
              have hb4 : Below wo.heap.size wo w2 := hbi.trans (hb3.mono hbi.size)
              have Hb4 := Lib.hid hb4
              have HP := Lib.hid hP
              clear HI y1 hb3 hb4 hP
              rcases hform with ⟨bb, rfl⟩ | herr
              · cases bb with
                | true =>
                  have q1 := eql_true true w2
                  have Hnext : Hid (ContOut w n' (.int .i64 ((j : Int) + 1)) w2) := Lib.hid ⟨j + 1, by omega, by go_num, Hb.out.trans (Hb4.out.mono hs)⟩
                  go_wp2_with fail
                  go_roundw
                  case rel => exact Hnext.out
                  case measure => simp [intOf]; omega
                | false =>
                  have q1 := eql_true false w2
                  have Hnext : Hid (ContIn wo n (fun i => P i j) (.int .i64 ((m : Int) + 1)) w2) := Lib.hid ⟨m + 1, by omega, by go_num, Hb4.out, fun q hq hp => by
                    by_cases e : q = m
                    · subst e
                      have := HP.out hp
                      cases this
                    · exact Hno.out q (by omega) hp⟩
                  go_wp2_with fail
                  go_roundw
                  case rel => exact Hnext.out
                  case measure => simp [intOf]; omega
              · obtain ⟨te, ae, rfl⟩ := herr.form
                have hne : te ≠ 4 := by cases herr <;> decide
                have q1 := eql_err te (.pointer (some ae)) hne w2
                have Hnext : Hid (ContIn wo n (fun i => P i j) (.int .i64 ((m : Int) + 1)) w2) := Lib.hid ⟨m + 1, by omega, by go_num, Hb4.out, fun q hq hp => by
                  by_cases e : q = m
                  · subst e
                    have := HP.out hp
                    injection this with h1 h2
                    cases h2
                  · exact Hno.out q (by omega) hp⟩
                clear herr
                go_wp2_with fail
                go_roundw
                case rel => exact Hnext.out
                case measure => simp [intOf]; omega
          · have em : m = n := by omega
            have u4 : ¬ ((m : Int) < (n : Int)) := by omega
            have Hfin : Hid (Below w.heap.size w wr) := Lib.hid (Hb.out.trans (hbi.mono hs))
            clear hbi
            go_wp2_with fail
            go_ret
            exact ⟨_, rfl, Hfin.out, .inl ⟨false, rfl⟩, fun h => by
              obtain ⟨q, hq, hp⟩ := h j hj'
              exact absurd hp (Hno.out q (by omega))⟩
    · have u1 : ¬ ((j : Int) < (n' : Int)) := by omega
      have Hfin := Lib.hid hb
      clear hb
      go_wp2_with fail
      go_ret
      exact ⟨_, rfl, Hfin.out, .inl ⟨true, rfl⟩, fun _ => rfl⟩

end Go.Proofs.YtpoibibbkjogpaaGreatDoor

namespace Go.Proofs.YtpoibibbkjogpaaGreatDoor
open Go Go.RowKit Go.Maps Go.Deep

theorem cont_flts (x y : Nat) (o : Ordering) (ho : FloatKind.f64.format.order x y = some o) (P : Prop) (hP : P → o = .eq) (w : World) : Calls Tryz.prog 50 #[.float .f64 x, .float .f64 y] w (Ret (ContR w P)) := by
  have HP := Lib.hid hP
  clear hP
  cases o
  all_goals
    go_enter Tryz.func50, Tryz.ntmps50
    go_wp2_with fail
    go_ret
    exact ⟨_, rfl, Below.refl _ _, .inl ⟨_, rfl⟩, fun h => by first | rfl | exact absurd (HP.out h) (by simp)⟩

theorem eql_kinds {t t' : TypeId} (v v' : Value) (ht : t ≠ t') (w : World) : (binOp .eql 20 (.iface t v) (.iface t' v')).run Tryz.prog w = .ok (.bool false) w := by
  have h : (Op.equalIn 10000 20 (.iface t v) (.iface t' v')).run Tryz.prog w = .ok false w := by
    rw [show (10000 : Nat) = 9999 + 1 from rfl, Op.equalIn]
    simp [run_underlying Tryz.underlying20, Result.andThen, ht]
  show (Sem.run Tryz.prog ((Op.equalIn 10000 20 (.iface t v) (.iface t' v')) >>= fun b => pure (Value.bool b)) w) = _
  simp [h, Result.andThen]
theorem eql_nils (w : World) : (binOp .eql 20 .nilIface .nilIface).run Tryz.prog w = .ok (.bool true) w := by kernel_rfl
theorem eql_nil1 (t : TypeId) (v : Value) (w : World) : (binOp .eql 20 .nilIface (.iface t v)).run Tryz.prog w = .ok (.bool false) w := by
  have h : (Op.equalIn 10000 20 .nilIface (.iface t v)).run Tryz.prog w = .ok false w := by
    rw [show (10000 : Nat) = 9999 + 1 from rfl, Op.equalIn]
    simp [run_underlying Tryz.underlying20, Result.andThen]
  show (Sem.run Tryz.prog ((Op.equalIn 10000 20 .nilIface (.iface t v)) >>= fun b => pure (Value.bool b)) w) = _
  simp [h, Result.andThen]
theorem eql_nil2 (t : TypeId) (v : Value) (w : World) : (binOp .eql 20 (.iface t v) .nilIface).run Tryz.prog w = .ok (.bool false) w := by
  have h : (Op.equalIn 10000 20 (.iface t v) .nilIface).run Tryz.prog w = .ok false w := by
    rw [show (10000 : Nat) = 9999 + 1 from rfl, Op.equalIn]
    simp [run_underlying Tryz.underlying20, Result.andThen]
  show (Sem.run Tryz.prog ((Op.equalIn 10000 20 (.iface t v) .nilIface) >>= fun b => pure (Value.bool b)) w) = _
  simp [h, Result.andThen]
theorem eql_bools (b c : Bool) (w : World) : (binOp .eql 20 (.iface 4 (.bool b)) (.iface 4 (.bool c))).run Tryz.prog w = .ok (.bool (b == c)) w := by
  cases b <;> cases c <;> kernel_rfl

/-- Two values that callback 7 may be called with, and whether they are equal. -/
structure Eqls (x y : Value) (b : Bool) : Prop where
  out : ∀ w : World, (binOp .eql 20 x y).run Tryz.prog w = .ok (.bool b) w

set_option maxRecDepth 100000 in
theorem cont_null (P : Prop) (w : World) : Calls Tryz.prog 57 #[.nilIface, .nilIface] w (Ret (ContR w P)) := by
  have q1 := eql_nils w
  have q2 : (eqGuard .eql 20 (.tmp 5) (.tmp 6) .nilIface .nilIface).run Tryz.prog w = .ok () w := by kernel_rfl
  go_enter Tryz.func57, Tryz.ntmps57
  go_wp2_with fail
  go_ret
  exact ⟨_, rfl, Below.refl _ _, .inl ⟨_, rfl⟩, fun _ => rfl⟩
set_option maxRecDepth 100000 in
theorem cont_else (x y : Value) (hx : IsI x) (hy : IsI y) (b : Bool) (hq : Eqls x y b) (hnn : ¬ (x = .nilIface ∧ y = .nilIface)) (P : Prop) (hP : P → b = true) (w : World) : Calls Tryz.prog 57 #[x, y] w (Ret (ContR w P)) := by
  have HP := Lib.hid hP
  clear hP
  have q1 := hq.out w
  clear hq
  cases b with
  | true =>
    rcases hx with rfl | ⟨t, x, rfl⟩ <;> rcases hy with rfl | ⟨t', y, rfl⟩
    all_goals
      try exact absurd ⟨rfl, rfl⟩ hnn
    all_goals
      go_enter Tryz.func57, Tryz.ntmps57
      go_wp2_with fail
      go_ret
      exact ⟨_, rfl, Below.refl _ _, .inl ⟨_, rfl⟩, fun _ => rfl⟩
  | false =>
    rcases hx with rfl | ⟨t, x, rfl⟩ <;> rcases hy with rfl | ⟨t', y, rfl⟩
    all_goals
      try exact absurd ⟨rfl, rfl⟩ hnn
    all_goals
      go_enter Tryz.func57, Tryz.ntmps57
      go_wp2_with fail
      go_ret
      exact ⟨_, rfl, below_alloc1 _ _, .inr (.func1TypeError _), fun h => absurd (HP.out h) (by simp)⟩

def FindW (w : World) (s t : ByteArray) (i : Value) (wr : World) : Prop := ∃ n : Nat, n ≤ s.size + 1 ∧ i = .int .i64 (n : Nat) ∧ wr = w ∧ (s = t → n = 0)
def FoundP (w : World) (s t : ByteArray) (e : Ending) (w' : World) : Prop := ∃ m : Int, e = .returned (.int .i64 m) ∧ w' = w ∧ (s = t → m = 0)

set_option maxRecDepth 100000 in
theorem find_any (s t : ByteArray) (w : World) (hs : s.size ≤ 140737488351232) (ht : t.size ≤ 140737488351232) : Calls Tryz.prog 74 #[.string s, .string t] w (FoundP w s t) := by
  go_enter Tryz.func74, Tryz.ntmps74
  go_wp2_with fail
  go_loopw [5] (fun i wr => FindW w s t i wr) (fun i _ => s.size + 1 - (intOf i).toNat)
  case atStart => exact ⟨0, Nat.zero_le _, rfl, rfl, fun _ => rfl⟩
  case round =>
    obtain ⟨n, hn, rfl, hw, hz⟩ := hrel
    have Hz := Lib.hid hz
    have Hw := Lib.hid hw
    clear hz hw
    by_cases h : n + t.size ≤ s.size
    · have h1 : (n : Int) + (t.size : Int) ≤ (s.size : Int) := by omega
      have sl := run_slice_string (P := Tryz.prog) wr 9 s .i64 .i64 (n : Int) ((n : Int) + (t.size : Int)) Tryz.underlying9 (by omega) (by omega) (by omega)
      rw [show ((n : Int) + (t.size : Int)).toNat = n + t.size by omega, show (n : Int).toNat = n by omega] at sl
      have Hex : Hid (s = t → s.extract n (n + t.size) = t) := Lib.hid fun e => by
        have := Hz.out e
        subst this e
        simp
      generalize s.extract n (n + t.size) = u at *
      by_cases he : u = t
      · have hl : (u.toList == t.toList) = true := by rw [he]; simp
        clear he
        go_wp2_with fail
        go_ret
        exact ⟨n, rfl, Hw.out, fun e => by rw [Hz.out e]; rfl⟩
      · have Hne : Hid (s ≠ t) := Lib.hid fun e => he (Hex.out e)
        have hl : (u.toList == t.toList) = false := by
          rw [beq_eq_false_iff_ne]
          intro e
          rw [Lib.toList_data, Lib.toList_data] at e
          exact he (data_inj e)
        clear he
        go_wp2_with fail
        go_roundw
        case rel => exact ⟨n + 1, by omega, by go_num, Hw.out, fun e => absurd e Hne.out⟩
        case measure => simp [intOf]; omega
    · have h1 : ¬ (n : Int) + (t.size : Int) ≤ (s.size : Int) := by omega
      have Hne : Hid (s ≠ t) := Lib.hid fun e => h (by
        have := Hz.out e
        subst this e
        omega)
      go_wp2_with fail
      go_ret
      exact ⟨-1, rfl, Hw.out, fun e => absurd e Hne.out⟩

set_option maxRecDepth 100000 in
theorem in_any (s t : ByteArray) (w : World) (hs : s.size ≤ 140737488351232) (ht : t.size ≤ 140737488351232) : Calls Tryz.prog 54 #[.string s, .string t] w fun e w' => ∃ b, e = .returned (.bool b) ∧ Below w.heap.size w w' ∧ (s = t → b = true) := by
  have H := Lib.hid (find_any s t w hs ht)
  go_enter Tryz.func54, Tryz.ntmps54
  go_wp2_with fail
  refine H.out.mono ?_
  rintro e w1 ⟨m, rfl, rfl, hm⟩
  have Hm := Lib.hid hm
  clear hm H
  by_cases h : 0 ≤ m
  · go_wp2_with fail
    go_ret
    exact ⟨_, rfl, Below.refl _ _, fun _ => by simp⟩
  · go_wp2_with fail
    go_ret
    exact ⟨_, rfl, Below.refl _ _, fun e => absurd (Hm.out e) (by omega)⟩

end Go.Proofs.YtpoibibbkjogpaaGreatDoor
