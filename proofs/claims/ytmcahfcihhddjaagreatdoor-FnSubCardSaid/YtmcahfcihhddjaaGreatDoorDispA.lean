/- binopTypeSwitch[any] hands on to its callbacks: the way from what they say to what it says. -/
import Derived.Test.YtmcahfcihhddjaaGreatDoorBin
import Derived.Test.YtmcahfcihhddjaaGreatDoorBaseJ
namespace Go.Proofs.YtmcahfcihhddjaaGreatDoor
open Go Go.RowKit Go.Deep

/-- What is to be said of the callbacks f1 .. f7. -/
def DispA (f1 f2 f4 f5 f6 f7 : Nat) (j k : J) (x y : Value) (R : Value → World → Prop) (w : World) : Prop :=
  match j, k with
  | .int l, .int r => -9223372036854775808 ≤ l ∧ l ≤ 9223372036854775807 → -9223372036854775808 ≤ r ∧ r ≤ 9223372036854775807 → Calls Tryz.prog f1 #[.int .i64 l, .int .i64 r] w (Ret R)
  | .int l, .flt r => Calls Tryz.prog f2 #[.float .f64 (floatOfInt .f64 l), .float .f64 r] w (Ret R)
  | .flt l, .int r => Calls Tryz.prog f2 #[.float .f64 l, .float .f64 (floatOfInt .f64 r)] w (Ret R)
  | .flt l, .flt r => Calls Tryz.prog f2 #[.float .f64 l, .float .f64 r] w (Ret R)
  | .str s, .str t => Calls Tryz.prog f4 #[.string s, .string t] w (Ret R)
  | .arr _, .arr _ => ∀ a n k a' n' k', x = .iface 64 (.slice a n k) → y = .iface 64 (.slice a' n' k') → Calls Tryz.prog f5 #[.slice a n k, .slice a' n' k'] w (Ret R)
  | .obj _, .obj _ => ∀ r r', x = .iface 67 (.map (some r)) → y = .iface 67 (.map (some r')) → Calls Tryz.prog f6 #[.map (some r), .map (some r')] w (Ret R)
  | .hole, _ => False
  | _, .hole => False
  | _, _ => Calls Tryz.prog f7 #[x, y] w (Ret R)

set_option maxHeartbeats 4000000 in
set_option maxRecDepth 100000 in
theorem bin_disp (f1 f2 f3 f4 f5 f6 f7 : Nat) (e1 : EntersF f1) (e2 : EntersF f2) (e4 : EntersF f4) (e5 : EntersF f5) (e6 : EntersF f6) (e7 : EntersF f7) {w0 : World} {S S' : Nat → Prop} {j k : J} {x y : Value} (hx : RepJ w0 S j x) (hy : RepJ w0 S' k y) (R : Value → World → Prop) (w : World) (h : DispA f1 f2 f4 f5 f6 f7 j k x y R w) :
    Calls Tryz.prog 55 #[x, y, .func (.func f1) #[] #[], .func (.func f2) #[] #[], .func (.func f3) #[] #[], .func (.func f4) #[] #[], .func (.func f5) #[] #[], .func (.func f6) #[] #[], .func (.func f7) #[] #[]] w (Ret R) := by
  cases hx with
  | null => cases hy with
    | null => exact bin_n_nil _ _ _ _ _ _ _ w _ e7 h
    | bool => exact bin_n_else _ _ _ _ _ _ _ _ _ (by decide) w _ e7 h
    | int => exact bin_n_else _ _ _ _ _ _ _ _ _ (by decide) w _ e7 h
    | flt => exact bin_n_else _ _ _ _ _ _ _ _ _ (by decide) w _ e7 h
    | str => exact bin_n_else _ _ _ _ _ _ _ _ _ (by decide) w _ e7 h
    | arr => exact bin_n_else _ _ _ _ _ _ _ _ _ (by decide) w _ e7 h
    | obj => exact bin_n_else _ _ _ _ _ _ _ _ _ (by decide) w _ e7 h
  | bool _ b => cases hy with
    | null => exact bin_b_nil _ _ _ _ _ _ _ _ w _ e7 h
    | bool => exact bin_b_else _ _ _ _ _ _ _ _ _ _ (by decide) w _ e7 h
    | int => exact bin_b_else _ _ _ _ _ _ _ _ _ _ (by decide) w _ e7 h
    | flt => exact bin_b_else _ _ _ _ _ _ _ _ _ _ (by decide) w _ e7 h
    | str => exact bin_b_else _ _ _ _ _ _ _ _ _ _ (by decide) w _ e7 h
    | arr => exact bin_b_else _ _ _ _ _ _ _ _ _ _ (by decide) w _ e7 h
    | obj => exact bin_b_else _ _ _ _ _ _ _ _ _ _ (by decide) w _ e7 h
  | int _ l hl => cases hy with
    | null => exact bin_i_nil _ _ _ _ _ _ _ _ w _ e7 h
    | bool => exact bin_i_else _ _ _ _ _ _ _ _ _ _ (by decide) (by decide) (by decide) (by decide) w _ e7 h
    | int _ _ hr => exact bin_ii _ _ _ _ _ _ _ _ _ w _ e1 (h hl hr)
    | flt => exact bin_if _ _ _ _ _ _ _ _ _ w _ e2 (h)
    | str => exact bin_i_else _ _ _ _ _ _ _ _ _ _ (by decide) (by decide) (by decide) (by decide) w _ e7 h
    | arr => exact bin_i_else _ _ _ _ _ _ _ _ _ _ (by decide) (by decide) (by decide) (by decide) w _ e7 h
    | obj => exact bin_i_else _ _ _ _ _ _ _ _ _ _ (by decide) (by decide) (by decide) (by decide) w _ e7 h
  | flt _ l => cases hy with
    | null => exact bin_f_nil _ _ _ _ _ _ _ _ w _ e7 h
    | bool => exact bin_f_else _ _ _ _ _ _ _ _ _ _ (by decide) (by decide) (by decide) (by decide) w _ e7 h
    | int => exact bin_fi _ _ _ _ _ _ _ _ _ w _ e2 (h)
    | flt => exact bin_ff _ _ _ _ _ _ _ _ _ w _ e2 (h)
    | str => exact bin_f_else _ _ _ _ _ _ _ _ _ _ (by decide) (by decide) (by decide) (by decide) w _ e7 h
    | arr => exact bin_f_else _ _ _ _ _ _ _ _ _ _ (by decide) (by decide) (by decide) (by decide) w _ e7 h
    | obj => exact bin_f_else _ _ _ _ _ _ _ _ _ _ (by decide) (by decide) (by decide) (by decide) w _ e7 h
  | str _ s => cases hy with
    | null => exact bin_s_nil _ _ _ _ _ _ _ _ w _ e7 h
    | bool => exact bin_s_else _ _ _ _ _ _ _ _ _ _ (by decide) (by decide) w _ e7 h
    | int => exact bin_s_else _ _ _ _ _ _ _ _ _ _ (by decide) (by decide) w _ e7 h
    | flt => exact bin_s_else _ _ _ _ _ _ _ _ _ _ (by decide) (by decide) w _ e7 h
    | str => exact bin_ss _ _ _ _ _ _ _ _ _ w _ e4 (h)
    | arr => exact bin_s_else _ _ _ _ _ _ _ _ _ _ (by decide) (by decide) w _ e7 h
    | obj => exact bin_s_else _ _ _ _ _ _ _ _ _ _ (by decide) (by decide) w _ e7 h
  | arr => cases hy with
    | null => exact bin_a_nil _ _ _ _ _ _ _ _ _ _ w _ e7 h
    | bool => exact bin_a_else _ _ _ _ _ _ _ _ _ _ _ _ (by decide) (by decide) w _ e7 h
    | int => exact bin_a_else _ _ _ _ _ _ _ _ _ _ _ _ (by decide) (by decide) w _ e7 h
    | flt => exact bin_a_else _ _ _ _ _ _ _ _ _ _ _ _ (by decide) (by decide) w _ e7 h
    | str => exact bin_a_else _ _ _ _ _ _ _ _ _ _ _ _ (by decide) (by decide) w _ e7 h
    | arr => exact bin_aa _ _ _ _ _ _ _ _ _ _ _ _ _ w _ e5 (h _ _ _ _ _ _ rfl rfl)
    | obj => exact bin_a_else _ _ _ _ _ _ _ _ _ _ _ _ (by decide) (by decide) w _ e7 h
  | obj => cases hy with
    | null => exact bin_m_nil _ _ _ _ _ _ _ _ w _ e7 h
    | bool => exact bin_m_else _ _ _ _ _ _ _ _ _ _ (by decide) (by decide) w _ e7 h
    | int => exact bin_m_else _ _ _ _ _ _ _ _ _ _ (by decide) (by decide) w _ e7 h
    | flt => exact bin_m_else _ _ _ _ _ _ _ _ _ _ (by decide) (by decide) w _ e7 h
    | str => exact bin_m_else _ _ _ _ _ _ _ _ _ _ (by decide) (by decide) w _ e7 h
    | arr => exact bin_m_else _ _ _ _ _ _ _ _ _ _ (by decide) (by decide) w _ e7 h
    | obj => exact bin_mm _ _ _ _ _ _ _ _ _ w _ e6 (h _ _ rfl rfl)

end Go.Proofs.YtmcahfcihhddjaaGreatDoor
