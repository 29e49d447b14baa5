/- gojq.Compare hands on to its callbacks: the way from what they say to what it says. -/
import Derived.Test.YtmcahfcihhddjaaGreatDoorArrs
import Derived.Test.YtmcahfcihhddjaaGreatDoorBinI
namespace Go.Proofs.YtmcahfcihhddjaaGreatDoor
open Go Go.RowKit Go.Deep

abbrev RI (w : World) (c : Int) (v : Value) (w' : World) : Prop := v = .int .i64 c ∧ Below w.heap.size w w'

theorem IntP.ret {w : World} {c : Int} {e : Ending} {w' : World} (h : IntP w c e w') : Ret (RI w c) e w' := ⟨_, h.1, rfl, h.2⟩
theorem same_ret {w : World} {c : Int} {f : Nat} {args : Array Value} (h : Calls Tryz.prog f args w fun e w' => e = .returned (.int .i64 c) ∧ w' = w) : Calls Tryz.prog f args w (Ret (RI w c)) :=
  h.mono fun _ _ ⟨e1, e2⟩ => ⟨_, e1, rfl, e2 ▸ Below.refl _ _⟩
theorem intp_ret {w : World} {c : Int} {f : Nat} {args : Array Value} (h : Calls Tryz.prog f args w (IntP w c)) : Calls Tryz.prog f args w (Ret (RI w c)) :=
  h.mono fun _ _ h => h.ret

abbrev CmpArgs (x y : Value) : Array Value := #[x, y, .func (.func 89) #[] #[], .func (.func 90) #[] #[], .func (.func 92) #[] #[], .func (.func 93) #[] #[], .func (.func 94) #[] #[], .func (.func 95) #[] #[], .func (.func 97) #[] #[]]

set_option maxRecDepth 100000 in
theorem compare_of (x y : Value) (c : Int) (w : World) (h : Calls Tryz.prog 88 (CmpArgs x y) w (Ret (RI w c))) : Calls Tryz.prog 75 #[x, y] w (IntP w c) := by
  have H := Lib.hid h; clear h
  go_enter Tryz.func75, Tryz.ntmps75
  go_wp2_with fail
  refine H.out.mono ?_
  rintro e w2 ⟨v, rfl, rfl, hb⟩
  go_wp2_with fail
  go_ret
  exact ⟨rfl, hb⟩

/-- What is to be said for Compare x y to be c. -/
def Disp (j k : J) (x y : Value) (c : Int) (w : World) : Prop :=
  match j, k with
  | .int l, .int r => c = signI (l - r)
  | .int l, .flt r => Calls Tryz.prog 90 #[.float .f64 (floatOfInt .f64 l), .float .f64 r] w (IntP w c)
  | .flt l, .int r => Calls Tryz.prog 90 #[.float .f64 l, .float .f64 (floatOfInt .f64 r)] w (IntP w c)
  | .flt l, .flt r => Calls Tryz.prog 90 #[.float .f64 l, .float .f64 r] w (IntP w c)
  | .str s, .str t => c = textsC s t
  | .arr _, .arr _ => ∀ a n k a' n' k', x = .iface 64 (.slice a n k) → y = .iface 64 (.slice a' n' k') → Calls Tryz.prog 94 #[.slice a n k, .slice a' n' k'] w (IntP w c)
  | .obj _, .obj _ => ∀ r r', x = .iface 67 (.map (some r)) → y = .iface 67 (.map (some r')) → Calls Tryz.prog 95 #[.map (some r), .map (some r')] w (IntP w c)
  | .hole, _ => False
  | _, .hole => False
  | j, k => c = signI (kindJ j - kindJ k)

set_option maxHeartbeats 4000000 in
set_option maxRecDepth 100000 in
theorem compare_disp {w0 : World} {S S' : Nat → Prop} {j k : J} {x y : Value} (hx : RepJ w0 S j x) (hy : RepJ w0 S' k y) (c : Int) (w : World) (h : Disp j k x y c w) : Calls Tryz.prog 75 #[x, y] w (IntP w c) := by
  refine compare_of x y c w ?_
  have e1 : EntersF 89 := enters_of Tryz.func89 (by kernel_rfl) rfl
  have e2 : EntersF 90 := enters_of Tryz.func90 (by kernel_rfl) rfl
  have e4 : EntersF 93 := enters_of Tryz.func93 (by kernel_rfl) rfl
  have e5 : EntersF 94 := enters_of Tryz.func94 (by kernel_rfl) rfl
  have e6 : EntersF 95 := enters_of Tryz.func95 (by kernel_rfl) rfl
  have e7 : EntersF 97 := enters_of Tryz.func97 (by kernel_rfl) rfl
  have hk := fun hj hj' => cmpk_any hx hj hy hj' w
  cases hx with
  | null => cases hy with
    | null => exact bini_n_nil _ _ _ _ _ _ _ w _ e7 (by obtain rfl := h; exact same_ret (hk (by simp) (by simp)))
    | bool => exact bini_n_else _ _ _ _ _ _ _ _ _ (by decide) w _ e7 (by obtain rfl := h; exact same_ret (hk (by simp) (by simp)))
    | int => exact bini_n_else _ _ _ _ _ _ _ _ _ (by decide) w _ e7 (by obtain rfl := h; exact same_ret (hk (by simp) (by simp)))
    | flt => exact bini_n_else _ _ _ _ _ _ _ _ _ (by decide) w _ e7 (by obtain rfl := h; exact same_ret (hk (by simp) (by simp)))
    | str => exact bini_n_else _ _ _ _ _ _ _ _ _ (by decide) w _ e7 (by obtain rfl := h; exact same_ret (hk (by simp) (by simp)))
    | arr => exact bini_n_else _ _ _ _ _ _ _ _ _ (by decide) w _ e7 (by obtain rfl := h; exact same_ret (hk (by simp) (by simp)))
    | obj => exact bini_n_else _ _ _ _ _ _ _ _ _ (by decide) w _ e7 (by obtain rfl := h; exact same_ret (hk (by simp) (by simp)))
  | bool => cases hy with
    | null => exact bini_b_nil _ _ _ _ _ _ _ _ w _ e7 (by obtain rfl := h; exact same_ret (hk (by simp) (by simp)))
    | bool => exact bini_b_else _ _ _ _ _ _ _ _ _ _ (by decide) w _ e7 (by obtain rfl := h; exact same_ret (hk (by simp) (by simp)))
    | int => exact bini_b_else _ _ _ _ _ _ _ _ _ _ (by decide) w _ e7 (by obtain rfl := h; exact same_ret (hk (by simp) (by simp)))
    | flt => exact bini_b_else _ _ _ _ _ _ _ _ _ _ (by decide) w _ e7 (by obtain rfl := h; exact same_ret (hk (by simp) (by simp)))
    | str => exact bini_b_else _ _ _ _ _ _ _ _ _ _ (by decide) w _ e7 (by obtain rfl := h; exact same_ret (hk (by simp) (by simp)))
    | arr => exact bini_b_else _ _ _ _ _ _ _ _ _ _ (by decide) w _ e7 (by obtain rfl := h; exact same_ret (hk (by simp) (by simp)))
    | obj => exact bini_b_else _ _ _ _ _ _ _ _ _ _ (by decide) w _ e7 (by obtain rfl := h; exact same_ret (hk (by simp) (by simp)))
  | int => cases hy with
    | null => exact bini_i_nil _ _ _ _ _ _ _ _ w _ e7 (by obtain rfl := h; exact same_ret (hk (by simp) (by simp)))
    | bool => exact bini_i_else _ _ _ _ _ _ _ _ _ _ (by decide) (by decide) (by decide) (by decide) w _ e7 (by obtain rfl := h; exact same_ret (hk (by simp) (by simp)))
    | int => exact bini_ii _ _ _ _ _ _ _ _ _ w _ e1 (by obtain rfl := h; exact same_ret (cmpi_any _ _ w))
    | flt => exact bini_if _ _ _ _ _ _ _ _ _ w _ e2 (intp_ret h)
    | str => exact bini_i_else _ _ _ _ _ _ _ _ _ _ (by decide) (by decide) (by decide) (by decide) w _ e7 (by obtain rfl := h; exact same_ret (hk (by simp) (by simp)))
    | arr => exact bini_i_else _ _ _ _ _ _ _ _ _ _ (by decide) (by decide) (by decide) (by decide) w _ e7 (by obtain rfl := h; exact same_ret (hk (by simp) (by simp)))
    | obj => exact bini_i_else _ _ _ _ _ _ _ _ _ _ (by decide) (by decide) (by decide) (by decide) w _ e7 (by obtain rfl := h; exact same_ret (hk (by simp) (by simp)))
  | flt => cases hy with
    | null => exact bini_f_nil _ _ _ _ _ _ _ _ w _ e7 (by obtain rfl := h; exact same_ret (hk (by simp) (by simp)))
    | bool => exact bini_f_else _ _ _ _ _ _ _ _ _ _ (by decide) (by decide) (by decide) (by decide) w _ e7 (by obtain rfl := h; exact same_ret (hk (by simp) (by simp)))
    | int => exact bini_fi _ _ _ _ _ _ _ _ _ w _ e2 (intp_ret h)
    | flt => exact bini_ff _ _ _ _ _ _ _ _ _ w _ e2 (intp_ret h)
    | str => exact bini_f_else _ _ _ _ _ _ _ _ _ _ (by decide) (by decide) (by decide) (by decide) w _ e7 (by obtain rfl := h; exact same_ret (hk (by simp) (by simp)))
    | arr => exact bini_f_else _ _ _ _ _ _ _ _ _ _ (by decide) (by decide) (by decide) (by decide) w _ e7 (by obtain rfl := h; exact same_ret (hk (by simp) (by simp)))
    | obj => exact bini_f_else _ _ _ _ _ _ _ _ _ _ (by decide) (by decide) (by decide) (by decide) w _ e7 (by obtain rfl := h; exact same_ret (hk (by simp) (by simp)))
  | str => cases hy with
    | null => exact bini_s_nil _ _ _ _ _ _ _ _ w _ e7 (by obtain rfl := h; exact same_ret (hk (by simp) (by simp)))
    | bool => exact bini_s_else _ _ _ _ _ _ _ _ _ _ (by decide) (by decide) w _ e7 (by obtain rfl := h; exact same_ret (hk (by simp) (by simp)))
    | int => exact bini_s_else _ _ _ _ _ _ _ _ _ _ (by decide) (by decide) w _ e7 (by obtain rfl := h; exact same_ret (hk (by simp) (by simp)))
    | flt => exact bini_s_else _ _ _ _ _ _ _ _ _ _ (by decide) (by decide) w _ e7 (by obtain rfl := h; exact same_ret (hk (by simp) (by simp)))
    | str => exact bini_ss _ _ _ _ _ _ _ _ _ w _ e4 (by obtain rfl := h; exact same_ret (cmps_any _ _ w))
    | arr => exact bini_s_else _ _ _ _ _ _ _ _ _ _ (by decide) (by decide) w _ e7 (by obtain rfl := h; exact same_ret (hk (by simp) (by simp)))
    | obj => exact bini_s_else _ _ _ _ _ _ _ _ _ _ (by decide) (by decide) w _ e7 (by obtain rfl := h; exact same_ret (hk (by simp) (by simp)))
  | arr => cases hy with
    | null => exact bini_a_nil _ _ _ _ _ _ _ _ _ _ w _ e7 (by obtain rfl := h; exact same_ret (hk (by simp) (by simp)))
    | bool => exact bini_a_else _ _ _ _ _ _ _ _ _ _ _ _ (by decide) (by decide) w _ e7 (by obtain rfl := h; exact same_ret (hk (by simp) (by simp)))
    | int => exact bini_a_else _ _ _ _ _ _ _ _ _ _ _ _ (by decide) (by decide) w _ e7 (by obtain rfl := h; exact same_ret (hk (by simp) (by simp)))
    | flt => exact bini_a_else _ _ _ _ _ _ _ _ _ _ _ _ (by decide) (by decide) w _ e7 (by obtain rfl := h; exact same_ret (hk (by simp) (by simp)))
    | str => exact bini_a_else _ _ _ _ _ _ _ _ _ _ _ _ (by decide) (by decide) w _ e7 (by obtain rfl := h; exact same_ret (hk (by simp) (by simp)))
    | arr => exact bini_aa _ _ _ _ _ _ _ _ _ _ _ _ _ w _ e5 (intp_ret (h _ _ _ _ _ _ rfl rfl))
    | obj => exact bini_a_else _ _ _ _ _ _ _ _ _ _ _ _ (by decide) (by decide) w _ e7 (by obtain rfl := h; exact same_ret (hk (by simp) (by simp)))
  | obj => cases hy with
    | null => exact bini_m_nil _ _ _ _ _ _ _ _ w _ e7 (by obtain rfl := h; exact same_ret (hk (by simp) (by simp)))
    | bool => exact bini_m_else _ _ _ _ _ _ _ _ _ _ (by decide) (by decide) w _ e7 (by obtain rfl := h; exact same_ret (hk (by simp) (by simp)))
    | int => exact bini_m_else _ _ _ _ _ _ _ _ _ _ (by decide) (by decide) w _ e7 (by obtain rfl := h; exact same_ret (hk (by simp) (by simp)))
    | flt => exact bini_m_else _ _ _ _ _ _ _ _ _ _ (by decide) (by decide) w _ e7 (by obtain rfl := h; exact same_ret (hk (by simp) (by simp)))
    | str => exact bini_m_else _ _ _ _ _ _ _ _ _ _ (by decide) (by decide) w _ e7 (by obtain rfl := h; exact same_ret (hk (by simp) (by simp)))
    | arr => exact bini_m_else _ _ _ _ _ _ _ _ _ _ (by decide) (by decide) w _ e7 (by obtain rfl := h; exact same_ret (hk (by simp) (by simp)))
    | obj => exact bini_mm _ _ _ _ _ _ _ _ _ w _ e6 (intp_ret (h _ _ rfl rfl))

end Go.Proofs.YtmcahfcihhddjaaGreatDoor
