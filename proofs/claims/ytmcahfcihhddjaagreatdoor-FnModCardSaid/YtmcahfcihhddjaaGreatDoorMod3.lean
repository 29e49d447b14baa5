/- Contract of gojq.funcOpMod, ZzOpMod. -/
import Derived.Test.YtmcahfcihhddjaaGreatDoorMod2
import Derived.Test.YtmcahfcihhddjaaGreatDoorIeee
import Derived.Shelf.Abstract
namespace Go.Proofs.YtmcahfcihhddjaaGreatDoor
open Go Go.RowKit

def FltOK (b : Nat) : Prop := FloatKind.f64.format.order b b = some .eq
def NumOK : J → Prop
  | .flt b => FltOK b
  | _ => True

theorem fltOK_int (n : Int) : FltOK (floatOfInt .f64 n) := near_ok _ _ _

/-- What is left of a % b. -/
def ModJ (j k : J) (v : Value) : Prop :=
  match j, k with
  | .int l, .int r => ModII l r v
  | .int _, .flt _ => ModFF v
  | .flt _, .int _ => ModFF v
  | .flt _, .flt _ => ModFF v
  | _, _ => ErrV v

theorem RepJ.any {w : World} {S : Nat → Prop} {j : J} {x : Value} (h : RepJ w S j x) : AnyForm x := h.form

set_option maxHeartbeats 4000000 in
set_option maxRecDepth 100000 in
theorem binMod_any {w : World} {S S' : Nat → Prop} {j k : J} {x y : Value} (hx : RepJ w S j x) (hy : RepJ w S' k y) (nx : NumOK j) (ny : NumOK k) :
    Calls Tryz.prog 55 #[x, y, .func (.func 56) #[] #[], .func (.func 57) #[] #[], .func (.func 61) #[] #[], .func (.func 64) #[] #[], .func (.func 65) #[] #[], .func (.func 66) #[] #[], .func (.func 67) #[] #[]] w (ModRes w (ModJ j k)) := by
  have e1 : EntersF 56 := enters_of Tryz.func56 (by kernel_rfl) rfl
  have e2 : EntersF 57 := enters_of Tryz.func57 (by kernel_rfl) rfl
  have e4 : EntersF 64 := enters_of Tryz.func64 (by kernel_rfl) rfl
  have e5 : EntersF 65 := enters_of Tryz.func65 (by kernel_rfl) rfl
  have e6 : EntersF 66 := enters_of Tryz.func66 (by kernel_rfl) rfl
  have e7 : EntersF 67 := enters_of Tryz.func67 (by kernel_rfl) rfl
  have fx := hx.form
  have fy := hy.form
  cases hx with
  | null => cases hy with
    | null => exact bin_n_nil _ _ _ _ _ _ _ w _ e7 (mod_else _ _ fx fy w)
    | bool => exact bin_n_else _ _ _ _ _ _ _ _ _ (by decide) w _ e7 (mod_else _ _ fx fy w)
    | int _ _ hr => exact bin_n_else _ _ _ _ _ _ _ _ _ (by decide) w _ e7 (mod_else _ _ fx fy w)
    | flt => exact bin_n_else _ _ _ _ _ _ _ _ _ (by decide) w _ e7 (mod_else _ _ fx fy w)
    | str => exact bin_n_else _ _ _ _ _ _ _ _ _ (by decide) w _ e7 (mod_else _ _ fx fy w)
    | arr => exact bin_n_else _ _ _ _ _ _ _ _ _ (by decide) w _ e7 (mod_else _ _ fx fy w)
    | obj => exact bin_n_else _ _ _ _ _ _ _ _ _ (by decide) w _ e7 (mod_else _ _ fx fy w)
  | bool => cases hy with
    | null => exact bin_b_nil _ _ _ _ _ _ _ _ w _ e7 (mod_else _ _ fx fy w)
    | bool => exact bin_b_else _ _ _ _ _ _ _ _ _ _ (by decide) w _ e7 (mod_else _ _ fx fy w)
    | int _ _ hr => exact bin_b_else _ _ _ _ _ _ _ _ _ _ (by decide) w _ e7 (mod_else _ _ fx fy w)
    | flt => exact bin_b_else _ _ _ _ _ _ _ _ _ _ (by decide) w _ e7 (mod_else _ _ fx fy w)
    | str => exact bin_b_else _ _ _ _ _ _ _ _ _ _ (by decide) w _ e7 (mod_else _ _ fx fy w)
    | arr => exact bin_b_else _ _ _ _ _ _ _ _ _ _ (by decide) w _ e7 (mod_else _ _ fx fy w)
    | obj => exact bin_b_else _ _ _ _ _ _ _ _ _ _ (by decide) w _ e7 (mod_else _ _ fx fy w)
  | int _ _ hl => cases hy with
    | null => exact bin_i_nil _ _ _ _ _ _ _ _ w _ e7 (mod_else _ _ fx fy w)
    | bool => exact bin_i_else _ _ _ _ _ _ _ _ _ _ (by decide) (by decide) (by decide) (by decide) w _ e7 (mod_else _ _ fx fy w)
    | int _ _ hr => exact bin_ii _ _ _ _ _ _ _ _ _ w _ e1 (mod_ii _ _ w hl hr)
    | flt => exact bin_if _ _ _ _ _ _ _ _ _ w _ e2 (mod_ff _ _ w (fltOK_int _) ny)
    | str => exact bin_i_else _ _ _ _ _ _ _ _ _ _ (by decide) (by decide) (by decide) (by decide) w _ e7 (mod_else _ _ fx fy w)
    | arr => exact bin_i_else _ _ _ _ _ _ _ _ _ _ (by decide) (by decide) (by decide) (by decide) w _ e7 (mod_else _ _ fx fy w)
    | obj => exact bin_i_else _ _ _ _ _ _ _ _ _ _ (by decide) (by decide) (by decide) (by decide) w _ e7 (mod_else _ _ fx fy w)
  | flt => cases hy with
    | null => exact bin_f_nil _ _ _ _ _ _ _ _ w _ e7 (mod_else _ _ fx fy w)
    | bool => exact bin_f_else _ _ _ _ _ _ _ _ _ _ (by decide) (by decide) (by decide) (by decide) w _ e7 (mod_else _ _ fx fy w)
    | int _ _ hr => exact bin_fi _ _ _ _ _ _ _ _ _ w _ e2 (mod_ff _ _ w nx (fltOK_int _))
    | flt => exact bin_ff _ _ _ _ _ _ _ _ _ w _ e2 (mod_ff _ _ w nx ny)
    | str => exact bin_f_else _ _ _ _ _ _ _ _ _ _ (by decide) (by decide) (by decide) (by decide) w _ e7 (mod_else _ _ fx fy w)
    | arr => exact bin_f_else _ _ _ _ _ _ _ _ _ _ (by decide) (by decide) (by decide) (by decide) w _ e7 (mod_else _ _ fx fy w)
    | obj => exact bin_f_else _ _ _ _ _ _ _ _ _ _ (by decide) (by decide) (by decide) (by decide) w _ e7 (mod_else _ _ fx fy w)
  | str => cases hy with
    | null => exact bin_s_nil _ _ _ _ _ _ _ _ w _ e7 (mod_else _ _ fx fy w)
    | bool => exact bin_s_else _ _ _ _ _ _ _ _ _ _ (by decide) (by decide) w _ e7 (mod_else _ _ fx fy w)
    | int _ _ hr => exact bin_s_else _ _ _ _ _ _ _ _ _ _ (by decide) (by decide) w _ e7 (mod_else _ _ fx fy w)
    | flt => exact bin_s_else _ _ _ _ _ _ _ _ _ _ (by decide) (by decide) w _ e7 (mod_else _ _ fx fy w)
    | str => exact bin_ss _ _ _ _ _ _ _ _ _ w _ e4 (mod_ss _ _ w)
    | arr => exact bin_s_else _ _ _ _ _ _ _ _ _ _ (by decide) (by decide) w _ e7 (mod_else _ _ fx fy w)
    | obj => exact bin_s_else _ _ _ _ _ _ _ _ _ _ (by decide) (by decide) w _ e7 (mod_else _ _ fx fy w)
  | arr => cases hy with
    | null => exact bin_a_nil _ _ _ _ _ _ _ _ _ _ w _ e7 (mod_else _ _ fx fy w)
    | bool => exact bin_a_else _ _ _ _ _ _ _ _ _ _ _ _ (by decide) (by decide) w _ e7 (mod_else _ _ fx fy w)
    | int _ _ hr => exact bin_a_else _ _ _ _ _ _ _ _ _ _ _ _ (by decide) (by decide) w _ e7 (mod_else _ _ fx fy w)
    | flt => exact bin_a_else _ _ _ _ _ _ _ _ _ _ _ _ (by decide) (by decide) w _ e7 (mod_else _ _ fx fy w)
    | str => exact bin_a_else _ _ _ _ _ _ _ _ _ _ _ _ (by decide) (by decide) w _ e7 (mod_else _ _ fx fy w)
    | arr => exact bin_aa _ _ _ _ _ _ _ _ _ _ _ _ _ w _ e5 (mod_aa _ _ _ _ _ _ w)
    | obj => exact bin_a_else _ _ _ _ _ _ _ _ _ _ _ _ (by decide) (by decide) w _ e7 (mod_else _ _ fx fy w)
  | obj => cases hy with
    | null => exact bin_m_nil _ _ _ _ _ _ _ _ w _ e7 (mod_else _ _ fx fy w)
    | bool => exact bin_m_else _ _ _ _ _ _ _ _ _ _ (by decide) (by decide) w _ e7 (mod_else _ _ fx fy w)
    | int _ _ hr => exact bin_m_else _ _ _ _ _ _ _ _ _ _ (by decide) (by decide) w _ e7 (mod_else _ _ fx fy w)
    | flt => exact bin_m_else _ _ _ _ _ _ _ _ _ _ (by decide) (by decide) w _ e7 (mod_else _ _ fx fy w)
    | str => exact bin_m_else _ _ _ _ _ _ _ _ _ _ (by decide) (by decide) w _ e7 (mod_else _ _ fx fy w)
    | arr => exact bin_m_else _ _ _ _ _ _ _ _ _ _ (by decide) (by decide) w _ e7 (mod_else _ _ fx fy w)
    | obj => exact bin_mm _ _ _ _ _ _ _ _ _ w _ e6 (mod_mm _ _ w)

set_option maxRecDepth 100000 in
theorem zzMod_any {w : World} {S S' : Nat → Prop} {j k : J} {x y : Value} (hx : RepJ w S j x) (hy : RepJ w S' k y) (nx : NumOK j) (ny : NumOK k) :
    Calls Tryz.prog 24 #[x, y] w (ModRes w (ModJ j k)) := by
  have H := Lib.hid (binMod_any hx hy nx ny)
  clear nx ny
  go_enter Tryz.func24, Tryz.ntmps24
  go_wp2_with (go_at_call 44; go_in)
  refine H.out.mono ?_
  rintro e w2 ⟨v, rfl, hv⟩
  go_wp2_with fail
  go_ret
  exact ⟨_, rfl, hv⟩

end Go.Proofs.YtmcahfcihhddjaaGreatDoor
