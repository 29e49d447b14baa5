/- a % 0 of a float; impl.OpMod. -/
import Derived.Test.YtmcahfcihhddjaaGreatDoorMod3
import Derived.Test.YtmcahfcihhddjaaGreatDoorRes
import Derived.Test.YtmcahfcihhddjaaGreatDoorToGo3
namespace Go.Proofs.YtmcahfcihhddjaaGreatDoor
open Go Go.RowKit

theorem zero_bits : floatOfInt .f64 0 = 0 := by kernel_rfl
theorem zero_order : FloatKind.f64.format.order 0 0 = some .eq := by kernel_rfl
theorem zero_conv : floatToIntVal .f64 0 .i64 = some 0 := by kernel_rfl
theorem run_conv_zero (w : World) : (convert 63 3 (.float .f64 0)).run Tryz.prog w = .ok (.int .i64 0) w :=
  run_convert_float_int w _ _ _ _ _ _ (by rw [Tryz.underlying63]; rfl) Tryz.underlying3 zero_conv

set_option maxRecDepth 100000 in
theorem floatToInt_zero (w : World) : Calls Tryz.prog 60 #[.float .f64 0] w fun e w' => e = .returned (.int .i64 0) ∧ w' = w := by
  have hc := run_conv_zero
  go_enter Tryz.func60, Tryz.ntmps60
  go_wp2_with fail
  go_ret
  exact ⟨rfl, rfl⟩

set_option maxRecDepth 100000 in
theorem mod_f0 (l : Nat) (w : World) (hl : FloatKind.f64.format.order l l = some .eq) :
    Calls Tryz.prog 57 #[.float .f64 l, .float .f64 0] w (RetErr w) := by
  have cl : Calls Tryz.prog 58 #[.float .f64 l] w fun e w' => e = .returned (.bool false) ∧ w' = w := by have := isNaN_any l w; rw [hl] at this; exact this
  have cr : Calls Tryz.prog 58 #[.float .f64 0] w fun e w' => e = .returned (.bool false) ∧ w' = w := by have := isNaN_any 0 w; rw [zero_order] at this; exact this
  have Cl := Lib.hid cl; clear cl
  have Cr := Lib.hid cr; clear cr
  have Cz := Lib.hid floatToInt_zero
  clear hl
  go_enter Tryz.func57, Tryz.ntmps57
  go_wp2_with fail
  refine Cl.out.mono ?_
  rintro e w1 ⟨rfl, rfl⟩
  go_wp2_with fail
  refine Cr.out.mono ?_
  rintro e w2 ⟨rfl, rfl⟩
  clear Cl Cr
  go_wp2_with fail
  refine (Cz.out _).mono ?_
  rintro e w3 ⟨rfl, rfl⟩
  go_wp2_with fail
  go_ret
  exact ⟨_, rfl, .zeroModuloError _, below_alloc1 _ _⟩

set_option maxRecDepth 100000 in
theorem zzMod_f0 {w : World} (b : Nat) (nx : FltOK b) :
    Calls Tryz.prog 24 #[.iface 63 (.float .f64 b), .iface 3 (.int .i64 0)] w (RetErr w) := by
  have e2 : EntersF 57 := enters_of Tryz.func57 (by kernel_rfl) rfl
  have H := Lib.hid (bin_fi 56 57 61 64 65 66 67 b 0 w _ e2 (by rw [zero_bits]; exact mod_f0 b w nx))
  clear nx
  go_enter Tryz.func24, Tryz.ntmps24
  go_wp2_with (go_at_call 44; go_in)
  refine H.out.mono ?_
  rintro e w2 ⟨v, rfl, hv⟩
  go_wp2_with fail
  go_ret
  exact ⟨_, rfl, hv⟩

end Go.Proofs.YtmcahfcihhddjaaGreatDoor
