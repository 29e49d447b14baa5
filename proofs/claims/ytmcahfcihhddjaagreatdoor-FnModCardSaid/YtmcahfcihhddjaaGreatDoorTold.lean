/- laws.told at what spec.rest and impl.OpMod answer. -/
import Derived.Test.YtmcahfcihhddjaaGreatDoorOper
import Derived.Test.YtmcahfcihhddjaaGreatDoorMod6
namespace Go.Proofs.YtmcahfcihhddjaaGreatDoor
open Go Go.RowKit

theorem sign_zero (w : World) : Calls Tryz.prog 37 #[.int .i64 0] w fun e w' => e = .returned (.int .i64 0) ∧ w' = w := by
  go_enter Tryz.func37, Tryz.ntmps37
  go_wp2_with fail
  go_ret
  exact ⟨rfl, rfl⟩

set_option maxRecDepth 100000 in
theorem cmp_num (h : Int) (w : World) : Calls Tryz.prog 19 #[numV 3 h, numV 3 h] w fun e w' => e = .returned (.int .i64 0) ∧ Below w.heap.size w w' := by
  have hz : wrap64 (h - h) = 0 := by unfold wrap64; omega
  unfold numV
  go_enter Tryz.func19, Tryz.ntmps19
  go_wp2_with fail
  refine (sign_zero _).mono ?_
  rintro e w2 ⟨rfl, rfl⟩
  go_wp2_with fail
  go_ret
  exact ⟨rfl, below_alloc2 _ _ _⟩

set_option maxRecDepth 100000 in
theorem same_num (h : Int) (w : World) : Calls Tryz.prog 21 #[numV 3 h, numV 3 h] w fun e w' => e = .returned (.bool true) ∧ Below w.heap.size w w' := by
  have H := Lib.hid (cmp_num h)
  unfold numV at *
  go_enter Tryz.func21, Tryz.ntmps21
  go_wp2_with fail
  refine (H.out _).mono ?_
  rintro e w2 ⟨rfl, hw⟩
  go_wp2_with fail
  go_ret
  exact ⟨rfl, (below_alloc2 _ _ _).trans (hw.mono (by simp; omega))⟩

def Yes (w : World) (e : Ending) (w' : World) : Prop := e = .returned (.bool true) ∧ Below w.heap.size w w'

set_option maxRecDepth 100000 in
theorem told_raises (k h k' h' : Int) (t t' : ByteArray) (la ka va la' ka' va' : Option Addr) (nl cl nk ck nv cv nl' cl' nk' ck' nv' cv' : Nat) (w : World) :
    Calls Tryz.prog 8 #[.agg #[.int .i64 k, .int .i64 h, .string t, .slice la nl cl, .slice ka nk ck, .slice va nv cv, .int .i64 1], .agg #[.int .i64 k', .int .i64 h', .string t', .slice la' nl' cl', .slice ka' nk' ck', .slice va' nv' cv'], .int .i64 1] w (Yes w) := by
  go_enter Tryz.func8, Tryz.ntmps8
  go_wp2_with fail
  go_ret
  exact ⟨rfl, below_alloc2 _ _ _⟩

set_option maxRecDepth 100000 in
theorem told_silent (k h k' h' n : Int) (t t' : ByteArray) (la ka va la' ka' va' : Option Addr) (nl cl nk ck nv cv nl' cl' nk' ck' nv' cv' : Nat) (w : World) :
    Calls Tryz.prog 8 #[.agg #[.int .i64 k, .int .i64 h, .string t, .slice la nl cl, .slice ka nk ck, .slice va nv cv, .int .i64 n], .agg #[.int .i64 k', .int .i64 h', .string t', .slice la' nl' cl', .slice ka' nk' ck', .slice va' nv' cv'], .int .i64 2] w (Yes w) := by
  go_enter Tryz.func8, Tryz.ntmps8
  go_wp2_with fail
  go_ret
  exact ⟨rfl, below_alloc2 _ _ _⟩

set_option maxRecDepth 100000 in
theorem told_num (h : Int) (w : World) : Calls Tryz.prog 8 #[resNum h, numV 3 h, .int .i64 0] w (Yes w) := by
  have H := Lib.hid (same_num h)
  unfold numV resNum at *
  go_enter Tryz.func8, Tryz.ntmps8
  go_wp2_with fail
  refine (H.out _).mono ?_
  rintro e w2 ⟨rfl, hw⟩
  go_wp2_with fail
  go_ret
  exact ⟨rfl, (below_alloc2 _ _ _).trans (hw.mono (by simp; omega))⟩

end Go.Proofs.YtmcahfcihhddjaaGreatDoor
