/- A float turned into an int, whatever it is. -/
import Derived.Test.YtmcahfcihhddjaaGreatDoorBase
import Derived.Laws.FloatArith
namespace Go.Proofs.YtmcahfcihhddjaaGreatDoor
open Go Go.RowKit

theorem conv_any (w : World) (b : Nat) : ∃ n : Int, ∃ w', (convert 63 3 (.float .f64 b)).run Tryz.prog w = .ok (.int .i64 n) w' ∧ -9223372036854775808 ≤ n ∧ n ≤ 9223372036854775807 ∧ Below w.heap.size w w' := by
  cases h : floatToIntVal .f64 b .i64 with
  | some n =>
    refine ⟨n, w, run_convert_float_int w _ _ _ _ _ _ (by rw [Tryz.underlying63]; rfl) Tryz.underlying3 h, ?_, ?_, Below.refl _ _⟩
    all_goals
      have := floatToIntVal_wf h
      simp [Lit.wf, IntKind.min, IntKind.max, IntKind.signed, IntKind.bits] at this
      omega
  | none =>
    have hw : ∀ x : Nat, -9223372036854775808 ≤ IntKind.i64.wrap (x : Int) ∧ IntKind.i64.wrap (x : Int) ≤ 9223372036854775807 := by
      intro x
      rw [IntKind.wrap_i64]
      omega
    unfold floatToIntVal at h
    cases he : (FloatKind.f64.decode b).toInt .zero with
    | none =>
      refine ⟨IntKind.i64.wrap (((Question.floatToInt .f64 b .i64).cut (w.tape w.drawn (.floatToInt .f64 b .i64)) : Nat) : Nat), w.drew, ?_, (hw _).1, (hw _).2, (Below.refl _ _).drew⟩
      simp [convert, run_underlying Tryz.underlying63, run_underlying Tryz.underlying3, Conv.floatToInt, he, Question.forced]
    | some n =>
      rw [he] at h
      simp only at h
      split at h
      · cases h
      · rename_i hc
        refine ⟨IntKind.i64.wrap (((Question.floatToInt .f64 b .i64).cut (w.tape w.drawn (.floatToInt .f64 b .i64)) : Nat) : Nat), w.drew, ?_, (hw _).1, (hw _).2, (Below.refl _ _).drew⟩
        simp [convert, run_underlying Tryz.underlying63, run_underlying Tryz.underlying3, Conv.floatToInt, he]
        rw [if_neg (show ¬ (IntKind.i64.min ≤ n ∧ n ≤ 9223372036854775807) from hc)]
        simp [Question.forced]

end Go.Proofs.YtmcahfcihhddjaaGreatDoor
