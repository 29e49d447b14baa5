/- Contracts of math.Trunc and impl.half. -/
import Derived.Test.YtmcahfcihhddjaaGreatDoorConv
import Derived.Test.YtmcahfcihhddjaaGreatDoorIeee3
import Derived.Test.YtmcahfcihhddjaaGreatDoorWld
import Derived.WalkLawsBesides
namespace Go.Proofs.YtmcahfcihhddjaaGreatDoor
open Go Go.RowKit

def truncBits (x : Nat) : Nat := FloatKind.f64.encode ((FloatKind.f64.decode x).integral .zero)

theorem integral_of (name : String) (way : Ieee.Toward) (x : Nat) (hx : ∀ s t, FloatKind.f64.decode x ≠ .nan s t) :
    Extern.MathFloor.toIntegral name way #[.float .f64 x] = pure (.float .f64 (FloatKind.f64.encode ((FloatKind.f64.decode x).integral way))) := by
  change (match FloatKind.f64.decode x with
    | .nan s t => if FloatKind.f64.format.quiet t = t then (pure (Value.float .f64 x) : Sem Value) else _
    | d => pure (Value.float .f64 (FloatKind.f64.encode (d.integral way)))) = _
  cases h : FloatKind.f64.decode x with
  | nan s t => exact absurd h (hx s t)
  | number s m e => rfl
  | infinity s => rfl

theorem run_archTrunc (x : Nat) (hx : ∀ s t, FloatKind.f64.decode x ≠ .nan s t) (w : World) :
    (callFunc 100 #[.float .f64 x]).run Tryz.prog w = .ok (.value (.float .f64 (truncBits x))) w := by
  rw [run_callFunc_extern (e := Extern.MathFloor.toIntegral "math.archTrunc" .zero) Tryz.func100 (by kernel_rfl) (by kernel_rfl) (by kernel_rfl) (by kernel_rfl), integral_of _ _ _ hx]
  rfl

theorem trunc_any (x : Nat) (hx : ∀ s t, FloatKind.f64.decode x ≠ .nan s t) (w : World) :
    Calls Tryz.prog 79 #[.float .f64 x] w fun e w' => e = .returned (.float .f64 (truncBits x)) ∧ w' = w := by
  have h := run_archTrunc x hx
  clear hx
  go_enter Tryz.func79, Tryz.ntmps79
  go_wp2_with fail
  go_ret
  exact ⟨rfl, rfl⟩

/-- impl.Value of a Half, or the zero one; and whether. -/
def HalfV (b : Bool) (h : Int) : Value := .tuple #[.agg #[.int .i64 (if b then 3 else 0), .int .i64 (if b then h else 0), .string ⟨#[]⟩, .slice none 0 0, .slice none 0 0, .slice none 0 0], .bool b]

def HalfP (w : World) (e : Ending) (w' : World) : Prop := ∃ b h, e = .returned (HalfV b h) ∧ -9223372036854775808 ≤ h ∧ h ≤ 9223372036854775807 ∧ Below w.heap.size w w'

set_option maxRecDepth 100000 in
theorem half_no1 (x : Nat) (hx : ∀ s t, FloatKind.f64.decode x ≠ .nan s t) (h1 : FloatKind.f64.format.order x (truncBits x) ≠ some .eq) (w : World) : Calls Tryz.prog 52 #[.float .f64 x] w fun e w' => e = .returned (HalfV false 0) ∧ Below w.heap.size w w' := by
  have T := Lib.hid (trunc_any x hx)
  clear hx
  have hb0 := below_alloc1 w (.cells #[.int .i64 0, .int .i64 0, .string ⟨#[]⟩, .slice none 0 0, .slice none 0 0, .slice none 0 0] 26)
  have t1 : (FloatKind.f64.format.order x (truncBits x) != some .eq) = true := by simpa using h1
  clear h1
  go_enter Tryz.func52, Tryz.ntmps52
  go_wp2_with fail
  refine (T.out _).mono ?_
  rintro e w3 ⟨rfl, rfl⟩
  clear T
  go_wp2_with fail
  exact bodyPost_ret (v := HalfV false 0) (results_row_tmp (p := 2) (u := 3) (ty := 26) rfl _ _ w.heap.size 26 _ (0, 0) _ rfl (at_alloc w _) Tryz.underlying26 rfl (by kernel_rfl)) rfl ⟨rfl, hb0⟩

set_option maxRecDepth 100000 in
theorem half_no2 (x : Nat) (hx : ∀ s t, FloatKind.f64.decode x ≠ .nan s t) (h1 : FloatKind.f64.format.order x (truncBits x) = some .eq) (h2 : FloatKind.f64.format.order x 14109777632551763968 = some .lt ∨ FloatKind.f64.format.order x 14109777632551763968 = some .eq) (w : World) : Calls Tryz.prog 52 #[.float .f64 x] w fun e w' => e = .returned (HalfV false 0) ∧ Below w.heap.size w w' := by
  have T := Lib.hid (trunc_any x hx)
  clear hx
  have hb0 := below_alloc1 w (.cells #[.int .i64 0, .int .i64 0, .string ⟨#[]⟩, .slice none 0 0, .slice none 0 0, .slice none 0 0] 26)
  rcases h2 with h2 | h2
  all_goals
    go_enter Tryz.func52, Tryz.ntmps52
    go_wp2_with fail
    refine (T.out _).mono ?_
    rintro e w3 ⟨rfl, rfl⟩
    clear T
    go_wp2_with fail
    exact bodyPost_ret (v := HalfV false 0) (results_row_tmp (p := 2) (u := 3) (ty := 26) rfl _ _ w.heap.size 26 _ (0, 0) _ rfl (at_alloc w _) Tryz.underlying26 rfl (by kernel_rfl)) rfl ⟨rfl, hb0⟩

set_option maxRecDepth 100000 in
theorem half_no3 (x : Nat) (hx : ∀ s t, FloatKind.f64.decode x ≠ .nan s t) (h1 : FloatKind.f64.format.order x (truncBits x) = some .eq) (h2 : FloatKind.f64.format.order x 14109777632551763968 = some .gt) (h3 : FloatKind.f64.format.order x 4886405595696988160 = some .gt ∨ FloatKind.f64.format.order x 4886405595696988160 = some .eq) (w : World) : Calls Tryz.prog 52 #[.float .f64 x] w fun e w' => e = .returned (HalfV false 0) ∧ Below w.heap.size w w' := by
  have T := Lib.hid (trunc_any x hx)
  clear hx
  have hb0 := below_alloc1 w (.cells #[.int .i64 0, .int .i64 0, .string ⟨#[]⟩, .slice none 0 0, .slice none 0 0, .slice none 0 0] 26)
  rcases h3 with h3 | h3
  all_goals
    go_enter Tryz.func52, Tryz.ntmps52
    go_wp2_with fail
    refine (T.out _).mono ?_
    rintro e w3 ⟨rfl, rfl⟩
    clear T
    go_wp2_with fail
    exact bodyPost_ret (v := HalfV false 0) (results_row_tmp (p := 2) (u := 3) (ty := 26) rfl _ _ w.heap.size 26 _ (0, 0) _ rfl (at_alloc w _) Tryz.underlying26 rfl (by kernel_rfl)) rfl ⟨rfl, hb0⟩

set_option maxRecDepth 100000 in
theorem half_yes (x : Nat) (hx : ∀ s t, FloatKind.f64.decode x ≠ .nan s t) (h1 : FloatKind.f64.format.order x (truncBits x) = some .eq) (h2 : FloatKind.f64.format.order x 14109777632551763968 = some .gt) (h3 : FloatKind.f64.format.order x 4886405595696988160 = some .lt)
    (w : World) (n : Int) (w2 : World) (hc : (convert 63 3 (.float .f64 x)).run Tryz.prog (w.alloc (.cells #[.int .i64 0, .int .i64 0, .string ⟨#[]⟩, .slice none 0 0, .slice none 0 0, .slice none 0 0] 26)) = .ok (.int .i64 n) w2)
    (hb : Below (w.alloc (.cells #[.int .i64 0, .int .i64 0, .string ⟨#[]⟩, .slice none 0 0, .slice none 0 0, .slice none 0 0] 26)).heap.size (w.alloc (.cells #[.int .i64 0, .int .i64 0, .string ⟨#[]⟩, .slice none 0 0, .slice none 0 0, .slice none 0 0] 26)) w2) :
    Calls Tryz.prog 52 #[.float .f64 x] w fun e w' => e = .returned (HalfV true n) ∧ Below w.heap.size w w' := by
  have T := Lib.hid (trunc_any x hx)
  clear hx
  have hat : w2.heap[w.heap.size]? = some (.cells #[.int .i64 0, .int .i64 0, .string ⟨#[]⟩, .slice none 0 0, .slice none 0 0, .slice none 0 0] 26) := (hb.block w.heap.size (by simp)).trans (at_alloc w _)
  have hb2 := below_next (below_alloc1 w (.cells #[.int .i64 0, .int .i64 0, .string ⟨#[]⟩, .slice none 0 0, .slice none 0 0, .slice none 0 0] 26)) hb
  obtain ⟨e0, e1, e2, e3, e4, e5⟩ := of_block6 hat
  obtain ⟨f0, f1, f2, f3, f4, f5⟩ := free_block6 hat
  have Hb2 := Lib.hid hb2
  have Hat := Lib.hid hat
  clear hb hb2 hat
  go_enter Tryz.func52, Tryz.ntmps52
  go_wp2_with fail
  refine (T.out _).mono ?_
  rintro e w3 ⟨rfl, rfl⟩
  clear T
  go_wp2_with fail
  exact bodyPost_ret (v := HalfV true n) (results_row_tmp (p := 2) (u := 3) (ty := 26) rfl _ _ w.heap.size 26 _ (0, 0) _ rfl (set_row6 Hat.out _ _ _ _ _ _) Tryz.underlying26 rfl (by kernel_rfl)) rfl ⟨rfl, below_set6 Hb2.out (Nat.le_refl _) _ _ _ _ _ _⟩

theorem order_some (x c : Nat) (hx : ∀ s t, FloatKind.f64.decode x ≠ .nan s t) (hc : ∃ s m i, Ieee.double.read c = .number s m i) : ∃ o, FloatKind.f64.format.order x c = some o := by
  obtain ⟨s, m, i, hc⟩ := hc
  show ∃ o, Ieee.Datum.order (Ieee.double.read x) (Ieee.double.read c) = some o
  rw [hc]
  cases h : Ieee.double.read x with
  | nan s t => exact absurd h (hx s t)
  | number s m e => exact ⟨_, rfl⟩
  | infinity s => exact ⟨_, rfl⟩

theorem half_any (x : Nat) (hx : ∀ s t, FloatKind.f64.decode x ≠ .nan s t) (w : World) : Calls Tryz.prog 52 #[.float .f64 x] w (HalfP w) := by
  have no : ∀ e w', (e = .returned (HalfV false 0) ∧ Below w.heap.size w w') → HalfP w e w' := fun e w' h => ⟨false, 0, h.1, by omega, by omega, h.2⟩
  by_cases h1 : FloatKind.f64.format.order x (truncBits x) = some .eq
  · obtain ⟨o2, h2⟩ := order_some x 14109777632551763968 hx ⟨_, _, _, low_isH.choose_spec.choose_spec.choose_spec.1⟩
    obtain ⟨o3, h3⟩ := order_some x 4886405595696988160 hx ⟨_, _, _, high_isH.choose_spec.choose_spec.choose_spec.1⟩
    cases o2 with
    | lt => exact (half_no2 x hx h1 (.inl h2) w).mono no
    | eq => exact (half_no2 x hx h1 (.inr h2) w).mono no
    | gt =>
      cases o3 with
      | gt => exact (half_no3 x hx h1 h2 (.inl h3) w).mono no
      | eq => exact (half_no3 x hx h1 h2 (.inr h3) w).mono no
      | lt =>
        obtain ⟨n, w2, hc, hn1, hn2, hb⟩ := conv_any (w.alloc (.cells #[.int .i64 0, .int .i64 0, .string ⟨#[]⟩, .slice none 0 0, .slice none 0 0, .slice none 0 0] 26)) x
        exact (half_yes x hx h1 h2 h3 w n w2 hc hb).mono fun e w' h => ⟨true, n, h.1, hn1, hn2, h.2⟩
  · exact (half_no1 x hx h1 w).mono no

/-- At a float that holds an integer. -/
theorem half_hb (n : Int) (he : Ex (2 * n)) (h1 : -4611686018427387904 < n) (h2 : n < 4611686018427387904) (w : World) :
    Calls Tryz.prog 52 #[.float .f64 (hb (2 * n))] w fun e w' => e = .returned (HalfV true n) ∧ Below w.heap.size w w' := by
  have hI := hb_ex he
  have hx : ∀ s t, FloatKind.f64.decode (hb (2 * n)) ≠ .nan s t := by
    obtain ⟨s, m, i, hr, _⟩ := hI
    intro s' t' h
    have := hr.symm.trans h
    cases this
  have ht : truncBits (hb (2 * n)) = hb (2 * n) := trunc_hb hI
  refine half_yes (hb (2 * n)) hx ?_ ?_ ?_ w n _ (run_convert_float_int _ _ _ _ _ _ _ (by rw [Tryz.underlying63]; rfl) Tryz.underlying3 ?_) (Below.refl _ _)
  · rw [ht]
    exact (order_hb hI hI).trans (by simp)
  · refine (order_hb hI low_isH).trans (congrArg some ?_)
    show compareOfLessAndEq (2 * n) (-9223372036854775808) = .gt
    unfold compareOfLessAndEq
    rw [if_neg (by omega), if_neg (by omega)]
  · refine (order_hb hI high_isH).trans (congrArg some ?_)
    show compareOfLessAndEq (2 * n) 9223372036854775808 = .lt
    unfold compareOfLessAndEq
    rw [if_pos (by omega)]
  · have := toInt_hb hI
    unfold floatToIntVal
    show (match (Ieee.double.read (hb (2 * n))).toInt .zero with | some n => if IntKind.i64.min ≤ n ∧ n ≤ IntKind.i64.max then some n else none | none => none) = some n
    rw [this]
    simp only
    rw [if_pos (by show -9223372036854775808 ≤ n ∧ n ≤ 9223372036854775807; omega)]

end Go.Proofs.YtmcahfcihhddjaaGreatDoor
