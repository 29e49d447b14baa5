/- Contracts of impl.result at errors and integers, of impl.fromGo at integers. -/
import Derived.Test.YtmcahfcihhddjaaGreatDoorErr
import Derived.Test.YtmcahfcihhddjaaGreatDoorBaseJ
import Derived.Test.YtmcahfcihhddjaaGreatDoorTail
namespace Go.Proofs.YtmcahfcihhddjaaGreatDoor
open Go Go.RowKit
attribute [local go_sem] assert_jsonNumber assert_jsonNumber_nil assert_int assert_int_nil assert_float64 assert_float64_nil assert_pbigInt assert_pbigInt_nil assert_string assert_string_nil assert_sl assert_sl_nil assert_m assert_m_nil assert_bool assert_bool_nil

theorem is_zeroModuloError (v : Value) (w : World) : (Instr.typeAssert (.iface 86 v) 20 71 true).run Tryz.prog w = .ok (.tuple #[.iface 86 v, .bool true]) w := by kernel_rfl
theorem is_binopTypeError (v : Value) (w : World) : (Instr.typeAssert (.iface 102 v) 20 71 true).run Tryz.prog w = .ok (.tuple #[.iface 102 v, .bool true]) w := by kernel_rfl
theorem is_func0TypeError (v : Value) (w : World) : (Instr.typeAssert (.iface 163 v) 20 71 true).run Tryz.prog w = .ok (.tuple #[.iface 163 v, .bool true]) w := by kernel_rfl
theorem isnt_int (v : Value) (w : World) : (Instr.typeAssert (.iface 3 v) 20 71 true).run Tryz.prog w = .ok (.tuple #[.nilIface, .bool false]) w :=
  run_assert_iface Tryz.underlying71 (by simp) (fun _ => by kernel_rfl) (by kernel_rfl) v w
theorem isnt_bool (v : Value) (w : World) : (Instr.typeAssert (.iface 4 v) 20 71 true).run Tryz.prog w = .ok (.tuple #[.nilIface, .bool false]) w :=
  run_assert_iface Tryz.underlying71 (by simp) (fun _ => by kernel_rfl) (by kernel_rfl) v w
theorem isnt_float (v : Value) (w : World) : (Instr.typeAssert (.iface 63 v) 20 71 true).run Tryz.prog w = .ok (.tuple #[.nilIface, .bool false]) w :=
  run_assert_iface Tryz.underlying71 (by simp) (fun _ => by kernel_rfl) (by kernel_rfl) v w
theorem isnt_string (v : Value) (w : World) : (Instr.typeAssert (.iface 9 v) 20 71 true).run Tryz.prog w = .ok (.tuple #[.nilIface, .bool false]) w :=
  run_assert_iface Tryz.underlying71 (by simp) (fun _ => by kernel_rfl) (by kernel_rfl) v w
theorem isnt_slice (v : Value) (w : World) : (Instr.typeAssert (.iface 64 v) 20 71 true).run Tryz.prog w = .ok (.tuple #[.nilIface, .bool false]) w :=
  run_assert_iface Tryz.underlying71 (by simp) (fun _ => by kernel_rfl) (by kernel_rfl) v w
theorem isnt_map (v : Value) (w : World) : (Instr.typeAssert (.iface 67 v) 20 71 true).run Tryz.prog w = .ok (.tuple #[.nilIface, .bool false]) w :=
  run_assert_iface Tryz.underlying71 (by simp) (fun _ => by kernel_rfl) (by kernel_rfl) v w
theorem isnt_nil (w : World) : (Instr.typeAssert .nilIface 20 71 true).run Tryz.prog w = .ok (.tuple #[.nilIface, .bool false]) w := by kernel_rfl

/-- impl.Res with End alone. -/
def resEnd (n : Int) : Value := .agg #[.int .i64 0, .int .i64 0, .string ByteArray.empty, .slice none 0 0, .slice none 0 0, .slice none 0 0, .int .i64 n]
/-- impl.Res of a number. -/
def resNum (h : Int) : Value := .agg #[.int .i64 3, .int .i64 h, .string ByteArray.empty, .slice none 0 0, .slice none 0 0, .slice none 0 0, .int .i64 0]

set_option maxHeartbeats 4000000 in
set_option maxRecDepth 100000 in
theorem result_iface (t : TypeId) (v : Value) (h : ∀ w : World, (Instr.typeAssert (.iface t v) 20 71 true).run Tryz.prog w = .ok (.tuple #[.iface t v, .bool true]) w) (w : World) : Calls Tryz.prog 23 #[.iface t v] w fun e w' => e = .returned (resEnd 1) ∧ Below w.heap.size w w' := by
  go_enter Tryz.func23, Tryz.ntmps23
  go_wp2_with fail
  refine bodyPost_ret (v := resEnd 1) ?_ rfl ⟨rfl, ?_⟩
  · simp [results, resEnd, asAddr, Result.andThen, go_sem]
    rfl
  · exact below_alloc1 w _

set_option maxHeartbeats 4000000 in
set_option maxRecDepth 100000 in
theorem fromGo_int (n : Int) (w : World) (hn : -4611686018427387904 ≤ n ∧ n ≤ 4611686018427387903) : Calls Tryz.prog 43 #[.iface 3 (.int .i64 n)] w fun e w' =>
    e = .returned (.tuple #[.agg #[.int .i64 3, .int .i64 (2 * n), .string ByteArray.empty, .slice none 0 0, .slice none 0 0, .slice none 0 0], .bool true]) ∧ Below w.heap.size w w' := by
  obtain ⟨h1, h2⟩ := hn
  go_enter Tryz.func43, Tryz.ntmps43
  go_wp2_with fail
  refine bodyPost_ret (v := .tuple #[.agg #[.int .i64 3, .int .i64 (2 * n), .string ByteArray.empty, .slice none 0 0, .slice none 0 0, .slice none 0 0], .bool true]) ?_ rfl ⟨rfl, ?_⟩
  · have e : wrap64 (2 * n) = 2 * n := by unfold wrap64; omega
    simp [results, asAddr, Result.andThen, go_sem]
    rfl
  · exact below_alloc1 w _

set_option maxHeartbeats 4000000 in
set_option maxRecDepth 100000 in
theorem fromGo_low (n : Int) (w : World) (hn : n < -4611686018427387904) : Calls Tryz.prog 43 #[.iface 3 (.int .i64 n)] w fun e w' =>
    e = .returned (.tuple #[.agg #[.int .i64 3, .int .i64 (wrap64 (2 * n)), .string ByteArray.empty, .slice none 0 0, .slice none 0 0, .slice none 0 0], .bool false]) ∧ Below w.heap.size w w' := by
  have h1 : ¬ (-4611686018427387904 ≤ n) := by omega
  go_enter Tryz.func43, Tryz.ntmps43
  go_wp2_with fail
  refine bodyPost_ret (v := .tuple #[.agg #[.int .i64 3, .int .i64 (wrap64 (2 * n)), .string ByteArray.empty, .slice none 0 0, .slice none 0 0, .slice none 0 0], .bool false]) ?_ rfl ⟨rfl, ?_⟩
  · simp [results, asAddr, Result.andThen, go_sem]
    rfl
  · exact below_alloc1 w _

set_option maxHeartbeats 4000000 in
set_option maxRecDepth 100000 in
theorem fromGo_high (n : Int) (w : World) (hn : 4611686018427387903 < n) : Calls Tryz.prog 43 #[.iface 3 (.int .i64 n)] w fun e w' =>
    e = .returned (.tuple #[.agg #[.int .i64 3, .int .i64 (wrap64 (2 * n)), .string ByteArray.empty, .slice none 0 0, .slice none 0 0, .slice none 0 0], .bool false]) ∧ Below w.heap.size w w' := by
  have h1 : -4611686018427387904 ≤ n := by omega
  have h2 : ¬ (n ≤ 4611686018427387903) := by omega
  go_enter Tryz.func43, Tryz.ntmps43
  go_wp2_with fail
  refine bodyPost_ret (v := .tuple #[.agg #[.int .i64 3, .int .i64 (wrap64 (2 * n)), .string ByteArray.empty, .slice none 0 0, .slice none 0 0, .slice none 0 0], .bool false]) ?_ rfl ⟨rfl, ?_⟩
  · simp [results, asAddr, Result.andThen, go_sem]
    rfl
  · exact below_alloc1 w _

set_option maxHeartbeats 4000000 in
set_option maxRecDepth 100000 in
theorem result_int (n : Int) (w : World) (hn : -4611686018427387904 ≤ n ∧ n ≤ 4611686018427387903) : Calls Tryz.prog 23 #[.iface 3 (.int .i64 n)] w fun e w' => e = .returned (resNum (2 * n)) ∧ Below w.heap.size w w' := by
  have h := isnt_int (.int .i64 n)
  have H := Lib.hid fun w => fromGo_int n w hn
  clear hn
  go_enter Tryz.func23, Tryz.ntmps23
  go_wp2_with fail
  refine (H.out _).mono ?_
  rintro e w2 ⟨rfl, hw2⟩
  obtain ⟨e0, e1, e2, e3, e4, e5, e6⟩ := of_block7 ((hw2.block w.heap.size (by simp)).trans (at_alloc _ _))
  obtain ⟨z0, z1, z2, z3, z4, z5, z6⟩ := free_block7 ((hw2.block w.heap.size (by simp)).trans (at_alloc _ _))
  have hlt : w.heap.size < w2.heap.size := by have := hw2.size; simp at this; omega
  have hne : ¬ (w.heap.size = w2.heap.size) := by omega
  go_wp2_with fail
  refine bodyPost_ret (v := resNum (2 * n)) ?_ rfl ⟨rfl, ?_⟩
  · refine results_cell_row (p := 2) (ty := 34) rfl _ _ w.heap.size 34 _ (0, 0) _ rfl ?_ Tryz.underlying34 rfl (by kernel_rfl)
    rw [heap_alloc_old _ _ (by simp; omega)]
    exact set_row7 ((hw2.block w.heap.size (by simp)).trans (at_alloc _ _)) _ _ _ _ _ _ _
  · have hb : Below w.heap.size w w2 := (below_alloc1 w _).trans (hw2.mono (by simp))
    refine Below.alloc ?_ (by simp; omega) _
    exact ((((((hb.setCell (Nat.le_refl _) _).setCell (Nat.le_refl _) _).setCell (Nat.le_refl _) _).setCell (Nat.le_refl _) _).setCell (Nat.le_refl _) _).setCell (Nat.le_refl _) _).setCell (Nat.le_refl _) _

set_option maxHeartbeats 4000000 in
set_option maxRecDepth 100000 in
theorem result_out (n : Int) (w : World) (hn : n < -4611686018427387904 ∨ 4611686018427387903 < n) : Calls Tryz.prog 23 #[.iface 3 (.int .i64 n)] w fun e w' => e = .returned (resEnd 3) ∧ Below w.heap.size w w' := by
  have h := isnt_int (.int .i64 n)
  have H : Hid (∀ w, Calls Tryz.prog 43 #[.iface 3 (.int .i64 n)] w fun e w' =>
    e = .returned (.tuple #[.agg #[.int .i64 3, .int .i64 (wrap64 (2 * n)), .string ByteArray.empty, .slice none 0 0, .slice none 0 0, .slice none 0 0], .bool false]) ∧ Below w.heap.size w w') :=
    Lib.hid fun w => hn.elim (fromGo_low n w) (fromGo_high n w)
  clear hn
  go_enter Tryz.func23, Tryz.ntmps23
  go_wp2_with fail
  refine (H.out _).mono ?_
  rintro e w2 ⟨rfl, hw2⟩
  obtain ⟨e0, e1, e2, e3, e4, e5, e6⟩ := of_block7 ((hw2.block w.heap.size (by simp)).trans (at_alloc _ _))
  obtain ⟨z0, z1, z2, z3, z4, z5, z6⟩ := free_block7 ((hw2.block w.heap.size (by simp)).trans (at_alloc _ _))
  have hlt : w.heap.size < w2.heap.size := by have := hw2.size; simp at this; omega
  have hne : ¬ (w.heap.size = w2.heap.size) := by omega
  go_wp2_with fail
  refine bodyPost_ret (v := resEnd 3) ?_ rfl ⟨rfl, ?_⟩
  · refine results_cell_row (p := 2) (ty := 34) rfl _ _ w.heap.size 34 _ (0, 0) _ rfl ?_ Tryz.underlying34 rfl (by kernel_rfl)
    rw [heap_alloc_old _ _ (by simp; omega)]
    exact set_row7 ((hw2.block w.heap.size (by simp)).trans (at_alloc _ _)) _ _ _ _ _ _ _
  · have hb : Below w.heap.size w w2 := (below_alloc1 w _).trans (hw2.mono (by simp))
    refine Below.alloc ?_ (by simp; omega) _
    exact ((((((hb.setCell (Nat.le_refl _) _).setCell (Nat.le_refl _) _).setCell (Nat.le_refl _) _).setCell (Nat.le_refl _) _).setCell (Nat.le_refl _) _).setCell (Nat.le_refl _) _).setCell (Nat.le_refl _) _

theorem result_err (v : Value) (hv : ErrV v) (w : World) : Calls Tryz.prog 23 #[v] w fun e w' => e = .returned (resEnd 1) ∧ Below w.heap.size w w' := by
  cases hv with
  | zeroModuloError a => exact result_iface _ _ (is_zeroModuloError _) w
  | binopTypeError a => exact result_iface _ _ (is_binopTypeError _) w
  | func0TypeError a => exact result_iface _ _ (is_func0TypeError _) w

end Go.Proofs.YtmcahfcihhddjaaGreatDoor
