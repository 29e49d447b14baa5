/- Contracts of impl.fromGo at null, booleans, numbers and strings. -/
import Derived.Test.YtmcahfcihhddjaaGreatDoorHalf
import Derived.Test.YtmcahfcihhddjaaGreatDoorAsserts
import Derived.Test.YtmcahfcihhddjaaGreatDoorVrow
import Derived.Test.YtmcahfcihhddjaaGreatDoorCmpV
namespace Go.Proofs.YtmcahfcihhddjaaGreatDoor
open Go Go.RowKit
attribute [local go_sem] assert_int assert_int_nil assert_float64 assert_float64_nil assert_string assert_string_nil assert_sl assert_sl_nil assert_m assert_m_nil assert_bool assert_bool_nil

def FreshS (lo hi k : Nat) : Prop := lo ≤ k ∧ k < hi

/-- What impl.fromGo gives where it gives v. -/
def FromP (w : World) (v : V) (e : Ending) (w' : World) : Prop :=
  ∃ cs, e = .returned (.tuple #[.agg (List.toArray cs), .bool true]) ∧ RepS w' (FreshS w.heap.size w'.heap.size) v cs ∧ Below w.heap.size w w'

theorem repS_num (w : World) (S : Nat → Prop) (k h : Int) (hk : -9223372036854775808 ≤ k ∧ k ≤ 9223372036854775807) (hh : -9223372036854775808 ≤ h ∧ h ≤ 9223372036854775807) (t : ByteArray) (ht : t.size ≤ 140737488351232) :
    RepS w S (.mk k h t [] [] []) [.int .i64 k, .int .i64 h, .string t, .slice none 0 0, .slice none 0 0, .slice none 0 0] :=
  .mk (l := []) (ks := []) (vs := []) (fun _ => []) (fun _ => []) hk hh ht (by simp) (by simp) (by simp) (fun s hs => by simp at hs) (fun h => by simp at h) (fun i hi => by simp at hi)
    (fun h => by simp at h) (fun h => by simp at h) (fun i hi => by simp at hi)

def aggV (k h : Int) (t : ByteArray) : Value := .tuple #[.agg #[.int .i64 k, .int .i64 h, .string t, .slice none 0 0, .slice none 0 0, .slice none 0 0], .bool true]

theorem fromP_num {w w' : World} {k h : Int} {t : ByteArray} (hk : -9223372036854775808 ≤ k ∧ k ≤ 9223372036854775807) (hh : -9223372036854775808 ≤ h ∧ h ≤ 9223372036854775807) (ht : t.size ≤ 140737488351232) (hb : Below w.heap.size w w') :
    FromP w (.mk k h t [] [] []) (.returned (aggV k h t)) w' :=
  ⟨[.int .i64 k, .int .i64 h, .string t, .slice none 0 0, .slice none 0 0, .slice none 0 0], rfl, repS_num _ _ _ _ hk hh _ ht, hb⟩

set_option maxHeartbeats 1000000 in
set_option maxRecDepth 100000 in
theorem fromGo_null (w : World) : Calls Tryz.prog 43 #[.nilIface] w (FromP w (.mk 0 0 ⟨#[]⟩ [] [] [])) := by
  go_enter Tryz.func43, Tryz.ntmps43
  go_wp2_with fail
  exact bodyPost_ret (v := aggV 0 0 ⟨#[]⟩) (results_row_tmp (p := 2) (u := 3) (ty := 26) rfl _ _ w.heap.size 26 _ (0, 0) _ rfl (at_alloc w _) Tryz.underlying26 rfl (by kernel_rfl)) rfl (fromP_num (by omega) (by omega) (Nat.zero_le _) (below_alloc1 w _))

set_option maxHeartbeats 1000000 in
set_option maxRecDepth 100000 in
theorem fromGo_bool (b : Bool) (w : World) : Calls Tryz.prog 43 #[.iface 4 (.bool b)] w (FromP w (.mk (if b then 2 else 1) 0 ⟨#[]⟩ [] [] [])) := by
  cases b
  · go_enter Tryz.func43, Tryz.ntmps43
    go_wp2_with fail
    exact bodyPost_ret (v := aggV 1 0 ⟨#[]⟩) (results_row_tmp (p := 2) (u := 3) (ty := 26) rfl _ _ w.heap.size 26 _ (0, 0) _ rfl (at_alloc w _) Tryz.underlying26 rfl (by kernel_rfl)) rfl (fromP_num (by omega) (by omega) (Nat.zero_le _) (below_alloc1 w _))
  · go_enter Tryz.func43, Tryz.ntmps43
    go_wp2_with fail
    exact bodyPost_ret (v := aggV 2 0 ⟨#[]⟩) (results_row_tmp (p := 2) (u := 3) (ty := 26) rfl _ _ w.heap.size 26 _ (0, 0) _ rfl (at_alloc w _) Tryz.underlying26 rfl (by kernel_rfl)) rfl (fromP_num (by omega) (by omega) (Nat.zero_le _) (below_alloc1 w _))

set_option maxHeartbeats 1000000 in
set_option maxRecDepth 100000 in
theorem fromGo_str (t : ByteArray) (ht : t.size ≤ 140737488351232) (w : World) : Calls Tryz.prog 43 #[.iface 9 (.string t)] w (FromP w (.mk 4 0 t [] [] [])) := by
  go_enter Tryz.func43, Tryz.ntmps43
  go_wp2_with fail
  exact bodyPost_ret (v := aggV 4 0 t) (results_row_tmp (p := 2) (u := 3) (ty := 26) rfl _ _ w.heap.size 26 _ (0, 0) _ rfl (at_alloc w _) Tryz.underlying26 rfl (by kernel_rfl)) rfl (fromP_num (by omega) (by omega) ht (below_alloc1 w _))

set_option maxHeartbeats 1000000 in
set_option maxRecDepth 100000 in
theorem fromGo_small (n : Int) (w : World) (h1 : -4611686018427387904 ≤ n) (h2 : n ≤ 4611686018427387903) : Calls Tryz.prog 43 #[.iface 3 (.int .i64 n)] w (FromP w (.mk 3 (2 * n) ⟨#[]⟩ [] [] [])) := by
  go_enter Tryz.func43, Tryz.ntmps43
  go_wp2_with fail
  exact bodyPost_ret (v := aggV 3 (2 * n) ⟨#[]⟩) (results_row_tmp (p := 2) (u := 3) (ty := 26) rfl _ _ w.heap.size 26 _ (0, 0) _ rfl (at_alloc w _) Tryz.underlying26 rfl (by kernel_rfl)) rfl (fromP_num (by omega) (by omega) (Nat.zero_le _) (below_alloc1 w _))

/-- What impl.fromGo gives of a float. -/
def FloatP (w : World) (e : Ending) (w' : World) : Prop := ∃ b h, e = .returned (HalfV b h) ∧ -9223372036854775808 ≤ h ∧ h ≤ 9223372036854775807 ∧ Below w.heap.size w w'

set_option maxHeartbeats 1000000 in
set_option maxRecDepth 100000 in
theorem fromGo_flt (x y : Nat) (hm : FloatKind.f64.format.mul 4611686018427387904 x = some y) (P : Bool → Int → Prop) (H : ∀ w : World, Calls Tryz.prog 52 #[.float .f64 y] w fun e w' => ∃ b h, P b h ∧ e = .returned (HalfV b h) ∧ Below w.heap.size w w')
    (w : World) : Calls Tryz.prog 43 #[.iface 63 (.float .f64 x)] w fun e w' => ∃ b h, P b h ∧ e = .returned (HalfV b h) ∧ Below w.heap.size w w' := by
  have HH := Lib.hid H; clear H
  have hq : ∀ w : World, (binOp .mul 63 (.float .f64 4611686018427387904) (.float .f64 x)).run Tryz.prog w = .ok (.float .f64 y) w := fun w => run_float_arith w .mul _ .f64 _ _ _ hm
  clear hm
  go_enter Tryz.func43, Tryz.ntmps43
  go_wp2_with fail
  refine (HH.out _).mono ?_
  rintro e w2 ⟨b, h, hP, rfl, hb⟩
  have hat := (hb.block w.heap.size (by simp)).trans (at_alloc w _)
  have hb2 := below_next (below_alloc1 w _) hb
  obtain ⟨e0, e1, e2, e3, e4, e5⟩ := of_block6 hat
  obtain ⟨f0, f1, f2, f3, f4, f5⟩ := free_block6 hat
  have HP := Lib.hid hP; clear hP
  have Hat := Lib.hid hat; clear hat
  have Hb2 := Lib.hid hb2; clear hb2 hb
  cases b
  all_goals
    simp only [HalfV, Bool.false_eq_true, if_false, if_true]
    go_wp2_with fail
    refine bodyPost_ret (v := HalfV _ h) (results_row_tmp (p := 2) (u := 3) (ty := 26) rfl _ _ w.heap.size 26 _ (0, 0) _ rfl (set_row6 Hat.out _ _ _ _ _ _) Tryz.underlying26 rfl (by kernel_rfl)) rfl ⟨_, h, HP.out, rfl, below_set6 Hb2.out (Nat.le_refl _) _ _ _ _ _ _⟩

theorem fromGo_half {h : Int} (f : FitsH h) (w : World) : Calls Tryz.prog 43 #[.iface 63 (.float .f64 (hb h))] w (FromP w (.mk 3 h ⟨#[]⟩ [] [] [])) := by
  have hr : -18014398509481984 ≤ h ∧ h ≤ 18014398509481984 := ⟨f.1, f.2.1⟩
  refine (fromGo_flt (hb h) (hb (2 * h)) (mul_two_hb (hb_isH f)).1 (fun b x => b = true ∧ x = h) (fun w => (half_hb h f.exact.2 (by omega) (by omega) w).mono fun e w' q => ⟨true, h, ⟨rfl, rfl⟩, q.1, q.2⟩) w).mono ?_
  rintro e w' ⟨b, x, ⟨rfl, rfl⟩, rfl, hb⟩
  exact fromP_num (by omega) (by omega) (Nat.zero_le _) hb

end Go.Proofs.YtmcahfcihhddjaaGreatDoor
