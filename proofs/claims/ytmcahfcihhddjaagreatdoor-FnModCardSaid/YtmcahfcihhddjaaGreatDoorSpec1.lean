/- Contracts of spec.Whole, Num, rest. -/
import Derived.Test.YtmcahfcihhddjaaGreatDoorLook3
namespace Go.Proofs.YtmcahfcihhddjaaGreatDoor
open Go Go.RowKit

set_option maxRecDepth 100000 in
theorem whole_even (h : Int) (t : ByteArray) (la ka va : Option Addr) (nl cl nk ck nv cv : Nat) (he : h.tmod 2 = 0) (hr : -9223372036854775808 ≤ h ∧ h ≤ 9223372036854775807) (w : World) :
    Calls Tryz.prog 33 #[.agg #[.int .i64 3, .int .i64 h, .string t, .slice la nl cl, .slice ka nk ck, .slice va nv cv]] w fun e w' =>
      e = .returned (.tuple #[.int .i64 (h.tdiv 2), .bool true]) ∧ Below w.heap.size w w' := by
  have hw : wrap64 (h.tdiv 2) = h.tdiv 2 := by have := Int.mul_tdiv_add_tmod h 2; unfold wrap64; omega
  clear hr
  go_enter Tryz.func33, Tryz.ntmps33
  go_wp2_with fail
  exact bodyPost_ret (results_tmp2 rfl _ _ _) rfl ⟨by show Ending.returned (.tuple #[.int .i64 (wrap64 (h.tdiv 2)), .bool true]) = _; rw [hw], below_alloc1 _ _⟩

set_option maxRecDepth 100000 in
theorem whole_odd (h : Int) (t : ByteArray) (la ka va : Option Addr) (nl cl nk ck nv cv : Nat) (he : h.tmod 2 ≠ 0) (w : World) :
    Calls Tryz.prog 33 #[.agg #[.int .i64 3, .int .i64 h, .string t, .slice la nl cl, .slice ka nk ck, .slice va nv cv]] w fun e w' =>
      e = .returned (.tuple #[.int .i64 0, .bool false]) ∧ Below w.heap.size w w' := by
  have hb : (h.tmod 2 == 0) = false := by simpa using he
  go_enter Tryz.func33, Tryz.ntmps33
  go_wp2_with fail
  exact bodyPost_ret (results_tmp2 rfl _ _ _) rfl ⟨rfl, below_alloc1 _ _⟩

/-- impl.Value of a kind and a Half alone. -/
def numV (k h : Int) : Value := .agg #[.int .i64 k, .int .i64 h, .string ByteArray.empty, .slice none 0 0, .slice none 0 0, .slice none 0 0]

set_option maxRecDepth 100000 in
theorem num_any (n : Int) (w : World) : Calls Tryz.prog 36 #[.int .i64 n] w fun e w' => e = .returned (numV 3 (wrap64 (2 * n))) ∧ Below w.heap.size w w' := by
  go_enter Tryz.func36, Tryz.ntmps36
  go_wp2_with fail
  refine bodyPost_ret (v := numV 3 (wrap64 (2 * n))) ?_ rfl ⟨rfl, below_alloc1 w _⟩
  simp [results, asAddr, Result.andThen, go_sem, numV]
  try rfl

/-- What spec.rest answers. -/
def RestP (k h k' h' : Int) (v : Value) (how : Int) : Prop :=
  if k ≠ 3 ∨ k' ≠ 3 then how = 1
  else if h' = 0 then how = 1
  else if h.tmod 2 ≠ 0 ∨ h'.tmod 2 ≠ 0 ∨ h < 0 ∨ h' < 0 then how = 2
  else how = 0 ∧ v = numV 3 (wrap64 (2 * (h.tdiv 2).tmod (h'.tdiv 2)))

/-- A pair of a value and a How. -/
def HowAt (w : World) (P : Value → Int → Prop) (e : Ending) (w' : World) : Prop :=
  ∃ (k h : Int) (t : ByteArray) (la ka va : Option Addr) (nl cl nk ck nv cv : Nat) (n : Int), e = .returned (.tuple #[.agg #[.int .i64 k, .int .i64 h, .string t, .slice la nl cl, .slice ka nk ck, .slice va nv cv], .int .i64 n]) ∧
    P (.agg #[.int .i64 k, .int .i64 h, .string t, .slice la nl cl, .slice ka nk ck, .slice va nv cv]) n ∧ Below w.heap.size w w'

set_option maxHeartbeats 1000000 in
set_option maxRecDepth 100000 in
theorem rest_kind (k h k' h' : Int) (t t' : ByteArray) (la ka va la' ka' va' : Option Addr) (nl cl nk ck nv cv nl' cl' nk' ck' nv' cv' : Nat) (hk : k ≠ 3 ∨ k' ≠ 3) (w : World) :
    Calls Tryz.prog 18 #[.agg #[.int .i64 k, .int .i64 h, .string t, .slice la nl cl, .slice ka nk ck, .slice va nv cv], .agg #[.int .i64 k', .int .i64 h', .string t', .slice la' nl' cl', .slice ka' nk' ck', .slice va' nv' cv']] w
      (HowAt w (RestP k h k' h')) := by
  have hP : ∀ v, RestP k h k' h' v 1 := by intro v; unfold RestP; rw [if_pos hk]
  have HP := Lib.hid hP; clear hP
  by_cases k3 : k = 3
  · have k4 : (k' == 3) = false := by simpa using hk.resolve_left (not_not_intro k3)
    subst k3
    clear hk
    go_enter Tryz.func18, Tryz.ntmps18
    go_wp2_with fail
    refine bodyPost_ret (results_row_tmp (p := 4) (u := 5) (ty := 26) rfl _ _ (w.heap.size + 1 + 1) 26 _ (0, 0) _ rfl (at_alloc3 _ _ _ _).2.2.2 Tryz.underlying26 rfl (by kernel_rfl)) rfl
      ⟨_, _, _, _, _, _, _, _, _, _, _, _, _, rfl, HP.out _, (at_alloc3 _ _ _ _).1⟩
  · have k4 : (k == 3) = false := by simpa using k3
    clear hk k3
    go_enter Tryz.func18, Tryz.ntmps18
    go_wp2_with fail
    refine bodyPost_ret (results_row_tmp (p := 4) (u := 5) (ty := 26) rfl _ _ (w.heap.size + 1 + 1) 26 _ (0, 0) _ rfl (at_alloc3 _ _ _ _).2.2.2 Tryz.underlying26 rfl (by kernel_rfl)) rfl
      ⟨_, _, _, _, _, _, _, _, _, _, _, _, _, rfl, HP.out _, (at_alloc3 _ _ _ _).1⟩

end Go.Proofs.YtmcahfcihhddjaaGreatDoor
