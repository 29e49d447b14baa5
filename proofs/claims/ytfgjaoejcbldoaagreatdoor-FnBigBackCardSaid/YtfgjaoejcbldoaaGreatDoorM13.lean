/- Contract of package big's Int.Neg at a number that is not 0, the two Ints apart (printed by wip/gen_neg.py). -/
import Derived.Test.YtfgjaoejcbldoaaGreatDoorM12
namespace Go.Proofs.YtfgjaoejcbldoaaGreatDoor
open Go Go.RowKit Go.Deep
set_option maxHeartbeats 4000000 in
set_option maxRecDepth 100000 in
theorem neg_any (w : World) (zb xb : Nat) (z0 zx : Int) (hz : IntIn w w.heap.size z0 zb) (hx : IntIn w w.heap.size zx xb) (hne : xb ≠ zb) (h0 : zx ≠ 0) :
    Calls Tryz.prog 77 #[.pointer (some ⟨zb, 0, none⟩), .pointer (some ⟨xb, 0, none⟩)] w (IntZ w zb (-zx)) := by
  obtain ⟨s, a, n, c, x, hxc, hxn, rfl, _, hxb, hn0, _⟩ := hx.open
  obtain ⟨s0, a0, n0, c0, x0, hzc, _, _, _, hzb, _⟩ := hz.open
  have hx0 : x ≠ 0 := fun e => h0 (by subst e; unfold num; cases s <;> rfl)
  have hnn : 0 < n := by have := hn0.1; omega
  have Hraw := Lib.hid (rawI_a (!s) hz (Below.refl _ _) hxn)
  have HE := Lib.hid (show num (!s) x = -(num s x) by unfold num; cases s <;> simp)
  have Hzb := Lib.hid hzb
  have n1 : xb ≠ zb := hne
  obtain ⟨x3, x2, _, _⟩ := of_block2 hxc
  obtain ⟨z1, z2, z3, z4⟩ := of_block2 hzc
  clear hz hx hxn hxc hzc h0 hn0 hxb hzb
  go_enter Tryz.func77, Tryz.ntmps77
  go_wp2_with fail
  refine wp_region_noPanic ?_
  refine wp_region_held_drew (S := fun w' : World => w'.cell? ⟨xb, 1, none⟩ = some (.slice a n c) ∧ w'.cell? ⟨xb, 0, none⟩ = some (.bool s)) (by kernel_rfl) ?_ (fun hHeld => ?_)
  · exact ⟨x2, x3⟩
  refine wpAnyH_take (i := 0) (oi := { dst := some 5, op := Op.move (Operand.tmp 0), type := 39, pos := "int.go:330", after := #[], guard := none }) (v := ?_) rfl (by kernel_rfl) (by kernel_rfl) (by kernel_rfl) (fun _ _ _ h => h) (Or.inl ⟨by kernel_rfl, ?_⟩) (by assumption) ?_
  rotate_left
  · (intro w' hSw; (try dsimp only at hSw); go_simp; try with_reducible rfl)
  try simp only [Act.put]
  try simp only [List.setIfInBounds_toArray, set_cs]
  refine wpAnyH_take (i := 1) (oi := { dst := some 6, op := Op.move (Operand.tmp 0), type := 39, pos := "int.go:330", after := #[{ on := 21, ground := Ground.gcOnly Departure.lateStores }], guard := none }) (v := ?_) rfl (by kernel_rfl) (by kernel_rfl) (by kernel_rfl) (fun _ _ _ h => h) (Or.inl ⟨by kernel_rfl, ?_⟩) (by assumption) ?_
  rotate_left
  · (intro w' hSw; (try dsimp only at hSw); go_simp; try with_reducible rfl)
  try simp only [Act.put]
  try simp only [List.setIfInBounds_toArray, set_cs]
  refine wpAnyH_take (i := 2) (oi := { dst := some 7, op := Op.move (Operand.tmp 1), type := 39, pos := "int.go:330", after := #[], guard := none }) (v := ?_) rfl (by kernel_rfl) (by kernel_rfl) (by kernel_rfl) (fun _ _ _ h => h) (Or.inl ⟨by kernel_rfl, ?_⟩) (by assumption) ?_
  rotate_left
  · (intro w' hSw; (try dsimp only at hSw); go_simp; try with_reducible rfl)
  try simp only [Act.put]
  try simp only [List.setIfInBounds_toArray, set_cs]
  refine wpAnyH_take (i := 3) (oi := { dst := some 8, op := Op.nilCheck (Operand.tmp 7), type := 0, pos := "int.go:330", after := #[{ on := 2, ground := Ground.data }], guard := none }) (v := ?_) rfl (by kernel_rfl) (by kernel_rfl) (by kernel_rfl) (fun _ _ _ h => h) (Or.inl ⟨by kernel_rfl, ?_⟩) (by assumption) ?_
  rotate_left
  · (intro w' hSw; (try dsimp only at hSw); go_simp; try with_reducible rfl)
  try simp only [Act.put]
  try simp only [List.setIfInBounds_toArray, set_cs]
  refine wpAnyH_take (i := 4) (oi := { dst := some 9, op := Op.fieldAddr 51 (Operand.tmp 8) 1, type := 0, pos := "int.go:330", after := #[{ on := 3, ground := Ground.data }], guard := none }) (v := ?_) rfl (by kernel_rfl) (by kernel_rfl) (by kernel_rfl) (fun _ _ _ h => h) (Or.inl ⟨by kernel_rfl, ?_⟩) (by assumption) ?_
  rotate_left
  · (intro w' hSw; (try dsimp only at hSw); go_simp; try with_reducible rfl)
  try simp only [Act.put]
  try simp only [List.setIfInBounds_toArray, set_cs]
  refine wpAnyH_take (i := 5) (oi := { dst := some 10, op := Op.load 49 (Operand.tmp 9), type := 49, pos := "int.go:330", after := #[{ on := 4, ground := Ground.data }], guard := none }) (v := ?_) rfl (by kernel_rfl) (by kernel_rfl) (by kernel_rfl) (fun _ _ _ h => h) (Or.inl ⟨by kernel_rfl, ?_⟩) (by assumption) ?_
  rotate_left
  · (intro w' hSw; (try dsimp only at hSw); go_simp; try with_reducible rfl)
  try simp only [Act.put]
  try simp only [List.setIfInBounds_toArray, set_cs]
  refine wpAnyH_take (i := 6) (oi := { dst := some 11, op := Op.move (Operand.tmp 1), type := 39, pos := "int.go:330", after := #[], guard := none }) (v := ?_) rfl (by kernel_rfl) (by kernel_rfl) (by kernel_rfl) (fun _ _ _ h => h) (Or.inl ⟨by kernel_rfl, ?_⟩) (by assumption) ?_
  rotate_left
  · (intro w' hSw; (try dsimp only at hSw); go_simp; try with_reducible rfl)
  try simp only [Act.put]
  try simp only [List.setIfInBounds_toArray, set_cs]
  refine wpAnyH_take (i := 7) (oi := { dst := some 12, op := Op.nilCheck (Operand.tmp 11), type := 0, pos := "int.go:330", after := #[{ on := 6, ground := Ground.data }], guard := none }) (v := ?_) rfl (by kernel_rfl) (by kernel_rfl) (by kernel_rfl) (fun _ _ _ h => h) (Or.inl ⟨by kernel_rfl, ?_⟩) (by assumption) ?_
  rotate_left
  · (intro w' hSw; (try dsimp only at hSw); go_simp; try with_reducible rfl)
  try simp only [Act.put]
  try simp only [List.setIfInBounds_toArray, set_cs]
  refine wpAnyH_take (i := 8) (oi := { dst := some 13, op := Op.fieldAddr 51 (Operand.tmp 12) 1, type := 0, pos := "int.go:330", after := #[{ on := 7, ground := Ground.data }], guard := none }) (v := ?_) rfl (by kernel_rfl) (by kernel_rfl) (by kernel_rfl) (fun _ _ _ h => h) (Or.inl ⟨by kernel_rfl, ?_⟩) (by assumption) ?_
  rotate_left
  · (intro w' hSw; (try dsimp only at hSw); go_simp; try with_reducible rfl)
  try simp only [Act.put]
  try simp only [List.setIfInBounds_toArray, set_cs]
  refine wpAnyH_take (i := 9) (oi := { dst := some 14, op := Op.load 49 (Operand.tmp 13), type := 49, pos := "int.go:330", after := #[{ on := 8, ground := Ground.data }], guard := none }) (v := ?_) rfl (by kernel_rfl) (by kernel_rfl) (by kernel_rfl) (fun _ _ _ h => h) (Or.inl ⟨by kernel_rfl, ?_⟩) (by assumption) ?_
  rotate_left
  · (intro w' hSw; (try dsimp only at hSw); go_simp; try with_reducible rfl)
  try simp only [Act.put]
  try simp only [List.setIfInBounds_toArray, set_cs]
  refine wpAnyH_take (i := 10) (oi := { dst := some 15, op := Op.call { callee := Callee.builtin Builtin.len, args := #[Operand.tmp 14], argTypes := #[49] }, type := 3, pos := "int.go:330", after := #[{ on := 9, ground := Ground.data }], guard := none }) (v := ?_) rfl (by kernel_rfl) (by kernel_rfl) (by kernel_rfl) (fun _ _ _ h => h) (Or.inl ⟨by kernel_rfl, ?_⟩) (by assumption) ?_
  rotate_left
  · (intro w' hSw; (try dsimp only at hSw); go_simp; try with_reducible rfl)
  try simp only [Act.put]
  try simp only [List.setIfInBounds_toArray, set_cs]
  refine wpAnyH_take (i := 11) (oi := { dst := some 16, op := Op.binOp BinOp.gtr 3 (Operand.tmp 15) (Operand.const (Value.int IntKind.i64 0)) 3, type := 4, pos := "int.go:330", after := #[{ on := 10, ground := Ground.data }], guard := none }) (v := ?_) rfl (by kernel_rfl) (by kernel_rfl) (by kernel_rfl) (fun _ _ _ h => h) (Or.inl ⟨by kernel_rfl, ?_⟩) (by assumption) ?_
  rotate_left
  · (intro w' hSw; (try dsimp only at hSw); go_simp; try with_reducible rfl)
  try simp only [Act.put]
  try simp only [List.setIfInBounds_toArray, set_cs]
  refine wpAnyH_take (i := 12) (oi := { dst := some 17, op := Op.move (Operand.tmp 16), type := 4, pos := "int.go:330", after := #[{ on := 11, ground := Ground.data }], guard := none }) (v := ?_) rfl (by kernel_rfl) (by kernel_rfl) (by kernel_rfl) (fun _ _ _ h => h) (Or.inl ⟨by kernel_rfl, ?_⟩) (by assumption) ?_
  rotate_left
  · (intro w' hSw; (try dsimp only at hSw); go_simp; try with_reducible rfl)
  try simp only [Act.put]
  try simp only [List.setIfInBounds_toArray, set_cs]
  refine wpAnyH_take (i := 13) (oi := { dst := some 18, op := Op.move (Operand.tmp 1), type := 39, pos := "int.go:330", after := #[{ on := 12, ground := Ground.guard }], guard := some (12, true) }) (v := ?_) rfl (by kernel_rfl) (by kernel_rfl) (by kernel_rfl) (fun _ _ _ h => h) (Or.inl ⟨by kernel_rfl, ?_⟩) (by assumption) ?_
  rotate_left
  · (intro w' hSw; (try dsimp only at hSw); go_simp; try with_reducible rfl)
  try simp only [Act.put]
  try simp only [List.setIfInBounds_toArray, set_cs]
  refine wpAnyH_take (i := 14) (oi := { dst := some 19, op := Op.nilCheck (Operand.tmp 18), type := 0, pos := "int.go:330", after := #[{ on := 13, ground := Ground.data }, { on := 12, ground := Ground.guard }], guard := some (12, true) }) (v := ?_) rfl (by kernel_rfl) (by kernel_rfl) (by kernel_rfl) (fun _ _ _ h => h) (Or.inl ⟨by kernel_rfl, ?_⟩) (by assumption) ?_
  rotate_left
  · (intro w' hSw; (try dsimp only at hSw); go_simp; try with_reducible rfl)
  try simp only [Act.put]
  try simp only [List.setIfInBounds_toArray, set_cs]
  refine wpAnyH_take (i := 15) (oi := { dst := some 20, op := Op.fieldAddr 51 (Operand.tmp 19) 0, type := 0, pos := "int.go:330", after := #[{ on := 14, ground := Ground.data }, { on := 12, ground := Ground.guard }], guard := some (12, true) }) (v := ?_) rfl (by kernel_rfl) (by kernel_rfl) (by kernel_rfl) (fun _ _ _ h => h) (Or.inl ⟨by kernel_rfl, ?_⟩) (by assumption) ?_
  rotate_left
  · (intro w' hSw; (try dsimp only at hSw); go_simp; try with_reducible rfl)
  try simp only [Act.put]
  try simp only [List.setIfInBounds_toArray, set_cs]
  refine wpAnyH_take (i := 16) (oi := { dst := some 21, op := Op.load 4 (Operand.tmp 20), type := 4, pos := "int.go:330", after := #[{ on := 15, ground := Ground.data }, { on := 12, ground := Ground.guard }], guard := some (12, true) }) (v := ?_) rfl (by kernel_rfl) (by kernel_rfl) (by kernel_rfl) (fun _ _ _ h => h) (Or.inl ⟨by kernel_rfl, ?_⟩) (by assumption) ?_
  rotate_left
  · (intro w' hSw; (try dsimp only at hSw); go_simp; try with_reducible rfl)
  try simp only [Act.put]
  try simp only [List.setIfInBounds_toArray, set_cs]
  refine wpAnyH_take (i := 17) (oi := { dst := some 22, op := Op.unOp UnOp.not 4 (Operand.tmp 21), type := 4, pos := "int.go:330", after := #[{ on := 16, ground := Ground.data }, { on := 12, ground := Ground.guard }], guard := some (12, true) }) (v := ?_) rfl (by kernel_rfl) (by kernel_rfl) (by kernel_rfl) (fun _ _ _ h => h) (Or.inl ⟨by kernel_rfl, ?_⟩) (by assumption) ?_
  rotate_left
  · (intro w' hSw; (try dsimp only at hSw); go_simp; try with_reducible rfl)
  try simp only [Act.put]
  try simp only [List.setIfInBounds_toArray, set_cs]
  refine wpAnyH_take (i := 18) (oi := { dst := some 23, op := Op.pick (Operand.tmp 17) (Operand.tmp 22) (Operand.const (Value.bool false)), type := 4, pos := "int.go:330", after := #[{ on := 12, ground := Ground.data }, { on := 17, ground := Ground.data }], guard := none }) (v := ?_) rfl (by kernel_rfl) (by kernel_rfl) (by kernel_rfl) (fun _ _ _ h => h) (Or.inl ⟨by kernel_rfl, ?_⟩) (by assumption) ?_
  rotate_left
  · (intro w' hSw; (try dsimp only at hSw); go_simp; try with_reducible rfl)
  try simp only [Act.put]
  try simp only [List.setIfInBounds_toArray, set_cs]
  refine wpAnyH_take (i := 19) (oi := { dst := some 24, op := Op.nilCheck (Operand.tmp 5), type := 0, pos := "int.go:330", after := #[{ on := 0, ground := Ground.data }, { on := 0, ground := Ground.phase }, { on := 1, ground := Ground.textOnly Departure.lateStores }, { on := 2, ground := Ground.phase }, { on := 3, ground := Ground.phase }, { on := 4, ground := Ground.phase }, { on := 5, ground := Ground.phase }, { on := 6, ground := Ground.textOnly Departure.lateStores }, { on := 7, ground := Ground.textOnly Departure.lateStoresUnsure }, { on := 8, ground := Ground.textOnly Departure.lateStoresUnsure }, { on := 9, ground := Ground.phase }, { on := 10, ground := Ground.textOnly Departure.lateStoresUnsure }, { on := 11, ground := Ground.textOnly Departure.lateStoresUnsure }, { on := 12, ground := Ground.textOnly Departure.lateStoresUnsure }, { on := 13, ground := Ground.textOnly Departure.lateStores }, { on := 14, ground := Ground.textOnly Departure.lateStoresUnsure }, { on := 15, ground := Ground.textOnly Departure.lateStores }, { on := 16, ground := Ground.phase }, { on := 17, ground := Ground.textOnly Departure.lateStoresUnsure }, { on := 18, ground := Ground.textOnly Departure.lateStoresUnsure }], guard := none }) (v := ?_) rfl (by kernel_rfl) (by kernel_rfl) (by kernel_rfl) (fun _ _ _ h => h) (Or.inl ⟨by kernel_rfl, ?_⟩) (by assumption) ?_
  rotate_left
  · (intro w' hSw; (try dsimp only at hSw); go_simp; try with_reducible rfl)
  try simp only [Act.put]
  try simp only [List.setIfInBounds_toArray, set_cs]
  refine wpAnyH_take (i := 20) (oi := { dst := some 25, op := Op.fieldAddr 51 (Operand.tmp 24) 1, type := 0, pos := "int.go:330", after := #[{ on := 19, ground := Ground.data }, { on := 0, ground := Ground.phase }, { on := 1, ground := Ground.textOnly Departure.lateStores }, { on := 2, ground := Ground.phase }, { on := 3, ground := Ground.phase }, { on := 4, ground := Ground.phase }, { on := 5, ground := Ground.phase }, { on := 6, ground := Ground.textOnly Departure.lateStores }, { on := 7, ground := Ground.textOnly Departure.lateStoresUnsure }, { on := 8, ground := Ground.textOnly Departure.lateStoresUnsure }, { on := 9, ground := Ground.phase }, { on := 10, ground := Ground.textOnly Departure.lateStoresUnsure }, { on := 11, ground := Ground.textOnly Departure.lateStoresUnsure }, { on := 12, ground := Ground.textOnly Departure.lateStoresUnsure }, { on := 13, ground := Ground.textOnly Departure.lateStores }, { on := 14, ground := Ground.textOnly Departure.lateStoresUnsure }, { on := 15, ground := Ground.textOnly Departure.lateStores }, { on := 16, ground := Ground.phase }, { on := 17, ground := Ground.textOnly Departure.lateStoresUnsure }, { on := 18, ground := Ground.textOnly Departure.lateStoresUnsure }], guard := none }) (v := ?_) rfl (by kernel_rfl) (by kernel_rfl) (by kernel_rfl) (fun _ _ _ h => h) (Or.inl ⟨by kernel_rfl, ?_⟩) (by assumption) ?_
  rotate_left
  · (intro w' hSw; (try dsimp only at hSw); go_simp; try with_reducible rfl)
  try simp only [Act.put]
  try simp only [List.setIfInBounds_toArray, set_cs]
  refine wpAnyH_ready (rs := [21]) (by kernel_rfl) (by simp) ?_
  refine AllReadyH.cons rfl (fun K hK => ?_) AllReadyH.nil
  go_simp
  refine hK.out _ _ ?_ (fun hHeld => ?_)
  · (refine ⟨?_, ?_⟩ <;> (repeat refine cell_set ?_ n1) <;> first | exact x2 | exact x3)
  clear hK K
  try simp only [Act.put]
  try simp only [List.setIfInBounds_toArray, set_cs]
  refine wpAnyH_take (i := 22) (oi := { dst := some 26, op := Op.nilCheck (Operand.tmp 6), type := 0, pos := "int.go:330", after := #[{ on := 1, ground := Ground.data }, { on := 0, ground := Ground.phase }, { on := 1, ground := Ground.phase }, { on := 2, ground := Ground.phase }, { on := 3, ground := Ground.phase }, { on := 4, ground := Ground.phase }, { on := 5, ground := Ground.phase }, { on := 6, ground := Ground.phase }, { on := 7, ground := Ground.phase }, { on := 8, ground := Ground.phase }, { on := 9, ground := Ground.phase }, { on := 10, ground := Ground.phase }, { on := 11, ground := Ground.phase }, { on := 12, ground := Ground.phase }, { on := 13, ground := Ground.phase }, { on := 14, ground := Ground.phase }, { on := 15, ground := Ground.phase }, { on := 16, ground := Ground.phase }, { on := 17, ground := Ground.phase }, { on := 18, ground := Ground.phase }, { on := 19, ground := Ground.phase }, { on := 20, ground := Ground.phase }, { on := 21, ground := Ground.phase }], guard := none }) (v := ?_) rfl (by kernel_rfl) (by kernel_rfl) (by kernel_rfl) (fun _ _ _ h => h) (Or.inl ⟨by kernel_rfl, ?_⟩) (by assumption) ?_
  rotate_left
  · (intro w' hSw; (try dsimp only at hSw); go_simp; try with_reducible rfl)
  try simp only [Act.put]
  try simp only [List.setIfInBounds_toArray, set_cs]
  refine wpAnyH_take (i := 23) (oi := { dst := some 27, op := Op.fieldAddr 51 (Operand.tmp 26) 0, type := 0, pos := "int.go:330", after := #[{ on := 22, ground := Ground.data }, { on := 0, ground := Ground.phase }, { on := 1, ground := Ground.phase }, { on := 2, ground := Ground.phase }, { on := 3, ground := Ground.phase }, { on := 4, ground := Ground.phase }, { on := 5, ground := Ground.phase }, { on := 6, ground := Ground.phase }, { on := 7, ground := Ground.phase }, { on := 8, ground := Ground.phase }, { on := 9, ground := Ground.phase }, { on := 10, ground := Ground.phase }, { on := 11, ground := Ground.phase }, { on := 12, ground := Ground.phase }, { on := 13, ground := Ground.phase }, { on := 14, ground := Ground.phase }, { on := 15, ground := Ground.phase }, { on := 16, ground := Ground.phase }, { on := 17, ground := Ground.phase }, { on := 18, ground := Ground.phase }, { on := 19, ground := Ground.phase }, { on := 20, ground := Ground.phase }, { on := 21, ground := Ground.phase }], guard := none }) (v := ?_) rfl (by kernel_rfl) (by kernel_rfl) (by kernel_rfl) (fun _ _ _ h => h) (Or.inl ⟨by kernel_rfl, ?_⟩) (by assumption) ?_
  rotate_left
  · (intro w' hSw; (try dsimp only at hSw); go_simp; try with_reducible rfl)
  try simp only [Act.put]
  try simp only [List.setIfInBounds_toArray, set_cs]
  refine wpAnyH_ready (rs := [24]) (by kernel_rfl) (by simp) ?_
  refine AllReadyH.cons rfl (fun K hK => ?_) AllReadyH.nil
  go_simp
  refine hK.out _ _ ?_ (fun hHeld => ?_)
  · (refine ⟨?_, ?_⟩ <;> (repeat refine cell_set ?_ n1) <;> first | exact x2 | exact x3)
  clear hK K
  refine wpAnyH_done (by kernel_rfl) ?_ _
  refine NoPanic.normal ?_
  try simp only [Act.put]
  go_wp2_with fail
  have HF := Lib.hid (show IntZ w zb (-(num s x)) (.returned (.pointer (some ⟨zb, 0, none⟩))) ((w.setCell ⟨zb, 1, none⟩ (.slice a n c)).setCell ⟨zb, 0, none⟩ (.bool (!s))).drew from by
    obtain ⟨q1, q2, q3⟩ := Hraw.out.drew
    exact ⟨rfl, by rw [← HE.out]; exact int_mk q1 q2 rfl (fun e => absurd e hx0), q3⟩)
  go_ret
  exact HF.out
end Go.Proofs.YtfgjaoejcbldoaaGreatDoor
