/- laws.FnDelThenSet. -/
import Derived.Test.YtjlkoekfcdpnaaaGreatDoorM20
import Derived.Test.YtjlkoekfcdpnaaaGreatDoorM16
import Derived.Test.YtjlkoekfcdpnaaaGreatDoorM14
import Derived.Deep.RegionHeld3
import Derived.Deep.DeepCutAuto
import Derived.Deep.CutBlock
import Derived.BigQuiet
namespace Go.Proofs.YtjlkoekfcdpnaaaGreatDoor
open Go Go.RowKit Go.Deep
set_option maxHeartbeats 4000000 in
set_option maxRecDepth 100000 in
theorem fnDelThenSet_any (w : World) (v : V) (cv : List Value) (hv : RepV w w.heap.size v cv) (p : List V) (pa : Option Addr) (pc : Nat) (C : Nat → List Value) (hpl : p.length * 104 ≤ 140737488351232)
    (cp : 0 < p.length → ∃ b o, pa = some ⟨b, o, none⟩ ∧ b < w.heap.size ∧ ∀ i, i < p.length → CellsAt w b (o + i * 6) (C i)) (rp : ∀ i (hi : i < p.length), RepV w w.heap.size p[i] (C i)) (hpc : p.length ≤ pc)
    (x : V) (cx : List Value) (hx : RepV w w.heap.size x cx) (hTB : TabsB w w.heap.size) :
    Calls Tryz.prog 3 #[.agg cv.toArray, .slice pa p.length pc, .agg cx.toArray] w (Yes w) := by
  have hP := rep_array hpl cp rp hpc
  have Za := Lib.hid fun (w' : World) (h : Below w.heap.size w w') => zz1_any w' v cv (hv.carry h h.size)
  have Zx := Lib.hid fun (w' : World) (h : Below w.heap.size w w') => zz1_any w' x cx (hx.carry h h.size)
  have Fi := Lib.hid fun (w' : World) (h : Below w.heap.size w w') z h0 h1 h2 hzl c => fits3_any w' v (.mk 5 0 ⟨#[]⟩ p [] []) x cv _ cx (hv.carry h h.size) (hP.carry h h.size) (hx.carry h h.size) z h0 h1 h2 hzl (hTB.carry h h.size) c
  have cpc := fun (w' : World) (h : Below w.heap.size w w') => (fun h0 => by
    obtain ⟨b, o, e, hb, hc⟩ := cp h0
    exact ⟨b, o, e, Nat.lt_of_lt_of_le hb h.size, fun i hi => (hc i hi).below h hb⟩ : 0 < p.length → ∃ b o, pa = some ⟨b, o, none⟩ ∧ b < w'.heap.size ∧ ∀ i, i < p.length → CellsAt w' b (o + i * 6) (C i))
  have St := Lib.hid fun (w' : World) (h : Below w.heap.size w w') => straight_any w' p pa pc C hpl (cpc w' h) (fun i hi => (rp i hi).carry h h.size)
  have Ke := Lib.hid fun (w' : World) (h : Below w.heap.size w w') => keyed_any w' p pa pc C hpl (cpc w' h) (fun i hi => (rp i hi).carry h h.size)
  have Pl : Hid (([v, .mk 5 0 ⟨#[]⟩ p [] [], x].all fitB && (straightB p && keyedB p)) = true → ∃ s o, DelPlan v p x s o) := Lib.hid fun h => delPlan_of hv rp h
  have Hv := Lib.hid fun (w' : World) (h : Below w.heap.size w w') => hv.carry h h.size
  have Hx := Lib.hid fun (w' : World) (h : Below w.heap.size w w') => hx.carry h h.size
  have Hp := Lib.hid fun (w' : World) (h : Below w.heap.size w w') => hP.carry h h.size
  generalize [v, .mk 5 0 ⟨#[]⟩ p [] [], x].all fitB = fb at *
  generalize straightB p = sb at *
  generalize keyedB p = kb at *
  obtain ⟨k, h, t, la, ka, va, nl, cl, nk, ck, nv, cv, rfl⟩ := hv.shape
  obtain ⟨kx, hx', tx, lax, kax, vax, nlx, clx, nkx, ckx, nvx, cvx, rfl⟩ := hx.shape
  clear hv hx hTB hP cpc cp rp
  go_enter Tryz.func3, Tryz.ntmps3
  go_wp2_with fail
  have hbW := below_alloc2 w (.cells #[.int .i64 k, .int .i64 h, .string t, .slice la nl cl, .slice ka nk ck, .slice va nv cv] 26) (.cells #[.int .i64 kx, .int .i64 hx', .string tx, .slice lax nlx clx, .slice kax nkx ckx, .slice vax nvx cvx] 26)
  have hx0 := at_alloc20 w (.cells #[.int .i64 k, .int .i64 h, .string t, .slice la nl cl, .slice ka nk ck, .slice va nv cv] 26) (.cells #[.int .i64 kx, .int .i64 hx', .string tx, .slice lax nlx clx, .slice kax nkx ckx, .slice vax nvx cvx] 26)
  have hx1 := at_alloc2 w (.cells #[.int .i64 k, .int .i64 h, .string t, .slice la nl cl, .slice ka nk ck, .slice va nv cv] 26) (.cells #[.int .i64 kx, .int .i64 hx', .string tx, .slice lax nlx clx, .slice kax nkx ckx, .slice vax nvx cvx] 26)
  have hsW := size_alloc2 w (.cells #[.int .i64 k, .int .i64 h, .string t, .slice la nl cl, .slice ka nk ck, .slice va nv cv] 26) (.cells #[.int .i64 kx, .int .i64 hx', .string tx, .slice lax nlx clx, .slice kax nkx ckx, .slice vax nvx cvx] 26)
  refine (Za.out _ hbW).mono ?_
  generalize (w.alloc _).alloc _ = W at *
  rintro e w1 ⟨⟨za, rfl⟩, hw1⟩
  have hs1 : w.heap.size + 2 ≤ w1.heap.size := by have := hw1.size; omega
  have y0 := (hw1.block w.heap.size (by omega)).trans hx0
  have y1 := (hw1.block (w.heap.size + 1) (by omega)).trans hx1
  have hb1 : Below w.heap.size w w1 := hbW.trans (hw1.mono (by omega))
  clear hw1 hbW hx0 hx1 hsW
  cases za with
  | false =>
    go_wp2_with fail
    go_ret
    exact ⟨rfl, hb1⟩
  | true =>
  by_cases hbig : (p.length : Int) > 2147483647
  · go_wp2_with fail
    go_ret
    exact ⟨rfl, hb1⟩
  obtain ⟨a0, a1, a2, a3, a4, a5⟩ := of_block6 y1
  go_wp2_with fail
  refine (Zx.out _ hb1).mono ?_
  rintro e wX ⟨⟨zb, rfl⟩, hw2⟩
  have hsX : w.heap.size + 2 ≤ wX.heap.size := by have := hw2.size; omega
  have x0 := (hw2.block w.heap.size (by omega)).trans y0
  have x1 := (hw2.block (w.heap.size + 1) (by omega)).trans y1
  have hbX : Below w.heap.size w wX := hb1.trans (hw2.mono (by omega))
  clear hw2 hb1 y0 y1 a0 a1 a2 a3 a4 a5 Za Zx hs1
  cases zb with
  | false =>
    go_wp2_with fail
    go_ret
    exact ⟨rfl, hbX⟩
  | true =>
  go_upto_region 3 with fail
  have hold : ∀ w', Below wX.heap.size wX w' → (fun w' : World => w'.cell? ⟨w.heap.size, 0, none⟩ = some (.int .i64 k) ∧ w'.cell? ⟨w.heap.size, 1, none⟩ = some (.int .i64 h) ∧ w'.cell? ⟨w.heap.size, 2, none⟩ = some (.string t) ∧ w'.cell? ⟨w.heap.size, 3, none⟩ = some (.slice la nl cl) ∧ w'.cell? ⟨w.heap.size, 4, none⟩ = some (.slice ka nk ck) ∧ w'.cell? ⟨w.heap.size, 5, none⟩ = some (.slice va nv cv) ∧ w'.cell? ⟨w.heap.size + 1, 0, none⟩ = some (.int .i64 kx) ∧ w'.cell? ⟨w.heap.size + 1, 1, none⟩ = some (.int .i64 hx') ∧ w'.cell? ⟨w.heap.size + 1, 2, none⟩ = some (.string tx) ∧ w'.cell? ⟨w.heap.size + 1, 3, none⟩ = some (.slice lax nlx clx) ∧ w'.cell? ⟨w.heap.size + 1, 4, none⟩ = some (.slice kax nkx ckx) ∧ w'.cell? ⟨w.heap.size + 1, 5, none⟩ = some (.slice vax nvx cvx) ∧ Below wX.heap.size wX w') w' := by
    intro w' hw
    obtain ⟨a0, a1, a2, a3, a4, a5⟩ := of_block6 ((hw.block w.heap.size (by omega)).trans x0)
    obtain ⟨b0, b1, b2, b3, b4, b5⟩ := of_block6 ((hw.block (w.heap.size + 1) (by omega)).trans x1)
    exact ⟨a0, a1, a2, a3, a4, a5, b0, b1, b2, b3, b4, b5, hw⟩
  have Hold := Lib.hid hold
  have HbX := Lib.hid hbX
  have X0 := Lib.hid fun (_ : True) => x0
  have X1 := Lib.hid fun (_ : True) => x1
  have Ar : Hid (∀ w', Below wX.heap.size wX w' → Calls Tryz.prog 6 #[.slice pa p.length pc] w' fun e w'' => e = .returned (.agg #[.int .i64 5, .int .i64 0, .string ⟨#[]⟩, .slice pa p.length pc, .slice none 0 0, .slice none 0 0]) ∧ Below wX.heap.size wX w'' ∧ Below w'.heap.size w' w'') :=
    Lib.hid fun w' hw => (larray_any pa p.length pc w').mono fun e w'' h => ⟨h.1, hw.trans (h.2.mono hw.size), h.2⟩
  have hwd : Below wX.heap.size wX wX.drew := Below.drew (Below.refl _ _)
  clear hold hbX x0 x1 hbig
  go_cut [38] (fun s38 wx => s38 = .bool (!(fb && (sb && kb))) ∧ Below wX.heap.size wX wx)
  case first =>
    --[
    have Fi2 : Hid (∀ w' (c : Nat), Below wX.heap.size wX w' → Calls Tryz.prog 5 #[.slice (some ⟨w'.heap.size, 0, none⟩) 3 c] (w'.alloc (.cells #[.int .i64 k, .int .i64 h, .string t, .slice la nl cl, .slice ka nk ck, .slice va nv cv, .int .i64 5, .int .i64 0, .string ⟨#[]⟩, .slice pa p.length pc, .slice none 0 0, .slice none 0 0, .int .i64 kx, .int .i64 hx', .string tx, .slice lax nlx clx, .slice kax nkx ckx, .slice vax nvx cvx] 26))
        fun e w'' => e = .returned (.bool fb) ∧ Below wX.heap.size wX w'') :=
      Lib.hid fun w' c hw => by
        have hc := triple_cells (at_alloc w' (.cells #[.int .i64 k, .int .i64 h, .string t, .slice la nl cl, .slice ka nk ck, .slice va nv cv, .int .i64 5, .int .i64 0, .string ⟨#[]⟩, .slice pa p.length pc, .slice none 0 0, .slice none 0 0, .int .i64 kx, .int .i64 hx', .string tx, .slice lax nlx clx, .slice kax nkx ckx, .slice vax nvx cvx] 26))
        have hs := hw.size
        have hs2 := HbX.out.size
        have hsz := size_alloc1 w' (.cells #[.int .i64 k, .int .i64 h, .string t, .slice la nl cl, .slice ka nk ck, .slice va nv cv, .int .i64 5, .int .i64 0, .string ⟨#[]⟩, .slice pa p.length pc, .slice none 0 0, .slice none 0 0, .int .i64 kx, .int .i64 hx', .string tx, .slice lax nlx clx, .slice kax nkx ckx, .slice vax nvx cvx] 26)
        exact (Fi.out (w'.alloc (.cells #[.int .i64 k, .int .i64 h, .string t, .slice la nl cl, .slice ka nk ck, .slice va nv cv, .int .i64 5, .int .i64 0, .string ⟨#[]⟩, .slice pa p.length pc, .slice none 0 0, .slice none 0 0, .int .i64 kx, .int .i64 hx', .string tx, .slice lax nlx clx, .slice kax nkx ckx, .slice vax nvx cvx] 26)) (keep_alloc (HbX.out.trans (hw.mono HbX.out.size)) (by omega) _) w'.heap.size hc.1 hc.2.1 hc.2.2 (by omega) c).mono fun e w'' h => ⟨h.1, (keep_alloc hw hw.size _).trans (h.2.mono (by omega))⟩
    have St2 : Hid (∀ w', Below wX.heap.size wX w' → Calls Tryz.prog 7 #[.slice pa p.length pc] w' fun e w'' => e = .returned (.bool sb) ∧ Below wX.heap.size wX w'') :=
      Lib.hid fun w' hw => (St.out w' (HbX.out.trans (hw.mono HbX.out.size))).mono fun e w'' h => ⟨h.1, hw.trans (h.2.mono hw.size)⟩
    have Ke2 : Hid (∀ w', Below wX.heap.size wX w' → Calls Tryz.prog 8 #[.slice pa p.length pc] w' fun e w'' => e = .returned (.bool kb) ∧ Below wX.heap.size wX w'') :=
      Lib.hid fun w' hw => (Ke.out w' (HbX.out.trans (hw.mono HbX.out.size))).mono fun e w'' h => ⟨h.1, hw.trans (h.2.mono hw.size)⟩
    clear Fi St Ke Pl Hv Hx Hp X0 X1 HbX
    cases fb with
    | false =>
      refine wp_region_noPanic ?_
      refine wp_region_held_drew (S := fun w' : World => w'.cell? ⟨w.heap.size, 0, none⟩ = some (.int .i64 k) ∧ w'.cell? ⟨w.heap.size, 1, none⟩ = some (.int .i64 h) ∧ w'.cell? ⟨w.heap.size, 2, none⟩ = some (.string t) ∧ w'.cell? ⟨w.heap.size, 3, none⟩ = some (.slice la nl cl) ∧ w'.cell? ⟨w.heap.size, 4, none⟩ = some (.slice ka nk ck) ∧ w'.cell? ⟨w.heap.size, 5, none⟩ = some (.slice va nv cv) ∧ w'.cell? ⟨w.heap.size + 1, 0, none⟩ = some (.int .i64 kx) ∧ w'.cell? ⟨w.heap.size + 1, 1, none⟩ = some (.int .i64 hx') ∧ w'.cell? ⟨w.heap.size + 1, 2, none⟩ = some (.string tx) ∧ w'.cell? ⟨w.heap.size + 1, 3, none⟩ = some (.slice lax nlx clx) ∧ w'.cell? ⟨w.heap.size + 1, 4, none⟩ = some (.slice kax nkx ckx) ∧ w'.cell? ⟨w.heap.size + 1, 5, none⟩ = some (.slice vax nvx cvx) ∧ Below wX.heap.size wX w') (by kernel_rfl) ?_ (fun hHeld => ?_)
      · (with_reducible refine Hold.out _ ?_; first | with_reducible assumption | with_reducible exact keep_alloc (by assumption) (Below.size (by assumption)) _)
      refine wpAnyH_take (i := 0) (v := ?_) rfl (by kernel_rfl) (by kernel_rfl) (by kernel_rfl) (fun _ _ _ h => h) (Or.inl ⟨by rfl, ?_⟩) (by assumption) ?_
      rotate_left
      · (intro w' hSw; (try dsimp only at hSw); go_simp; try with_reducible rfl)
      try simp only [Act.put]
      try simp only [List.setIfInBounds_toArray]
      refine wpAnyH_take (i := 1) (v := ?_) rfl (by kernel_rfl) (by kernel_rfl) (by kernel_rfl) (fun _ _ _ h => h) (Or.inl ⟨by rfl, ?_⟩) (by assumption) ?_
      rotate_left
      · (intro w' hSw; (try dsimp only at hSw); go_simp; try with_reducible rfl)
      try simp only [Act.put]
      try simp only [List.setIfInBounds_toArray, set_cs]
      refine wpAnyH_take (i := 3) (v := ?_) rfl (by kernel_rfl) (by kernel_rfl) (by kernel_rfl) (fun _ _ _ h => h) (Or.inl ⟨by rfl, ?_⟩) (by assumption) ?_
      rotate_left
      · (intro w' hSw; (try dsimp only at hSw); go_simp; try with_reducible rfl)
      try simp only [Act.put]
      try simp only [List.setIfInBounds_toArray, set_cs]
      refine wpAnyH_ready (rs := [2]) (by kernel_rfl) (by simp) ?_
      refine AllReadyH.cons rfl (fun K hK => ?_) AllReadyH.nil
      go_simp
      go_at_call 6; refine (Ar.out _ (below_of12 (by assumption))).mono ?_; rintro e w6 ⟨rfl, hw6, hw6b⟩
      go_wp2_with fail
      refine hK.out _ _ ?_ (fun hHeld => ?_)
      · (with_reducible refine Hold.out _ ?_; first | with_reducible assumption | with_reducible exact keep_alloc (by assumption) (Below.size (by assumption)) _)
      clear hK K
      try simp only [Act.put]
      try simp only [List.setIfInBounds_toArray, set_cs]
      refine wpAnyH_ready (rs := [4]) (by kernel_rfl) (by simp) ?_
      refine AllReadyH.cons rfl (fun K hK => ?_) AllReadyH.nil
      go_simp
      refine hK.out _ _ ?_ (fun hHeld => ?_)
      · (with_reducible refine Hold.out _ ?_; first | with_reducible assumption | with_reducible exact keep_alloc (by assumption) (Below.size (by assumption)) _)
      clear hK K
      try simp only [Act.put]
      try simp only [List.setIfInBounds_toArray, set_cs]
      refine wpAnyH_ready (rs := [5]) (by kernel_rfl) (by simp) ?_
      refine AllReadyH.cons rfl (fun K hK => ?_) AllReadyH.nil
      go_simp
      go_at_call 5; refine (Fi2.out _ _ (by assumption)).mono ?_; rintro e w7 ⟨rfl, hw7⟩
      go_wp2_with fail
      refine hK.out _ _ ?_ (fun hHeld => ?_)
      · (with_reducible refine Hold.out _ ?_; first | with_reducible assumption | with_reducible exact keep_alloc (by assumption) (Below.size (by assumption)) _)
      clear hK K
      try simp only [Act.put]
      try simp only [List.setIfInBounds_toArray, set_cs]
      refine wpAnyH_take (i := 6) (oi := { dst := some 28, op := Op.unOp UnOp.not 4 (Operand.tmp 27), type := 4, pos := "laws_deep_wt04c.go:91", after := #[{ on := 5, ground := Ground.data }], guard := none }) (v := ?_) rfl (by kernel_rfl) (by kernel_rfl) (by kernel_rfl) (fun _ _ _ h => h) (Or.inl ⟨by rfl, ?_⟩) (by assumption) ?_
      rotate_left
      · (intro w' hSw; (try dsimp only at hSw); go_simp; try with_reducible rfl)
      try simp only [Act.put]
      try simp only [List.setIfInBounds_toArray, set_cs]
      refine wpAnyH_take (i := 7) (oi := { dst := some 29, op := Op.move (Operand.tmp 28), type := 4, pos := "laws_deep_wt04c.go:91", after := #[{ on := 6, ground := Ground.data }, { on := 5, ground := Ground.chain }], guard := none }) (v := ?_) rfl (by kernel_rfl) (by kernel_rfl) (by kernel_rfl) (fun _ _ _ h => h) (Or.inl ⟨by rfl, ?_⟩) (by assumption) ?_
      rotate_left
      · (intro w' hSw; (try dsimp only at hSw); go_simp; try with_reducible rfl)
      try simp only [Act.put]
      try simp only [List.setIfInBounds_toArray, set_cs]
      refine wpAnyH_take (i := 8) (oi := { dst := some 30, op := Op.move (Operand.tmp 1), type := 23, pos := "laws_deep_wt04c.go:91", after := #[{ on := 7, ground := Ground.guard }], guard := some (7, false) }) (v := undef) rfl (by kernel_rfl) (by kernel_rfl) (by kernel_rfl) (fun _ _ _ h => h) ?_ (by assumption) ?_
      · (refine Or.inr ⟨?_, rfl⟩; kernel_rfl)
      try simp only [Act.put]
      try simp only [List.setIfInBounds_toArray, set_cs]
      refine wpAnyH_take (i := 9) (oi := { dst := some 31, op := Op.call { callee := Callee.value (Operand.func 7), args := #[Operand.tmp 30], argTypes := #[23] }, type := 4, pos := "laws_deep_wt04c.go:91", after := #[{ on := 8, ground := Ground.data }, { on := 7, ground := Ground.chain }, { on := 7, ground := Ground.guard }], guard := some (7, false) }) (v := undef) rfl (by kernel_rfl) (by kernel_rfl) (by kernel_rfl) (fun _ _ _ h => h) ?_ (by assumption) ?_
      · (refine Or.inr ⟨?_, rfl⟩; kernel_rfl)
      try simp only [Act.put]
      try simp only [List.setIfInBounds_toArray, set_cs]
      refine wpAnyH_take (i := 10) (oi := { dst := some 32, op := Op.unOp UnOp.not 4 (Operand.tmp 31), type := 4, pos := "laws_deep_wt04c.go:91", after := #[{ on := 9, ground := Ground.data }, { on := 7, ground := Ground.guard }], guard := some (7, false) }) (v := undef) rfl (by kernel_rfl) (by kernel_rfl) (by kernel_rfl) (fun _ _ _ h => h) ?_ (by assumption) ?_
      · (refine Or.inr ⟨?_, rfl⟩; kernel_rfl)
      try simp only [Act.put]
      try simp only [List.setIfInBounds_toArray, set_cs]
      refine wpAnyH_take (i := 11) (oi := { dst := some 33, op := Op.pick (Operand.tmp 29) (Operand.const (Value.bool true)) (Operand.tmp 32), type := 4, pos := "laws_deep_wt04c.go:91", after := #[{ on := 7, ground := Ground.data }, { on := 10, ground := Ground.data }], guard := none }) (v := ?_) rfl (by kernel_rfl) (by kernel_rfl) (by kernel_rfl) (fun _ _ _ h => h) (Or.inl ⟨by rfl, ?_⟩) (by assumption) ?_
      rotate_left
      · (intro w' hSw; (try dsimp only at hSw); go_simp; try with_reducible rfl)
      try simp only [Act.put]
      try simp only [List.setIfInBounds_toArray, set_cs]
      refine wpAnyH_take (i := 12) (oi := { dst := some 34, op := Op.move (Operand.tmp 33), type := 4, pos := "laws_deep_wt04c.go:91", after := #[{ on := 11, ground := Ground.data }, { on := 9, ground := Ground.chain }], guard := none }) (v := ?_) rfl (by kernel_rfl) (by kernel_rfl) (by kernel_rfl) (fun _ _ _ h => h) (Or.inl ⟨by rfl, ?_⟩) (by assumption) ?_
      rotate_left
      · (intro w' hSw; (try dsimp only at hSw); go_simp; try with_reducible rfl)
      try simp only [Act.put]
      try simp only [List.setIfInBounds_toArray, set_cs]
      refine wpAnyH_take (i := 13) (oi := { dst := some 35, op := Op.move (Operand.tmp 1), type := 23, pos := "laws_deep_wt04c.go:91", after := #[{ on := 12, ground := Ground.guard }], guard := some (12, false) }) (v := undef) rfl (by kernel_rfl) (by kernel_rfl) (by kernel_rfl) (fun _ _ _ h => h) ?_ (by assumption) ?_
      · (refine Or.inr ⟨?_, rfl⟩; kernel_rfl)
      try simp only [Act.put]
      try simp only [List.setIfInBounds_toArray, set_cs]
      refine wpAnyH_take (i := 14) (oi := { dst := some 36, op := Op.call { callee := Callee.value (Operand.func 8), args := #[Operand.tmp 35], argTypes := #[23] }, type := 4, pos := "laws_deep_wt04c.go:91", after := #[{ on := 13, ground := Ground.data }, { on := 12, ground := Ground.chain }, { on := 12, ground := Ground.guard }], guard := some (12, false) }) (v := undef) rfl (by kernel_rfl) (by kernel_rfl) (by kernel_rfl) (fun _ _ _ h => h) ?_ (by assumption) ?_
      · (refine Or.inr ⟨?_, rfl⟩; kernel_rfl)
      try simp only [Act.put]
      try simp only [List.setIfInBounds_toArray, set_cs]
      refine wpAnyH_take (i := 15) (oi := { dst := some 37, op := Op.unOp UnOp.not 4 (Operand.tmp 36), type := 4, pos := "laws_deep_wt04c.go:91", after := #[{ on := 14, ground := Ground.data }, { on := 12, ground := Ground.guard }], guard := some (12, false) }) (v := undef) rfl (by kernel_rfl) (by kernel_rfl) (by kernel_rfl) (fun _ _ _ h => h) ?_ (by assumption) ?_
      · (refine Or.inr ⟨?_, rfl⟩; kernel_rfl)
      try simp only [Act.put]
      try simp only [List.setIfInBounds_toArray, set_cs]
      refine wpAnyH_take (i := 16) (oi := { dst := some 38, op := Op.pick (Operand.tmp 34) (Operand.const (Value.bool true)) (Operand.tmp 37), type := 4, pos := "laws_deep_wt04c.go:91", after := #[{ on := 12, ground := Ground.data }, { on := 15, ground := Ground.data }], guard := none }) (v := ?_) rfl (by kernel_rfl) (by kernel_rfl) (by kernel_rfl) (fun _ _ _ h => h) (Or.inl ⟨by rfl, ?_⟩) (by assumption) ?_
      rotate_left
      · (intro w' hSw; (try dsimp only at hSw); go_simp; try with_reducible rfl)
      try simp only [Act.put]
      try simp only [List.setIfInBounds_toArray, set_cs]
      refine wpAnyH_done (by kernel_rfl) ?_ _
      refine NoPanic.normal ?_
      go_wp2_with fail
      go_meet
      exact ⟨rfl, by assumption⟩
    | true =>
    cases sb with
    | false =>
      refine wp_region_noPanic ?_
      refine wp_region_held_drew (S := fun w' : World => w'.cell? ⟨w.heap.size, 0, none⟩ = some (.int .i64 k) ∧ w'.cell? ⟨w.heap.size, 1, none⟩ = some (.int .i64 h) ∧ w'.cell? ⟨w.heap.size, 2, none⟩ = some (.string t) ∧ w'.cell? ⟨w.heap.size, 3, none⟩ = some (.slice la nl cl) ∧ w'.cell? ⟨w.heap.size, 4, none⟩ = some (.slice ka nk ck) ∧ w'.cell? ⟨w.heap.size, 5, none⟩ = some (.slice va nv cv) ∧ w'.cell? ⟨w.heap.size + 1, 0, none⟩ = some (.int .i64 kx) ∧ w'.cell? ⟨w.heap.size + 1, 1, none⟩ = some (.int .i64 hx') ∧ w'.cell? ⟨w.heap.size + 1, 2, none⟩ = some (.string tx) ∧ w'.cell? ⟨w.heap.size + 1, 3, none⟩ = some (.slice lax nlx clx) ∧ w'.cell? ⟨w.heap.size + 1, 4, none⟩ = some (.slice kax nkx ckx) ∧ w'.cell? ⟨w.heap.size + 1, 5, none⟩ = some (.slice vax nvx cvx) ∧ Below wX.heap.size wX w') (by kernel_rfl) ?_ (fun hHeld => ?_)
      · (with_reducible refine Hold.out _ ?_; first | with_reducible assumption | with_reducible exact keep_alloc (by assumption) (Below.size (by assumption)) _)
      refine wpAnyH_take (i := 0) (v := ?_) rfl (by kernel_rfl) (by kernel_rfl) (by kernel_rfl) (fun _ _ _ h => h) (Or.inl ⟨by rfl, ?_⟩) (by assumption) ?_
      rotate_left
      · (intro w' hSw; (try dsimp only at hSw); go_simp; try with_reducible rfl)
      try simp only [Act.put]
      try simp only [List.setIfInBounds_toArray]
      refine wpAnyH_take (i := 1) (v := ?_) rfl (by kernel_rfl) (by kernel_rfl) (by kernel_rfl) (fun _ _ _ h => h) (Or.inl ⟨by rfl, ?_⟩) (by assumption) ?_
      rotate_left
      · (intro w' hSw; (try dsimp only at hSw); go_simp; try with_reducible rfl)
      try simp only [Act.put]
      try simp only [List.setIfInBounds_toArray, set_cs]
      refine wpAnyH_take (i := 3) (v := ?_) rfl (by kernel_rfl) (by kernel_rfl) (by kernel_rfl) (fun _ _ _ h => h) (Or.inl ⟨by rfl, ?_⟩) (by assumption) ?_
      rotate_left
      · (intro w' hSw; (try dsimp only at hSw); go_simp; try with_reducible rfl)
      try simp only [Act.put]
      try simp only [List.setIfInBounds_toArray, set_cs]
      refine wpAnyH_ready (rs := [2]) (by kernel_rfl) (by simp) ?_
      refine AllReadyH.cons rfl (fun K hK => ?_) AllReadyH.nil
      go_simp
      go_at_call 6; refine (Ar.out _ (below_of12 (by assumption))).mono ?_; rintro e w6 ⟨rfl, hw6, hw6b⟩
      go_wp2_with fail
      refine hK.out _ _ ?_ (fun hHeld => ?_)
      · (with_reducible refine Hold.out _ ?_; first | with_reducible assumption | with_reducible exact keep_alloc (by assumption) (Below.size (by assumption)) _)
      clear hK K
      try simp only [Act.put]
      try simp only [List.setIfInBounds_toArray, set_cs]
      refine wpAnyH_ready (rs := [4]) (by kernel_rfl) (by simp) ?_
      refine AllReadyH.cons rfl (fun K hK => ?_) AllReadyH.nil
      go_simp
      refine hK.out _ _ ?_ (fun hHeld => ?_)
      · (with_reducible refine Hold.out _ ?_; first | with_reducible assumption | with_reducible exact keep_alloc (by assumption) (Below.size (by assumption)) _)
      clear hK K
      try simp only [Act.put]
      try simp only [List.setIfInBounds_toArray, set_cs]
      refine wpAnyH_ready (rs := [5]) (by kernel_rfl) (by simp) ?_
      refine AllReadyH.cons rfl (fun K hK => ?_) AllReadyH.nil
      go_simp
      go_at_call 5; refine (Fi2.out _ _ (by assumption)).mono ?_; rintro e w7 ⟨rfl, hw7⟩
      go_wp2_with fail
      refine hK.out _ _ ?_ (fun hHeld => ?_)
      · (with_reducible refine Hold.out _ ?_; first | with_reducible assumption | with_reducible exact keep_alloc (by assumption) (Below.size (by assumption)) _)
      clear hK K
      try simp only [Act.put]
      try simp only [List.setIfInBounds_toArray, set_cs]
      refine wpAnyH_take (i := 6) (oi := { dst := some 28, op := Op.unOp UnOp.not 4 (Operand.tmp 27), type := 4, pos := "laws_deep_wt04c.go:91", after := #[{ on := 5, ground := Ground.data }], guard := none }) (v := ?_) rfl (by kernel_rfl) (by kernel_rfl) (by kernel_rfl) (fun _ _ _ h => h) (Or.inl ⟨by rfl, ?_⟩) (by assumption) ?_
      rotate_left
      · (intro w' hSw; (try dsimp only at hSw); go_simp; try with_reducible rfl)
      try simp only [Act.put]
      try simp only [List.setIfInBounds_toArray, set_cs]
      refine wpAnyH_take (i := 7) (oi := { dst := some 29, op := Op.move (Operand.tmp 28), type := 4, pos := "laws_deep_wt04c.go:91", after := #[{ on := 6, ground := Ground.data }, { on := 5, ground := Ground.chain }], guard := none }) (v := ?_) rfl (by kernel_rfl) (by kernel_rfl) (by kernel_rfl) (fun _ _ _ h => h) (Or.inl ⟨by rfl, ?_⟩) (by assumption) ?_
      rotate_left
      · (intro w' hSw; (try dsimp only at hSw); go_simp; try with_reducible rfl)
      try simp only [Act.put]
      try simp only [List.setIfInBounds_toArray, set_cs]
      refine wpAnyH_take (i := 8) (oi := { dst := some 30, op := Op.move (Operand.tmp 1), type := 23, pos := "laws_deep_wt04c.go:91", after := #[{ on := 7, ground := Ground.guard }], guard := some (7, false) }) (v := ?_) rfl (by kernel_rfl) (by kernel_rfl) (by kernel_rfl) (fun _ _ _ h => h) (Or.inl ⟨by rfl, ?_⟩) (by assumption) ?_
      rotate_left
      · (intro w' hSw; (try dsimp only at hSw); go_simp; try with_reducible rfl)
      try simp only [Act.put]
      try simp only [List.setIfInBounds_toArray, set_cs]
      refine wpAnyH_ready (rs := [9]) (by kernel_rfl) (by simp) ?_
      refine AllReadyH.cons rfl (fun K hK => ?_) AllReadyH.nil
      go_simp
      go_at_call 7; refine (St2.out _ (below_of12 (by assumption))).mono ?_; rintro e w8 ⟨rfl, hw8⟩
      go_wp2_with fail
      refine hK.out _ _ ?_ (fun hHeld => ?_)
      · (with_reducible refine Hold.out _ ?_; first | with_reducible assumption | with_reducible exact keep_alloc (by assumption) (Below.size (by assumption)) _)
      clear hK K
      try simp only [Act.put]
      try simp only [List.setIfInBounds_toArray, set_cs]
      refine wpAnyH_take (i := 10) (oi := { dst := some 32, op := Op.unOp UnOp.not 4 (Operand.tmp 31), type := 4, pos := "laws_deep_wt04c.go:91", after := #[{ on := 9, ground := Ground.data }, { on := 7, ground := Ground.guard }], guard := some (7, false) }) (v := ?_) rfl (by kernel_rfl) (by kernel_rfl) (by kernel_rfl) (fun _ _ _ h => h) (Or.inl ⟨by rfl, ?_⟩) (by assumption) ?_
      rotate_left
      · (intro w' hSw; (try dsimp only at hSw); go_simp; try with_reducible rfl)
      try simp only [Act.put]
      try simp only [List.setIfInBounds_toArray, set_cs]
      refine wpAnyH_take (i := 11) (oi := { dst := some 33, op := Op.pick (Operand.tmp 29) (Operand.const (Value.bool true)) (Operand.tmp 32), type := 4, pos := "laws_deep_wt04c.go:91", after := #[{ on := 7, ground := Ground.data }, { on := 10, ground := Ground.data }], guard := none }) (v := ?_) rfl (by kernel_rfl) (by kernel_rfl) (by kernel_rfl) (fun _ _ _ h => h) (Or.inl ⟨by rfl, ?_⟩) (by assumption) ?_
      rotate_left
      · (intro w' hSw; (try dsimp only at hSw); go_simp; try with_reducible rfl)
      try simp only [Act.put]
      try simp only [List.setIfInBounds_toArray, set_cs]
      refine wpAnyH_take (i := 12) (oi := { dst := some 34, op := Op.move (Operand.tmp 33), type := 4, pos := "laws_deep_wt04c.go:91", after := #[{ on := 11, ground := Ground.data }, { on := 9, ground := Ground.chain }], guard := none }) (v := ?_) rfl (by kernel_rfl) (by kernel_rfl) (by kernel_rfl) (fun _ _ _ h => h) (Or.inl ⟨by rfl, ?_⟩) (by assumption) ?_
      rotate_left
      · (intro w' hSw; (try dsimp only at hSw); go_simp; try with_reducible rfl)
      try simp only [Act.put]
      try simp only [List.setIfInBounds_toArray, set_cs]
      refine wpAnyH_take (i := 13) (oi := { dst := some 35, op := Op.move (Operand.tmp 1), type := 23, pos := "laws_deep_wt04c.go:91", after := #[{ on := 12, ground := Ground.guard }], guard := some (12, false) }) (v := undef) rfl (by kernel_rfl) (by kernel_rfl) (by kernel_rfl) (fun _ _ _ h => h) ?_ (by assumption) ?_
      · (refine Or.inr ⟨?_, rfl⟩; kernel_rfl)
      try simp only [Act.put]
      try simp only [List.setIfInBounds_toArray, set_cs]
      refine wpAnyH_take (i := 14) (oi := { dst := some 36, op := Op.call { callee := Callee.value (Operand.func 8), args := #[Operand.tmp 35], argTypes := #[23] }, type := 4, pos := "laws_deep_wt04c.go:91", after := #[{ on := 13, ground := Ground.data }, { on := 12, ground := Ground.chain }, { on := 12, ground := Ground.guard }], guard := some (12, false) }) (v := undef) rfl (by kernel_rfl) (by kernel_rfl) (by kernel_rfl) (fun _ _ _ h => h) ?_ (by assumption) ?_
      · (refine Or.inr ⟨?_, rfl⟩; kernel_rfl)
      try simp only [Act.put]
      try simp only [List.setIfInBounds_toArray, set_cs]
      refine wpAnyH_take (i := 15) (oi := { dst := some 37, op := Op.unOp UnOp.not 4 (Operand.tmp 36), type := 4, pos := "laws_deep_wt04c.go:91", after := #[{ on := 14, ground := Ground.data }, { on := 12, ground := Ground.guard }], guard := some (12, false) }) (v := undef) rfl (by kernel_rfl) (by kernel_rfl) (by kernel_rfl) (fun _ _ _ h => h) ?_ (by assumption) ?_
      · (refine Or.inr ⟨?_, rfl⟩; kernel_rfl)
      try simp only [Act.put]
      try simp only [List.setIfInBounds_toArray, set_cs]
      refine wpAnyH_take (i := 16) (oi := { dst := some 38, op := Op.pick (Operand.tmp 34) (Operand.const (Value.bool true)) (Operand.tmp 37), type := 4, pos := "laws_deep_wt04c.go:91", after := #[{ on := 12, ground := Ground.data }, { on := 15, ground := Ground.data }], guard := none }) (v := ?_) rfl (by kernel_rfl) (by kernel_rfl) (by kernel_rfl) (fun _ _ _ h => h) (Or.inl ⟨by rfl, ?_⟩) (by assumption) ?_
      rotate_left
      · (intro w' hSw; (try dsimp only at hSw); go_simp; try with_reducible rfl)
      try simp only [Act.put]
      try simp only [List.setIfInBounds_toArray, set_cs]
      refine wpAnyH_done (by kernel_rfl) ?_ _
      refine NoPanic.normal ?_
      go_wp2_with fail
      go_meet
      exact ⟨rfl, by assumption⟩
    | true =>
    rcases kb with _ | _
    all_goals
      go_region_held3 (fun w' : World => w'.cell? ⟨w.heap.size, 0, none⟩ = some (.int .i64 k) ∧ w'.cell? ⟨w.heap.size, 1, none⟩ = some (.int .i64 h) ∧ w'.cell? ⟨w.heap.size, 2, none⟩ = some (.string t) ∧ w'.cell? ⟨w.heap.size, 3, none⟩ = some (.slice la nl cl) ∧ w'.cell? ⟨w.heap.size, 4, none⟩ = some (.slice ka nk ck) ∧ w'.cell? ⟨w.heap.size, 5, none⟩ = some (.slice va nv cv) ∧ w'.cell? ⟨w.heap.size + 1, 0, none⟩ = some (.int .i64 kx) ∧ w'.cell? ⟨w.heap.size + 1, 1, none⟩ = some (.int .i64 hx') ∧ w'.cell? ⟨w.heap.size + 1, 2, none⟩ = some (.string tx) ∧ w'.cell? ⟨w.heap.size + 1, 3, none⟩ = some (.slice lax nlx clx) ∧ w'.cell? ⟨w.heap.size + 1, 4, none⟩ = some (.slice kax nkx ckx) ∧ w'.cell? ⟨w.heap.size + 1, 5, none⟩ = some (.slice vax nvx cvx) ∧ Below wX.heap.size wX w')
        (with_reducible refine Hold.out _ ?_; first | with_reducible assumption | with_reducible exact keep_alloc (by assumption) (Below.size (by assumption)) _)
        (first
          | (go_at_call 6; refine (Ar.out _ (below_of12 (by assumption))).mono ?_; rintro e w6 ⟨rfl, hw6, hw6b⟩)
          | (go_at_call 5; refine (Fi2.out _ _ (by assumption)).mono ?_; rintro e w7 ⟨rfl, hw7⟩)
          | (go_at_call 7; refine (St2.out _ (below_of12 (by assumption))).mono ?_; rintro e w8 ⟨rfl, hw8⟩)
          | (go_at_call 8; refine (Ke2.out _ (below_of12 (by assumption))).mono ?_; rintro e w9 ⟨rfl, hw9⟩))
    all_goals
      go_wp2_with fail
      go_meet
      exact ⟨rfl, by assumption⟩
    --]
  case rest =>
  obtain ⟨rfl, hwc⟩ := hcut
  have hsc := hwc.size
  have hbc : Below w.heap.size w wc := HbX.out.trans (hwc.mono (by have := HbX.out.size; omega))
  have c0 := (hwc.block w.heap.size (by omega)).trans (X0.out trivial)
  have c1 := (hwc.block (w.heap.size + 1) (by omega)).trans (X1.out trivial)
  cases hg : (fb && (sb && kb)) with
  | false =>
    clear Hold hwd hwc c0 c1
    go_wp2_with fail
    go_ret
    exact ⟨rfl, hbc⟩
  | true =>
  obtain ⟨s, o, plan⟩ := Pl.out hg
  have Plan := Lib.hid plan
  clear hg Hold hwd hwc plan Pl HbX X0 X1 Fi St Ke Ar
  go_upto_region 5 with fail
  have hold : ∀ w', Below wc.heap.size wc w' → (fun w' : World => w'.cell? ⟨w.heap.size, 0, none⟩ = some (.int .i64 k) ∧ w'.cell? ⟨w.heap.size, 1, none⟩ = some (.int .i64 h) ∧ w'.cell? ⟨w.heap.size, 2, none⟩ = some (.string t) ∧ w'.cell? ⟨w.heap.size, 3, none⟩ = some (.slice la nl cl) ∧ w'.cell? ⟨w.heap.size, 4, none⟩ = some (.slice ka nk ck) ∧ w'.cell? ⟨w.heap.size, 5, none⟩ = some (.slice va nv cv) ∧ w'.cell? ⟨w.heap.size + 1, 0, none⟩ = some (.int .i64 kx) ∧ w'.cell? ⟨w.heap.size + 1, 1, none⟩ = some (.int .i64 hx') ∧ w'.cell? ⟨w.heap.size + 1, 2, none⟩ = some (.string tx) ∧ w'.cell? ⟨w.heap.size + 1, 3, none⟩ = some (.slice lax nlx clx) ∧ w'.cell? ⟨w.heap.size + 1, 4, none⟩ = some (.slice kax nkx ckx) ∧ w'.cell? ⟨w.heap.size + 1, 5, none⟩ = some (.slice vax nvx cvx) ∧ Below wc.heap.size wc w') w' := by
    intro w' hw
    obtain ⟨a0, a1, a2, a3, a4, a5⟩ := of_block6 ((hw.block w.heap.size (by omega)).trans c0)
    obtain ⟨b0, b1, b2, b3, b4, b5⟩ := of_block6 ((hw.block (w.heap.size + 1) (by omega)).trans c1)
    exact ⟨a0, a1, a2, a3, a4, a5, b0, b1, b2, b3, b4, b5, hw⟩
  have Hold := Lib.hid hold
  have Hbc := Lib.hid hbc
  have C1 := Lib.hid fun (_ : True) => c1
  have Ar : Hid (∀ w', Below wc.heap.size wc w' → Calls Tryz.prog 6 #[.slice pa p.length pc] w' fun e w'' => e = .returned (.agg #[.int .i64 5, .int .i64 0, .string ⟨#[]⟩, .slice pa p.length pc, .slice none 0 0, .slice none 0 0]) ∧ Below wc.heap.size wc w'' ∧ Below w'.heap.size w' w'') :=
    Lib.hid fun w' hw => (larray_any pa p.length pc w').mono fun e w'' h => ⟨h.1, hw.trans (h.2.mono hw.size), h.2⟩
  clear hold hbc c0 c1
  go_cut [7, 8] (fun s7 s8 wx => TwoRes wc (ansO o) (ansO (setV v s x)) s7 s8 wx)
  case first =>
    have One : Hid (∀ w', Below wc.heap.size wc w' → Calls Tryz.prog 10 #[.slice pa p.length pc] w' fun e w'' => ∃ q, e = .returned (.agg #[.int .i64 5, .int .i64 0, .string ⟨#[]⟩, .slice (some ⟨q, 0, none⟩) 1 1, .slice none 0 0, .slice none 0 0]) ∧ OneP w'' s q ∧ Below wc.heap.size wc w'' ∧ Below w'.heap.size w' w'') :=
      Lib.hid fun w' hw => (one_any pa p.length pc w').mono fun e w'' ⟨q, hq, hq2, he, hc, hb⟩ => ⟨q, he, oneP_of Plan.out.path hq2 hc (Hp.out w'' (Hbc.out.trans ((hw.trans (hb.mono hw.size)).mono Hbc.out.size))), hw.trans (hb.mono hw.size), hb⟩
    have De : Hid (∀ q w', OneP w' s q → Below wc.heap.size wc w' → Calls Tryz.prog 9 #[.agg #[.int .i64 k, .int .i64 h, .string t, .slice la nl cl, .slice ka nk ck, .slice va nv cv], .agg #[.int .i64 5, .int .i64 0, .string ⟨#[]⟩, .slice (some ⟨q, 0, none⟩) 1 1, .slice none 0 0, .slice none 0 0]] w'
        fun e w'' => ∃ (k1 h1 : Int) (t1 : ByteArray) (la1 ka1 va1 : Option Addr) (nl1 cl1 nk1 ck1 nv1 cv1 : Nat) (n1 : Int), e = .returned (.agg #[.int .i64 k1, .int .i64 h1, .string t1, .slice la1 nl1 cl1, .slice ka1 nk1 ck1, .slice va1 nv1 cv1, .int .i64 n1]) ∧ FillR w'.heap.size w''.heap.size (ansO o) k1 h1 t1 la1 ka1 va1 nl1 cl1 nk1 ck1 nv1 cv1 n1 w'' ∧ Below wc.heap.size wc w'' ∧ Below w'.heap.size w' w'') :=
      Lib.hid fun q w' hq hw => (implDel_one (Hv.out w' (Hbc.out.trans (hw.mono Hbc.out.size))) hq Plan.out.gv (good_row (by rw [← Plan.out.path]; exact Plan.out.gp)) Plan.out.small Plan.out.left w' (Below.refl _ _) (Nat.le_refl _)).mono fun e w'' ⟨k1, h1, t1, la1, ka1, va1, nl1, cl1, nk1, ck1, nv1, cv1, n1, he, hR, hb⟩ => ⟨k1, h1, t1, la1, ka1, va1, nl1, cl1, nk1, ck1, nv1, cv1, n1, he, hR, hw.trans (hb.mono hw.size), hb⟩
    have Se : Hid (∀ w', Below wc.heap.size wc w' → Calls Tryz.prog 11 #[.agg #[.int .i64 k, .int .i64 h, .string t, .slice la nl cl, .slice ka nk ck, .slice va nv cv], .agg #[.int .i64 5, .int .i64 0, .string ⟨#[]⟩, .slice pa p.length pc, .slice none 0 0, .slice none 0 0], .agg #[.int .i64 kx, .int .i64 hx', .string tx, .slice lax nlx clx, .slice kax nkx ckx, .slice vax nvx cvx]] w'
        fun e w'' => ∃ (k2 h2 : Int) (t2 : ByteArray) (la2 ka2 va2 : Option Addr) (nl2 cl2 nk2 ck2 nv2 cv2 : Nat) (n2 : Int), e = .returned (.agg #[.int .i64 k2, .int .i64 h2, .string t2, .slice la2 nl2 cl2, .slice ka2 nk2 ck2, .slice va2 nv2 cv2, .int .i64 n2]) ∧ FillR w'.heap.size w''.heap.size (ansO (setV v s x)) k2 h2 t2 la2 ka2 va2 nl2 cl2 nk2 ck2 nv2 cv2 n2 w'' ∧ Below wc.heap.size wc w'' ∧ Below w'.heap.size w' w'') :=
      Lib.hid fun w' hw => (implSet_path Plan.out (Hv.out w' (Hbc.out.trans (hw.mono Hbc.out.size))) (Hp.out w' (Hbc.out.trans (hw.mono Hbc.out.size))) (Hx.out w' (Hbc.out.trans (hw.mono Hbc.out.size))) Plan.out.gv Plan.out.fv w' (Below.refl _ _) (Nat.le_refl _)).mono fun e w'' ⟨k2, h2, t2, la2, ka2, va2, nl2, cl2, nk2, ck2, nv2, cv2, n2, he, hR, hb⟩ => ⟨k2, h2, t2, la2, ka2, va2, nl2, cl2, nk2, ck2, nv2, cv2, n2, he, hR, hw.trans (hb.mono hw.size), hb⟩
    have Hz : Hid (Zs [] wc) := Lib.hid fun z hz => by cases hz
    have hwd : Below wc.heap.size wc wc.drew := Below.drew (Below.refl _ _)
    have hwda : Below wc.heap.size wc (wc.alloc (.cells #[.int .i64 0, .int .i64 0, .string ⟨#[]⟩, .slice none 0 0, .slice none 0 0, .slice none 0 0, .int .i64 0] 32)).drew := Below.drew (below_alloc1 _ _)
    have hwdaa : Below wc.heap.size wc ((wc.alloc (.cells #[.int .i64 0, .int .i64 0, .string ⟨#[]⟩, .slice none 0 0, .slice none 0 0, .slice none 0 0, .int .i64 0] 32)).alloc (.cells #[.int .i64 0, .int .i64 0, .string ⟨#[]⟩, .slice none 0 0, .slice none 0 0, .slice none 0 0, .int .i64 0] 32)).drew := Below.drew (below_alloc2 _ _ _)
    clear Hv Hx Hp Plan C1 Hbc
    go_region_held3 (fun w' : World => w'.cell? ⟨w.heap.size, 0, none⟩ = some (.int .i64 k) ∧ w'.cell? ⟨w.heap.size, 1, none⟩ = some (.int .i64 h) ∧ w'.cell? ⟨w.heap.size, 2, none⟩ = some (.string t) ∧ w'.cell? ⟨w.heap.size, 3, none⟩ = some (.slice la nl cl) ∧ w'.cell? ⟨w.heap.size, 4, none⟩ = some (.slice ka nk ck) ∧ w'.cell? ⟨w.heap.size, 5, none⟩ = some (.slice va nv cv) ∧ w'.cell? ⟨w.heap.size + 1, 0, none⟩ = some (.int .i64 kx) ∧ w'.cell? ⟨w.heap.size + 1, 1, none⟩ = some (.int .i64 hx') ∧ w'.cell? ⟨w.heap.size + 1, 2, none⟩ = some (.string tx) ∧ w'.cell? ⟨w.heap.size + 1, 3, none⟩ = some (.slice lax nlx clx) ∧ w'.cell? ⟨w.heap.size + 1, 4, none⟩ = some (.slice kax nkx ckx) ∧ w'.cell? ⟨w.heap.size + 1, 5, none⟩ = some (.slice vax nvx cvx) ∧ Below wc.heap.size wc w')
      (with_reducible refine Hold.out _ ?_; first | with_reducible assumption | with_reducible exact keepX (by assumption) _ | with_reducible exact keepX (keepX (by assumption) _) _ | with_reducible exact below_set7 (by assumption) (by omega) _ _ _ _ _ _ _ | with_reducible exact keepX (below_set7 (by assumption) (by omega) _ _ _ _ _ _ _) _ | with_reducible exact below_set7 (below_set7 (by assumption) (by omega) _ _ _ _ _ _ _) (by omega) _ _ _ _ _ _ _)
      (first
        | (go_at_call 10; refine (One.out _ (below_of12 (by assumption))).mono ?_; rintro e w6 ⟨q, rfl, hO6, hw6, hw6b⟩; (first | (with_reducible have hzz := zs_new2 (below_undrew hw6b) Hz.out) | (with_reducible have hzz := zs_new (below_undrew hw6b) Hz.out) | (with_reducible have hzz := zs_next (below_undrew hw6b) Hz.out)); have Hy := Lib.hid hzz.1; have hs6 := hzz.2.1; have hp6 := hzz.2.2; clear hzz Hz; have Hz := Lib.hid Hy.out; clear Hy)
        | (go_at_call 9; refine (De.out q _ ?_ (below_of12 (by assumption))).mono ?_; (first | with_reducible exact hO6 | with_reducible exact hO6.carry (below_alloc1 _ _) | with_reducible exact hO6.carry (below_alloc2 _ _ _)); rintro e w8 ⟨k1, h1, t1, la1, ka1, va1, nl1, cl1, nk1, ck1, nv1, cv1, n1, rfl, hR8, hw8, hw8b⟩; (first | (with_reducible have hzz := zs_new2 (hw8b) Hz.out) | (with_reducible have hzz := zs_new (hw8b) Hz.out) | (with_reducible have hzz := zs_next (hw8b) Hz.out)); have Hy := Lib.hid hzz.1; have hs8 := hzz.2.1; have hp8 := hzz.2.2; clear hzz Hz; have Hz := Lib.hid Hy.out; clear Hy)
        | (go_at_call 6; refine (Ar.out _ (below_of12 (by assumption))).mono ?_; rintro e w10 ⟨rfl, hw10, hw10b⟩; (first | (with_reducible have hzz := zs_new2 (hw10b) Hz.out) | (with_reducible have hzz := zs_new (hw10b) Hz.out) | (with_reducible have hzz := zs_next (hw10b) Hz.out)); have Hy := Lib.hid hzz.1; have hs10 := hzz.2.1; have hp10 := hzz.2.2; clear hzz Hz; have Hz := Lib.hid Hy.out; clear Hy; (first | (with_reducible have hR9 := fill_new2 hw10b hR8 (by omega)) | (with_reducible have hR9 := fill_new hw10b hR8 (by omega)) | (with_reducible have hR9 := fill_next hw10b hR8 (by omega))); clear hR8; have hR8 := hR9; clear hR9)
        | (go_at_call 11; refine (Se.out _ (below_of12 (by assumption))).mono ?_; rintro e w11 ⟨k2, h2, t2, la2, ka2, va2, nl2, cl2, nk2, ck2, nv2, cv2, n2, rfl, hR11, hw11, hw11b⟩; (first | (with_reducible have hzz := zs_new2 (hw11b) Hz.out) | (with_reducible have hzz := zs_new (hw11b) Hz.out) | (with_reducible have hzz := zs_next (hw11b) Hz.out)); have Hy := Lib.hid hzz.1; have hs11 := hzz.2.1; have hp11 := hzz.2.2; clear hzz Hz; have Hz := Lib.hid Hy.out; clear Hy; (first | (with_reducible have hR9 := fill_new2 hw11b hR8 (by omega)) | (with_reducible have hR9 := fill_new hw11b hR8 (by omega)) | (with_reducible have hR9 := fill_next hw11b hR8 (by omega))); clear hR8; have hR8 := hR9; clear hR9; (try with_reducible have ht1 := of_block7 (zs_head Hz.out)); (try with_reducible have hq1 := free_block7 (zs_head Hz.out)); (try with_reducible have hl1 := hz_lt (zs_head Hz.out)); (try with_reducible have ht2 := of_block7 (zs_second Hz.out)); (try with_reducible have hq2 := free_block7 (zs_second Hz.out)); (try with_reducible have hl2 := hz_lt (zs_second Hz.out))))
    all_goals
      go_wp2_with fail
      go_meet
      first
        | with_reducible exact TwoRes.new hR8 hR11 hw11 (by omega) (by omega)
        | with_reducible exact TwoRes.new' hR8 hR11 hw11 (by omega) (by omega)
        | with_reducible exact TwoRes.old1 Hz.out (by simp) hR8 hR11 hw11 (by omega) (by omega) (by omega) (by omega) (by omega)
        | with_reducible exact TwoRes.old2 Hz.out (by simp) hR8 hR11 hw11 (by omega) (by omega) (by omega) (by omega) (by omega)
        | with_reducible exact TwoRes.old Hz.out (by simp) (by simp) (by omega) hR8 hR11 hw11 (by omega) (by omega) (by omega) (by omega) (by omega) (by omega) (by omega) (by omega)
  case rest =>
  obtain ⟨z1, z2, k1, h1, t1, la1, ka1, va1, nl1, cl1, nk1, ck1, nv1, cv1, n1, k2, h2, t2, la2, ka2, va2, nl2, cl2, nk2, ck2, nv2, cv2, n2, rfl, rfl, hzb1, hzb2, hz1, hz2, hG1, hG2, hwd⟩ := hcut
  clear Ar Hold
  have hsd := hwd.size
  have hl1 := hz_lt hz1
  have hl2 := hz_lt hz2
  have hbd : Below w.heap.size w wc := Hbc.out.trans (hwd.mono (by have := Hbc.out.size; omega))
  have d1 := (hwd.block (w.heap.size + 1) (by omega)).trans (C1.out trivial)
  go_upto_region 6 with fail
  have hold : ∀ w', Below wc.heap.size wc w' → (fun w' : World => w'.cell? ⟨z1, 0, none⟩ = some (.int .i64 k1) ∧ w'.cell? ⟨z1, 1, none⟩ = some (.int .i64 h1) ∧ w'.cell? ⟨z1, 2, none⟩ = some (.string t1) ∧ w'.cell? ⟨z1, 3, none⟩ = some (.slice la1 nl1 cl1) ∧ w'.cell? ⟨z1, 4, none⟩ = some (.slice ka1 nk1 ck1) ∧ w'.cell? ⟨z1, 5, none⟩ = some (.slice va1 nv1 cv1) ∧ w'.cell? ⟨z1, 6, none⟩ = some (.int .i64 n1) ∧ w'.cell? ⟨z2, 0, none⟩ = some (.int .i64 k2) ∧ w'.cell? ⟨z2, 1, none⟩ = some (.int .i64 h2) ∧ w'.cell? ⟨z2, 2, none⟩ = some (.string t2) ∧ w'.cell? ⟨z2, 3, none⟩ = some (.slice la2 nl2 cl2) ∧ w'.cell? ⟨z2, 4, none⟩ = some (.slice ka2 nk2 ck2) ∧ w'.cell? ⟨z2, 5, none⟩ = some (.slice va2 nv2 cv2) ∧ w'.cell? ⟨z2, 6, none⟩ = some (.int .i64 n2) ∧ w'.cell? ⟨w.heap.size + 1, 0, none⟩ = some (.int .i64 kx) ∧ w'.cell? ⟨w.heap.size + 1, 1, none⟩ = some (.int .i64 hx') ∧ w'.cell? ⟨w.heap.size + 1, 2, none⟩ = some (.string tx) ∧ w'.cell? ⟨w.heap.size + 1, 3, none⟩ = some (.slice lax nlx clx) ∧ w'.cell? ⟨w.heap.size + 1, 4, none⟩ = some (.slice kax nkx ckx) ∧ w'.cell? ⟨w.heap.size + 1, 5, none⟩ = some (.slice vax nvx cvx) ∧ Below wc.heap.size wc w') w' := by
    intro w' hw
    obtain ⟨a0, a1, a2, a3, a4, a5, a6⟩ := of_block7 ((hw.block z1 hl1).trans hz1)
    obtain ⟨b0, b1, b2, b3, b4, b5, b6⟩ := of_block7 ((hw.block z2 hl2).trans hz2)
    obtain ⟨c0, c1, c2, c3, c4, c5⟩ := of_block6 ((hw.block (w.heap.size + 1) (by omega)).trans d1)
    exact ⟨a0, a1, a2, a3, a4, a5, a6, b0, b1, b2, b3, b4, b5, b6, c0, c1, c2, c3, c4, c5, hw⟩
  have Hold := Lib.hid hold
  have Hbd := Lib.hid hbd
  have hwdd : Below wc.heap.size wc wc.drew := Below.drew (Below.refl _ _)
  cases o with
  | none =>
    obtain rfl := hG1.2 rfl
    clear hold hbd hG1 hG2 hz1 hz2 hl1 hl2 d1 Hv Hx Hp Plan C1 Hbc hwd hzb1 hzb2
    obtain ⟨a0, a1, a2, a3, a4, a5, a6, b0, b1, b2, b3, b4, b5, b6, c0, c1, c2, c3, c4, c5, hw⟩ := Hold.out wc (Below.refl _ _)
    clear Hold hwdd hw
    go_quiet (fail)
    go_wp2_with fail
    go_ret
    exact ⟨rfl, Hbd.out.trans (Below.mono (B := wc.heap.size) ⟨rfl, rfl, rfl, Nat.le_refl _, fun _ _ => rfl⟩ Hbd.out.size)⟩
  | some r =>
  have hse := Plan.out.then_ r rfl
  cases hset : setV v s x with
  | none =>
    rw [hset] at hG2
    obtain ⟨rfl, _⟩ := hG1.1 r rfl
    obtain rfl := hG2.2 rfl
    clear hold hbd hG1 hG2 hz1 hz2 hl1 hl2 d1 Hv Hx Hp Plan C1 Hbc hwd hzb1 hzb2 hset hse
    obtain ⟨a0, a1, a2, a3, a4, a5, a6, b0, b1, b2, b3, b4, b5, b6, c0, c1, c2, c3, c4, c5, hw⟩ := Hold.out wc (Below.refl _ _)
    clear Hold hwdd hw
    go_quiet (fail)
    go_wp2_with fail
    go_ret
    exact ⟨rfl, Hbd.out.trans (Below.mono (B := wc.heap.size) ⟨rfl, rfl, rfl, Nat.le_refl _, fun _ _ => rfl⟩ Hbd.out.size)⟩
  | some y =>
  rw [hset] at hG2 hse
  obtain ⟨rfl, hr1⟩ := hG1.1 r rfl
  obtain ⟨rfl, hr2⟩ := hG2.1 y rfl
  obtain ⟨gy, hpy⟩ := Plan.out.get y hset
  obtain ⟨gr, fr⟩ := Plan.out.gr r rfl
  have hPd := Hp.out wc hbd
  have hXd := Hx.out wc hbd
  have Ar : Hid (∀ w', Below wc.heap.size wc w' → Calls Tryz.prog 6 #[.slice pa p.length pc] w' fun e w'' => e = .returned (.agg #[.int .i64 5, .int .i64 0, .string ⟨#[]⟩, .slice pa p.length pc, .slice none 0 0, .slice none 0 0]) ∧ Below wc.heap.size wc w'') :=
    Lib.hid fun w' hw => (larray_any pa p.length pc w').mono fun e w'' h => ⟨h.1, hw.trans (h.2.mono hw.size)⟩
  have Ge : Hid (∀ w', Below wc.heap.size wc w' → Calls Tryz.prog 13 #[.agg #[.int .i64 k2, .int .i64 h2, .string t2, .slice la2 nl2 cl2, .slice ka2 nk2 ck2, .slice va2 nv2 cv2], .agg #[.int .i64 5, .int .i64 0, .string ⟨#[]⟩, .slice pa p.length pc, .slice none 0 0, .slice none 0 0]] w' (GotFrom wc (.fine x))) :=
    Lib.hid fun w' hb => by
      have hg := implGet_any hr2 hPd gy Plan.out.gp (by rw [hpy]; intro e; cases e) w' hb hb.size
      rw [hpy] at hg
      exact hg.mono fun e w'' h => h.from hb
  have Se : Hid (∀ w', Below wc.heap.size wc w' → Calls Tryz.prog 11 #[.agg #[.int .i64 k1, .int .i64 h1, .string t1, .slice la1 nl1 cl1, .slice ka1 nk1 ck1, .slice va1 nv1 cv1], .agg #[.int .i64 5, .int .i64 0, .string ⟨#[]⟩, .slice pa p.length pc, .slice none 0 0, .slice none 0 0], .agg #[.int .i64 kx, .int .i64 hx', .string tx, .slice lax nlx clx, .slice kax nkx ckx, .slice vax nvx cvx]] w' (GotFrom wc (.fine y))) :=
    Lib.hid fun w' hb => by
      have hg := implSet_path Plan.out hr1 hPd hXd gr fr w' hb hb.size
      rw [hse] at hg
      exact hg.mono fun e w'' h => h.from hb
  have Gi : Hid (∀ (u : V) (k3 h3 : Int) (t3 : ByteArray) (la3 ka3 va3 : Option Addr) (nl3 cl3 nk3 ck3 nv3 cv3 : Nat) (n3 : Int) (k4 h4 : Int) (t4 : ByteArray) (la4 ka4 va4 : Option Addr) (nl4 cl4 nk4 ck4 nv4 cv4 : Nat) (w' : World), Got w' (.fine u) k3 h3 t3 la3 ka3 va3 nl3 cl3 nk3 ck3 nv3 cv3 n3 → SameC wc u [.int .i64 k4, .int .i64 h4, .string t4, .slice la4 nl4 cl4, .slice ka4 nk4 ck4, .slice va4 nv4 cv4] → Below wc.heap.size wc w' →
      Calls Tryz.prog 12 #[.agg #[.int .i64 k3, .int .i64 h3, .string t3, .slice la3 nl3 cl3, .slice ka3 nk3 ck3, .slice va3 nv3 cv3, .int .i64 n3], .agg #[.int .i64 k4, .int .i64 h4, .string t4, .slice la4 nl4 cl4, .slice ka4 nk4 ck4, .slice va4 nv4 cv4]] w' fun e w'' => e = .returned (.bool true) ∧ Below wc.heap.size wc w'') :=
    Lib.hid fun u k3 h3 t3 la3 ka3 va3 nl3 cl3 nk3 ck3 nv3 cv3 n3 k4 h4 t4 la4 ka4 va4 nl4 cl4 nk4 ck4 nv4 cv4 w' hR hS hb => (given_any hS.1 hR (hS.2.carry hb hb.size)).mono fun e w'' h => ⟨h.1, hb.trans (h.2.mono hb.size)⟩
  have L1 : SameC wc x [.int .i64 kx, .int .i64 hx', .string tx, .slice lax nlx clx, .slice kax nkx ckx, .slice vax nvx cvx] := ⟨Plan.out.gx, hXd⟩
  have L2 : SameC wc y [.int .i64 k2, .int .i64 h2, .string t2, .slice la2 nl2 cl2, .slice ka2 nk2 ck2, .slice va2 nv2 cv2] := ⟨gy, hr2⟩
  clear hold hbd hG1 hG2 hz1 hz2 hl1 hl2 d1 Hv Hx Hp Plan C1 Hbc hwd hzb1 hzb2 hset hse hr1 hr2 gy hpy gr fr hPd hXd
  go_region_held3 (fun w' : World => w'.cell? ⟨z1, 0, none⟩ = some (.int .i64 k1) ∧ w'.cell? ⟨z1, 1, none⟩ = some (.int .i64 h1) ∧ w'.cell? ⟨z1, 2, none⟩ = some (.string t1) ∧ w'.cell? ⟨z1, 3, none⟩ = some (.slice la1 nl1 cl1) ∧ w'.cell? ⟨z1, 4, none⟩ = some (.slice ka1 nk1 ck1) ∧ w'.cell? ⟨z1, 5, none⟩ = some (.slice va1 nv1 cv1) ∧ w'.cell? ⟨z1, 6, none⟩ = some (.int .i64 0) ∧ w'.cell? ⟨z2, 0, none⟩ = some (.int .i64 k2) ∧ w'.cell? ⟨z2, 1, none⟩ = some (.int .i64 h2) ∧ w'.cell? ⟨z2, 2, none⟩ = some (.string t2) ∧ w'.cell? ⟨z2, 3, none⟩ = some (.slice la2 nl2 cl2) ∧ w'.cell? ⟨z2, 4, none⟩ = some (.slice ka2 nk2 ck2) ∧ w'.cell? ⟨z2, 5, none⟩ = some (.slice va2 nv2 cv2) ∧ w'.cell? ⟨z2, 6, none⟩ = some (.int .i64 0) ∧ w'.cell? ⟨w.heap.size + 1, 0, none⟩ = some (.int .i64 kx) ∧ w'.cell? ⟨w.heap.size + 1, 1, none⟩ = some (.int .i64 hx') ∧ w'.cell? ⟨w.heap.size + 1, 2, none⟩ = some (.string tx) ∧ w'.cell? ⟨w.heap.size + 1, 3, none⟩ = some (.slice lax nlx clx) ∧ w'.cell? ⟨w.heap.size + 1, 4, none⟩ = some (.slice kax nkx ckx) ∧ w'.cell? ⟨w.heap.size + 1, 5, none⟩ = some (.slice vax nvx cvx) ∧ Below wc.heap.size wc w')
    (with_reducible refine Hold.out _ ?_; with_reducible assumption)
    (first
      | (go_at_call 6; refine (Ar.out _ (below_of20 (by assumption))).mono ?_; rintro e w6 ⟨rfl, hw6⟩)
      | (go_at_call 13; refine (Ge.out _ (below_of20 (by assumption))).mono ?_; rintro e w7 ⟨k3, h3, t3, la3, ka3, va3, nl3, cl3, nk3, ck3, nv3, cv3, n3, rfl, hR, hw7⟩)
      | (go_at_call 11; refine (Se.out _ (below_of20 (by assumption))).mono ?_; rintro e w8 ⟨k3, h3, t3, la3, ka3, va3, nl3, cl3, nk3, ck3, nv3, cv3, n3, rfl, hR, hw8⟩)
      | (go_at_call 12; refine (Gi.out _ _ _ _ _ _ _ _ _ _ _ _ _ _ _ _ _ _ _ _ _ _ _ _ _ _ _ (by assumption) (by assumption) (below_of20 (by assumption))).mono ?_; rintro e w9 ⟨rfl, hw9⟩))
  all_goals
    go_wp2_with fail
    go_ret
    exact ⟨rfl, Hbd.out.trans (Below.mono (by assumption) Hbd.out.size)⟩
end Go.Proofs.YtjlkoekfcdpnaaaGreatDoor
