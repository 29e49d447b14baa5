/- Contracts of package big's Int: QuoRem, DivMod, where the division comes out even. -/
import Derived.Test.YtfgjaoejcbldoaaGreatDoorM08
import Derived.Test.YtfgjaoejcbldoaaGreatDoorM11
import Derived.Deep.RegionHeld3
namespace Go.Proofs.YtfgjaoejcbldoaaGreatDoor
open Go Go.RowKit Go.Deep
/-- How an even division answers. -/
def QuoP (w : World) (zb rb : Nat) (z : Int) (e : Ending) (w' : World) : Prop :=
  e = .returned (.tuple #[.pointer (some ⟨zb, 0, none⟩), .pointer (some ⟨rb, 0, none⟩)]) ∧ IntIn w' w'.heap.size z zb ∧ IntIn w' w'.heap.size 0 rb ∧ Below zb w w'
theorem NatAt.set {w : World} {B x b : Nat} {v : Value} (h : NatAt w B x v) {s : Bool} {a : Option Addr} {n c : Nat} (hz : w.heap[b]? = some (.cells #[.bool s, .slice a n c] 51)) (i : Nat) (u : Value) : NatAt (w.setCell ⟨b, i, none⟩ u) B x v :=
  h.off hz fun _ hk => heap_setCell_other _ _ _ _ hk
theorem at0 {w : World} {b : Nat} {c0 c1 : Value} {t : TypeId} (h : w.heap[b]? = some (.cells #[c0, c1] t)) (v : Value) : (w.setCell ⟨b, 0, none⟩ v).heap[b]? = some (.cells #[v, c1] t) := by
  have := heap_setCell_same _ b 0 _ t v h
  simpa using this
theorem at1 {w : World} {b : Nat} {c0 c1 : Value} {t : TypeId} (h : w.heap[b]? = some (.cells #[c0, c1] t)) (v : Value) : (w.setCell ⟨b, 1, none⟩ v).heap[b]? = some (.cells #[c0, v] t) := by
  have := heap_setCell_same _ b 1 _ t v h
  simpa using this
theorem QuoP.drew {w W : World} {zb rb : Nat} {z : Int} {e : Ending} (h : QuoP w zb rb z e W) : QuoP w zb rb z e W.drew :=
  ⟨h.1, h.2.1.carry (below_dr (Below.refl _ _)) (Nat.le_refl _), h.2.2.1.carry (below_dr (Below.refl _ _)) (Nat.le_refl _), below_dr h.2.2.2⟩
theorem int_mk {w : World} {b x B : Nat} {s : Bool} {v : Value} (h : w.heap[b]? = some (.cells #[.bool s, v] 51)) (hv : NatAt w B x v) (hB : B = w.heap.size) (hs : x = 0 → s = false) : IntIn w w.heap.size (num s x) b := by
  subst hB
  exact ⟨(Array.getElem?_eq_some_iff.1 h).1, s, v, x, h, hv, rfl, hs⟩
/-- What the division leaves. -/
theorem quo_end0 {w wc : World} {zb rb q : Nat} {z0 r0 : Int} {vq vr : Value} (hbw : Below w.heap.size w wc) (hz : IntIn w w.heap.size z0 zb) (hr : IntIn w w.heap.size r0 rb) (n5 : zb < rb) (hq : NatAt wc wc.heap.size q vq) (hr0 : NatAt wc wc.heap.size 0 vr) (b : Bool) (hb : q = 0 → b = false) :
    QuoP w zb rb (num b q) (.returned (.tuple #[.pointer (some ⟨zb, 0, none⟩), .pointer (some ⟨rb, 0, none⟩)])) ((((wc.setCell ⟨zb, 1, none⟩ vq).setCell ⟨rb, 1, none⟩ vr).setCell ⟨zb, 0, none⟩ (.bool b)).setCell ⟨rb, 0, none⟩ (.bool false)) := by
  obtain ⟨s0, a0, n0, c0, x0, hzc, _, _, _, hzb, _⟩ := hz.open
  obtain ⟨s1, a1, n1, c1, x1, hrc, _, _, _, hrb, _⟩ := hr.open
  obtain ⟨aq, nq, cq, rfl, _⟩ := hq.slice
  obtain ⟨ar, nr, cr, rfl, _⟩ := hr0.slice
  have z1 := (hbw.block zb hzb).trans hzc
  have r1 := (hbw.block rb hrb).trans hrc
  have ne1 : zb ≠ rb := by omega
  have ne2 : rb ≠ zb := by omega
  have z2 := at1 z1 (.slice aq nq cq)
  have r2 : (wc.setCell ⟨zb, 1, none⟩ (.slice aq nq cq)).heap[rb]? = _ := (heap_setCell_other _ _ _ _ ne2).trans r1
  have q2 := hq.set z1 1 (.slice aq nq cq)
  have p2 := hr0.set z1 1 (.slice aq nq cq)
  have z3 : ((wc.setCell ⟨zb, 1, none⟩ (.slice aq nq cq)).setCell ⟨rb, 1, none⟩ (.slice ar nr cr)).heap[zb]? = _ := (heap_setCell_other _ _ _ _ ne1).trans z2
  have r3 := at1 r2 (.slice ar nr cr)
  have q3 := q2.set r2 1 (.slice ar nr cr)
  have p3 := p2.set r2 1 (.slice ar nr cr)
  have z4 := at0 z3 (.bool b)
  have r4 : (((wc.setCell ⟨zb, 1, none⟩ (.slice aq nq cq)).setCell ⟨rb, 1, none⟩ (.slice ar nr cr)).setCell ⟨zb, 0, none⟩ (.bool b)).heap[rb]? = _ := (heap_setCell_other _ _ _ _ ne2).trans r3
  have q4 := q3.set z3 0 (.bool b)
  have p4 := p3.set z3 0 (.bool b)
  have z5 : ((((wc.setCell ⟨zb, 1, none⟩ (.slice aq nq cq)).setCell ⟨rb, 1, none⟩ (.slice ar nr cr)).setCell ⟨zb, 0, none⟩ (.bool b)).setCell ⟨rb, 0, none⟩ (.bool false)).heap[zb]? = _ := (heap_setCell_other _ _ _ _ ne1).trans z4
  have r5 := at0 r4 (.bool false)
  have q5 := q4.set r4 0 (.bool false)
  have p5 := p4.set r4 0 (.bool false)
  refine ⟨rfl, int_mk z5 q5 (by simp) hb, int_mk r5 p5 (by simp) (fun _ => rfl), ?_⟩
  refine (hbw.mono (Nat.le_of_lt hzb)).trans ?_
  have e1 : zb ≤ rb := Nat.le_of_lt n5
  exact ((((Below.refl zb wc).setCell (show zb ≤ (⟨zb, 1, none⟩ : Addr).block from Nat.le_refl _) _).setCell (show zb ≤ (⟨rb, 1, none⟩ : Addr).block from e1) _).setCell (show zb ≤ (⟨zb, 0, none⟩ : Addr).block from Nat.le_refl _) _).setCell (show zb ≤ (⟨rb, 0, none⟩ : Addr).block from e1) _
theorem num_div (s t : Bool) (x y : Nat) : (num s x).tdiv (num t y) = num (s != t) (x / y) := by
  unfold num
  cases s <;> cases t <;> simp [Int.neg_tdiv, Int.tdiv_neg] <;> rfl
theorem cell_set {w : World} {a p : Addr} {v u : Value} (h : w.cell? p = some u) (hne : p.block ≠ a.block) : (w.setCell a v).cell? p = some u := by
  rw [World.cell?_setCell_other _ _ _ _ (fun e => hne (congrArg Addr.block e).symm)]
  exact h
set_option maxHeartbeats 4000000 in
set_option maxRecDepth 100000 in
theorem quoRem_any (w : World) (zb rb xb yb : Nat) (z0 r0 zx zy : Int) (hz : IntIn w w.heap.size z0 zb) (hr : IntIn w w.heap.size r0 rb) (hx : IntIn w w.heap.size zx xb) (hy : IntIn w w.heap.size zy yb)
    (h1 : xb < zb) (h2 : yb < zb) (h3 : zb < rb) (bx : zx.natAbs < xMax) (hy0 : zy ≠ 0) (hd : zy.natAbs ∣ zx.natAbs) :
    Calls Tryz.prog 92 #[.pointer (some ⟨zb, 0, none⟩), .pointer (some ⟨xb, 0, none⟩), .pointer (some ⟨yb, 0, none⟩), .pointer (some ⟨rb, 0, none⟩)] w (QuoP w zb rb (zx.tdiv zy)) := by
  obtain ⟨s, a, n, c, x, hxc, hxn, rfl, _, hxb, _⟩ := hx.open
  obtain ⟨t, a', n', c', y, hyc, hyn, rfl, _, hyb, _⟩ := hy.open
  obtain ⟨s0, a0, n0, c0, x0, hzc, _, _, _, hzb, _⟩ := hz.open
  obtain ⟨s1, a1, n1, c1, x1, hrc, _, _, _, hrb, _⟩ := hr.open
  rw [num_abs] at bx
  rw [num_abs, num_abs] at hd
  have hy1 : y ≠ 0 := fun e => hy0 (by subst e; unfold num; cases t <;> rfl)
  have HD := Lib.hid (div_any w.drew x y _ _ hxn hyn bx hy1)
  have Hx := Lib.hid hxc
  have Hy := Lib.hid hyc
  have Hz := Lib.hid hzc
  have Hr := Lib.hid hrc
  have HZ := Lib.hid hz
  have HR := Lib.hid hr
  have Hd := Lib.hid hd
  obtain ⟨y0, y1, _, _⟩ := of_block2 hyc
  obtain ⟨x0', x1', _, _⟩ := of_block2 hxc
  clear hz hr hx hy hyn hxn bx hyc hxc hzc hrc hd hy0
  go_enter Tryz.func92, Tryz.ntmps92
  go_upto_region 1 with fail
  go_cut [10, 11] (fun v10 v11 wx => NatAt wx wx.heap.size (x / y) v10 ∧ NatAt wx wx.heap.size (x % y) v11 ∧ Below w.heap.size w wx)
  case first =>
    go_region_with (go_at_call 125; refine HD.out.mono ?_; rintro e w6 ⟨q, r, rfl, hq, hr', hb6⟩; have hbw : Below w.heap.size w w6 := (below_dr (Below.refl _ _)).trans hb6)
    all_goals go_wp2_with fail
    all_goals go_meet
    all_goals exact ⟨hq, hr', hbw⟩
  case rest =>
    obtain ⟨hq, hr', hbw⟩ := hcut
    rw [Nat.mod_eq_zero_of_dvd Hd.out] at hr'
    obtain ⟨aq, nq, cq, rfl, hnq, _⟩ := hq.slice
    obtain ⟨ar, nr, cr, rfl, hnr, _⟩ := hr'.slice
    obtain rfl : nr = 0 := hnr.2 rfl
    clear hnr
    obtain ⟨p0, p1, p2, p3⟩ := of_block2 ((hbw.block zb hzb).trans Hz.out)
    obtain ⟨p4, p5, p6, p7⟩ := of_block2 ((hbw.block rb hrb).trans Hr.out)
    obtain ⟨x2, x3, _, _⟩ := of_block2 ((hbw.block xb hxb).trans Hx.out)
    obtain ⟨y2, y3, _, _⟩ := of_block2 ((hbw.block yb hyb).trans Hy.out)
    have Hq := Lib.hid hq
    have Hr' := Lib.hid hr'
    have Hbw := Lib.hid hbw
    have n1 : xb ≠ zb := by omega
    have n2 : yb ≠ zb := by omega
    have n3 : xb ≠ rb := by omega
    have n4 : yb ≠ rb := by omega
    have n5 : zb ≠ rb := by omega
    clear hq hr' hbw
    rcases Nat.eq_zero_or_pos (x / y) with hq0 | hq0
    · obtain rfl : nq = 0 := hnq.2 hq0
      clear hnq
      go_wp2_with fail
      refine wp_region_noPanic ?_
      refine wp_region_held_drew (S := fun w' : World => w'.cell? ⟨xb, 0, none⟩ = some (.bool s) ∧ w'.cell? ⟨yb, 0, none⟩ = some (.bool t)) (by kernel_rfl) ?_ (fun hHeld => ?_)
      · exact ⟨x2, y2⟩
      refine wpAnyH_take (i := 0) (oi := { dst := some 24, op := Op.move (Operand.tmp 0), type := 39, pos := "int.go:401", after := #[], guard := none }) (v := ?_) rfl (by kernel_rfl) (by kernel_rfl) (by kernel_rfl) (fun _ _ _ h => h) (Or.inl ⟨by kernel_rfl, ?_⟩) (by assumption) ?_
      rotate_left
      · (intro w' hSw; (try dsimp only at hSw); go_simp; try with_reducible rfl)
      try simp only [Act.put]
      try simp only [List.setIfInBounds_toArray, set_cs]
      refine wpAnyH_take (i := 1) (oi := { dst := some 25, op := Op.move (Operand.tmp 3), type := 39, pos := "int.go:401", after := #[{ on := 31, ground := Ground.gcOnly Departure.lateStores }], guard := none }) (v := ?_) rfl (by kernel_rfl) (by kernel_rfl) (by kernel_rfl) (fun _ _ _ h => h) (Or.inl ⟨by kernel_rfl, ?_⟩) (by assumption) ?_
      rotate_left
      · (intro w' hSw; (try dsimp only at hSw); go_simp; try with_reducible rfl)
      try simp only [Act.put]
      try simp only [List.setIfInBounds_toArray, set_cs]
      refine wpAnyH_take (i := 2) (oi := { dst := some 26, op := Op.move (Operand.tmp 0), type := 39, pos := "int.go:401", after := #[{ on := 34, ground := Ground.gcOnly Departure.lateStores }], guard := none }) (v := ?_) rfl (by kernel_rfl) (by kernel_rfl) (by kernel_rfl) (fun _ _ _ h => h) (Or.inl ⟨by kernel_rfl, ?_⟩) (by assumption) ?_
      rotate_left
      · (intro w' hSw; (try dsimp only at hSw); go_simp; try with_reducible rfl)
      try simp only [Act.put]
      try simp only [List.setIfInBounds_toArray, set_cs]
      refine wpAnyH_take (i := 3) (oi := { dst := some 27, op := Op.move (Operand.tmp 3), type := 39, pos := "int.go:401", after := #[{ on := 37, ground := Ground.gcOnly Departure.lateStores }], guard := none }) (v := ?_) rfl (by kernel_rfl) (by kernel_rfl) (by kernel_rfl) (fun _ _ _ h => h) (Or.inl ⟨by kernel_rfl, ?_⟩) (by assumption) ?_
      rotate_left
      · (intro w' hSw; (try dsimp only at hSw); go_simp; try with_reducible rfl)
      try simp only [Act.put]
      try simp only [List.setIfInBounds_toArray, set_cs]
      refine wpAnyH_take (i := 4) (oi := { dst := some 28, op := Op.move (Operand.tmp 10), type := 49, pos := "int.go:401", after := #[], guard := none }) (v := ?_) rfl (by kernel_rfl) (by kernel_rfl) (by kernel_rfl) (fun _ _ _ h => h) (Or.inl ⟨by kernel_rfl, ?_⟩) (by assumption) ?_
      rotate_left
      · (intro w' hSw; (try dsimp only at hSw); go_simp; try with_reducible rfl)
      try simp only [Act.put]
      try simp only [List.setIfInBounds_toArray, set_cs]
      refine wpAnyH_take (i := 5) (oi := { dst := some 29, op := Op.move (Operand.tmp 11), type := 49, pos := "int.go:401", after := #[{ on := 31, ground := Ground.gcOnly Departure.lateStores }], guard := none }) (v := ?_) rfl (by kernel_rfl) (by kernel_rfl) (by kernel_rfl) (fun _ _ _ h => h) (Or.inl ⟨by kernel_rfl, ?_⟩) (by assumption) ?_
      rotate_left
      · (intro w' hSw; (try dsimp only at hSw); go_simp; try with_reducible rfl)
      try simp only [Act.put]
      try simp only [List.setIfInBounds_toArray, set_cs]
      refine wpAnyH_take (i := 6) (oi := { dst := some 30, op := Op.move (Operand.tmp 10), type := 49, pos := "int.go:401", after := #[], guard := none }) (v := ?_) rfl (by kernel_rfl) (by kernel_rfl) (by kernel_rfl) (fun _ _ _ h => h) (Or.inl ⟨by kernel_rfl, ?_⟩) (by assumption) ?_
      rotate_left
      · (intro w' hSw; (try dsimp only at hSw); go_simp; try with_reducible rfl)
      try simp only [Act.put]
      try simp only [List.setIfInBounds_toArray, set_cs]
      refine wpAnyH_take (i := 7) (oi := { dst := some 31, op := Op.call { callee := Callee.builtin Builtin.len, args := #[Operand.tmp 30], argTypes := #[49] }, type := 3, pos := "int.go:401", after := #[{ on := 6, ground := Ground.data }], guard := none }) (v := ?_) rfl (by kernel_rfl) (by kernel_rfl) (by kernel_rfl) (fun _ _ _ h => h) (Or.inl ⟨by kernel_rfl, ?_⟩) (by assumption) ?_
      rotate_left
      · (intro w' hSw; (try dsimp only at hSw); go_simp; try with_reducible rfl)
      try simp only [Act.put]
      try simp only [List.setIfInBounds_toArray, set_cs]
      refine wpAnyH_take (i := 8) (oi := { dst := some 32, op := Op.binOp BinOp.gtr 3 (Operand.tmp 31) (Operand.const (Value.int IntKind.i64 0)) 3, type := 4, pos := "int.go:401", after := #[{ on := 7, ground := Ground.data }], guard := none }) (v := ?_) rfl (by kernel_rfl) (by kernel_rfl) (by kernel_rfl) (fun _ _ _ h => h) (Or.inl ⟨by kernel_rfl, ?_⟩) (by assumption) ?_
      rotate_left
      · (intro w' hSw; (try dsimp only at hSw); go_simp; try with_reducible rfl)
      try simp only [Act.put]
      try simp only [List.setIfInBounds_toArray, set_cs]
      refine wpAnyH_take (i := 9) (oi := { dst := some 33, op := Op.move (Operand.tmp 32), type := 4, pos := "int.go:401", after := #[{ on := 8, ground := Ground.data }], guard := none }) (v := ?_) rfl (by kernel_rfl) (by kernel_rfl) (by kernel_rfl) (fun _ _ _ h => h) (Or.inl ⟨by kernel_rfl, ?_⟩) (by assumption) ?_
      rotate_left
      · (intro w' hSw; (try dsimp only at hSw); go_simp; try with_reducible rfl)
      try simp only [Act.put]
      try simp only [List.setIfInBounds_toArray, set_cs]
      refine wpAnyH_take (i := 10) (oi := { dst := some 34, op := Op.move (Operand.tmp 1), type := 39, pos := "int.go:401", after := #[{ on := 9, ground := Ground.guard }], guard := some (9, true) }) (v := undef) rfl (by kernel_rfl) (by kernel_rfl) (by kernel_rfl) (fun _ _ _ h => h) ?_ (by assumption) ?_
      · (refine Or.inr ⟨?_, rfl⟩; kernel_rfl)
      try simp only [Act.put]
      try simp only [List.setIfInBounds_toArray, set_cs]
      refine wpAnyH_take (i := 11) (oi := { dst := some 35, op := Op.nilCheck (Operand.tmp 34), type := 0, pos := "int.go:401", after := #[{ on := 10, ground := Ground.data }, { on := 9, ground := Ground.guard }], guard := some (9, true) }) (v := undef) rfl (by kernel_rfl) (by kernel_rfl) (by kernel_rfl) (fun _ _ _ h => h) ?_ (by assumption) ?_
      · (refine Or.inr ⟨?_, rfl⟩; kernel_rfl)
      try simp only [Act.put]
      try simp only [List.setIfInBounds_toArray, set_cs]
      refine wpAnyH_take (i := 12) (oi := { dst := some 36, op := Op.fieldAddr 51 (Operand.tmp 35) 0, type := 0, pos := "int.go:401", after := #[{ on := 11, ground := Ground.data }, { on := 9, ground := Ground.guard }], guard := some (9, true) }) (v := undef) rfl (by kernel_rfl) (by kernel_rfl) (by kernel_rfl) (fun _ _ _ h => h) ?_ (by assumption) ?_
      · (refine Or.inr ⟨?_, rfl⟩; kernel_rfl)
      try simp only [Act.put]
      try simp only [List.setIfInBounds_toArray, set_cs]
      refine wpAnyH_take (i := 13) (oi := { dst := some 37, op := Op.load 4 (Operand.tmp 36), type := 4, pos := "int.go:401", after := #[{ on := 12, ground := Ground.data }, { on := 9, ground := Ground.guard }], guard := some (9, true) }) (v := undef) rfl (by kernel_rfl) (by kernel_rfl) (by kernel_rfl) (fun _ _ _ h => h) ?_ (by assumption) ?_
      · (refine Or.inr ⟨?_, rfl⟩; kernel_rfl)
      try simp only [Act.put]
      try simp only [List.setIfInBounds_toArray, set_cs]
      refine wpAnyH_take (i := 14) (oi := { dst := some 38, op := Op.move (Operand.tmp 2), type := 39, pos := "int.go:401", after := #[{ on := 9, ground := Ground.guard }], guard := some (9, true) }) (v := undef) rfl (by kernel_rfl) (by kernel_rfl) (by kernel_rfl) (fun _ _ _ h => h) ?_ (by assumption) ?_
      · (refine Or.inr ⟨?_, rfl⟩; kernel_rfl)
      try simp only [Act.put]
      try simp only [List.setIfInBounds_toArray, set_cs]
      refine wpAnyH_take (i := 15) (oi := { dst := some 39, op := Op.nilCheck (Operand.tmp 38), type := 0, pos := "int.go:401", after := #[{ on := 14, ground := Ground.data }, { on := 9, ground := Ground.guard }], guard := some (9, true) }) (v := undef) rfl (by kernel_rfl) (by kernel_rfl) (by kernel_rfl) (fun _ _ _ h => h) ?_ (by assumption) ?_
      · (refine Or.inr ⟨?_, rfl⟩; kernel_rfl)
      try simp only [Act.put]
      try simp only [List.setIfInBounds_toArray, set_cs]
      refine wpAnyH_take (i := 16) (oi := { dst := some 40, op := Op.fieldAddr 51 (Operand.tmp 39) 0, type := 0, pos := "int.go:401", after := #[{ on := 15, ground := Ground.data }, { on := 9, ground := Ground.guard }], guard := some (9, true) }) (v := undef) rfl (by kernel_rfl) (by kernel_rfl) (by kernel_rfl) (fun _ _ _ h => h) ?_ (by assumption) ?_
      · (refine Or.inr ⟨?_, rfl⟩; kernel_rfl)
      try simp only [Act.put]
      try simp only [List.setIfInBounds_toArray, set_cs]
      refine wpAnyH_take (i := 17) (oi := { dst := some 41, op := Op.load 4 (Operand.tmp 40), type := 4, pos := "int.go:401", after := #[{ on := 16, ground := Ground.data }, { on := 9, ground := Ground.guard }], guard := some (9, true) }) (v := undef) rfl (by kernel_rfl) (by kernel_rfl) (by kernel_rfl) (fun _ _ _ h => h) ?_ (by assumption) ?_
      · (refine Or.inr ⟨?_, rfl⟩; kernel_rfl)
      try simp only [Act.put]
      try simp only [List.setIfInBounds_toArray, set_cs]
      refine wpAnyH_take (i := 18) (oi := { dst := some 42, op := Op.binOp BinOp.neq 4 (Operand.tmp 37) (Operand.tmp 41) 4, type := 4, pos := "int.go:401", after := #[{ on := 13, ground := Ground.data }, { on := 17, ground := Ground.data }, { on := 9, ground := Ground.guard }], guard := some (9, true) }) (v := undef) rfl (by kernel_rfl) (by kernel_rfl) (by kernel_rfl) (fun _ _ _ h => h) ?_ (by assumption) ?_
      · (refine Or.inr ⟨?_, rfl⟩; kernel_rfl)
      try simp only [Act.put]
      try simp only [List.setIfInBounds_toArray, set_cs]
      refine wpAnyH_take (i := 19) (oi := { dst := some 43, op := Op.pick (Operand.tmp 33) (Operand.tmp 42) (Operand.const (Value.bool false)), type := 4, pos := "int.go:401", after := #[{ on := 9, ground := Ground.data }, { on := 18, ground := Ground.data }], guard := none }) (v := ?_) rfl (by kernel_rfl) (by kernel_rfl) (by kernel_rfl) (fun _ _ _ h => h) (Or.inl ⟨by kernel_rfl, ?_⟩) (by assumption) ?_
      rotate_left
      · (intro w' hSw; (try dsimp only at hSw); go_simp; try with_reducible rfl)
      try simp only [Act.put]
      try simp only [List.setIfInBounds_toArray, set_cs]
      refine wpAnyH_take (i := 20) (oi := { dst := some 44, op := Op.move (Operand.tmp 11), type := 49, pos := "int.go:401", after := #[], guard := none }) (v := ?_) rfl (by kernel_rfl) (by kernel_rfl) (by kernel_rfl) (fun _ _ _ h => h) (Or.inl ⟨by kernel_rfl, ?_⟩) (by assumption) ?_
      rotate_left
      · (intro w' hSw; (try dsimp only at hSw); go_simp; try with_reducible rfl)
      try simp only [Act.put]
      try simp only [List.setIfInBounds_toArray, set_cs]
      refine wpAnyH_take (i := 21) (oi := { dst := some 45, op := Op.call { callee := Callee.builtin Builtin.len, args := #[Operand.tmp 44], argTypes := #[49] }, type := 3, pos := "int.go:401", after := #[{ on := 20, ground := Ground.data }], guard := none }) (v := ?_) rfl (by kernel_rfl) (by kernel_rfl) (by kernel_rfl) (fun _ _ _ h => h) (Or.inl ⟨by kernel_rfl, ?_⟩) (by assumption) ?_
      rotate_left
      · (intro w' hSw; (try dsimp only at hSw); go_simp; try with_reducible rfl)
      try simp only [Act.put]
      try simp only [List.setIfInBounds_toArray, set_cs]
      refine wpAnyH_take (i := 22) (oi := { dst := some 46, op := Op.binOp BinOp.gtr 3 (Operand.tmp 45) (Operand.const (Value.int IntKind.i64 0)) 3, type := 4, pos := "int.go:401", after := #[{ on := 21, ground := Ground.data }], guard := none }) (v := ?_) rfl (by kernel_rfl) (by kernel_rfl) (by kernel_rfl) (fun _ _ _ h => h) (Or.inl ⟨by kernel_rfl, ?_⟩) (by assumption) ?_
      rotate_left
      · (intro w' hSw; (try dsimp only at hSw); go_simp; try with_reducible rfl)
      try simp only [Act.put]
      try simp only [List.setIfInBounds_toArray, set_cs]
      refine wpAnyH_take (i := 23) (oi := { dst := some 47, op := Op.move (Operand.tmp 46), type := 4, pos := "int.go:401", after := #[{ on := 22, ground := Ground.data }, { on := 9, ground := Ground.chain }], guard := none }) (v := ?_) rfl (by kernel_rfl) (by kernel_rfl) (by kernel_rfl) (fun _ _ _ h => h) (Or.inl ⟨by kernel_rfl, ?_⟩) (by assumption) ?_
      rotate_left
      · (intro w' hSw; (try dsimp only at hSw); go_simp; try with_reducible rfl)
      try simp only [Act.put]
      try simp only [List.setIfInBounds_toArray, set_cs]
      refine wpAnyH_take (i := 24) (oi := { dst := some 48, op := Op.move (Operand.tmp 1), type := 39, pos := "int.go:401", after := #[{ on := 23, ground := Ground.guard }], guard := some (23, true) }) (v := undef) rfl (by kernel_rfl) (by kernel_rfl) (by kernel_rfl) (fun _ _ _ h => h) ?_ (by assumption) ?_
      · (refine Or.inr ⟨?_, rfl⟩; kernel_rfl)
      try simp only [Act.put]
      try simp only [List.setIfInBounds_toArray, set_cs]
      refine wpAnyH_take (i := 25) (oi := { dst := some 49, op := Op.nilCheck (Operand.tmp 48), type := 0, pos := "int.go:401", after := #[{ on := 24, ground := Ground.data }, { on := 23, ground := Ground.guard }], guard := some (23, true) }) (v := undef) rfl (by kernel_rfl) (by kernel_rfl) (by kernel_rfl) (fun _ _ _ h => h) ?_ (by assumption) ?_
      · (refine Or.inr ⟨?_, rfl⟩; kernel_rfl)
      try simp only [Act.put]
      try simp only [List.setIfInBounds_toArray, set_cs]
      refine wpAnyH_take (i := 26) (oi := { dst := some 50, op := Op.fieldAddr 51 (Operand.tmp 49) 0, type := 0, pos := "int.go:401", after := #[{ on := 25, ground := Ground.data }, { on := 23, ground := Ground.guard }], guard := some (23, true) }) (v := undef) rfl (by kernel_rfl) (by kernel_rfl) (by kernel_rfl) (fun _ _ _ h => h) ?_ (by assumption) ?_
      · (refine Or.inr ⟨?_, rfl⟩; kernel_rfl)
      try simp only [Act.put]
      try simp only [List.setIfInBounds_toArray, set_cs]
      refine wpAnyH_take (i := 27) (oi := { dst := some 51, op := Op.load 4 (Operand.tmp 50), type := 4, pos := "int.go:401", after := #[{ on := 26, ground := Ground.data }, { on := 23, ground := Ground.guard }], guard := some (23, true) }) (v := undef) rfl (by kernel_rfl) (by kernel_rfl) (by kernel_rfl) (fun _ _ _ h => h) ?_ (by assumption) ?_
      · (refine Or.inr ⟨?_, rfl⟩; kernel_rfl)
      try simp only [Act.put]
      try simp only [List.setIfInBounds_toArray, set_cs]
      refine wpAnyH_take (i := 28) (oi := { dst := some 52, op := Op.pick (Operand.tmp 47) (Operand.tmp 51) (Operand.const (Value.bool false)), type := 4, pos := "int.go:401", after := #[{ on := 23, ground := Ground.data }, { on := 27, ground := Ground.data }], guard := none }) (v := ?_) rfl (by kernel_rfl) (by kernel_rfl) (by kernel_rfl) (fun _ _ _ h => h) (Or.inl ⟨by kernel_rfl, ?_⟩) (by assumption) ?_
      rotate_left
      · (intro w' hSw; (try dsimp only at hSw); go_simp; try with_reducible rfl)
      try simp only [Act.put]
      try simp only [List.setIfInBounds_toArray, set_cs]
      refine wpAnyH_take (i := 29) (oi := { dst := some 53, op := Op.nilCheck (Operand.tmp 24), type := 0, pos := "int.go:401", after := #[{ on := 0, ground := Ground.data }, { on := 0, ground := Ground.phase }, { on := 1, ground := Ground.textOnly Departure.lateStores }, { on := 2, ground := Ground.textOnly Departure.lateStores }, { on := 3, ground := Ground.textOnly Departure.lateStores }, { on := 4, ground := Ground.phase }, { on := 5, ground := Ground.textOnly Departure.lateStores }, { on := 6, ground := Ground.textOnly Departure.lateStores }, { on := 7, ground := Ground.textOnly Departure.lateStoresUnsure }, { on := 8, ground := Ground.textOnly Departure.lateStoresUnsure }, { on := 9, ground := Ground.textOnly Departure.lateStoresUnsure }, { on := 10, ground := Ground.textOnly Departure.lateStores }, { on := 11, ground := Ground.textOnly Departure.lateStoresUnsure }, { on := 12, ground := Ground.textOnly Departure.lateStores }, { on := 13, ground := Ground.phase }, { on := 14, ground := Ground.textOnly Departure.lateStores }, { on := 15, ground := Ground.textOnly Departure.lateStoresUnsure }, { on := 16, ground := Ground.textOnly Departure.lateStores }, { on := 17, ground := Ground.phase }, { on := 18, ground := Ground.textOnly Departure.lateStoresUnsure }, { on := 19, ground := Ground.textOnly Departure.lateStoresUnsure }, { on := 20, ground := Ground.textOnly Departure.lateStores }, { on := 21, ground := Ground.textOnly Departure.lateStoresUnsure }, { on := 22, ground := Ground.textOnly Departure.lateStoresUnsure }, { on := 23, ground := Ground.textOnly Departure.lateStoresUnsure }, { on := 24, ground := Ground.textOnly Departure.lateStores }, { on := 25, ground := Ground.textOnly Departure.lateStoresUnsure }, { on := 26, ground := Ground.textOnly Departure.lateStores }, { on := 27, ground := Ground.phase }, { on := 28, ground := Ground.textOnly Departure.lateStoresUnsure }], guard := none }) (v := ?_) rfl (by kernel_rfl) (by kernel_rfl) (by kernel_rfl) (fun _ _ _ h => h) (Or.inl ⟨by kernel_rfl, ?_⟩) (by assumption) ?_
      rotate_left
      · (intro w' hSw; (try dsimp only at hSw); go_simp; try with_reducible rfl)
      try simp only [Act.put]
      try simp only [List.setIfInBounds_toArray, set_cs]
      refine wpAnyH_take (i := 30) (oi := { dst := some 54, op := Op.fieldAddr 51 (Operand.tmp 53) 1, type := 0, pos := "int.go:401", after := #[{ on := 29, ground := Ground.data }, { on := 0, ground := Ground.phase }, { on := 1, ground := Ground.textOnly Departure.lateStores }, { on := 2, ground := Ground.textOnly Departure.lateStores }, { on := 3, ground := Ground.textOnly Departure.lateStores }, { on := 4, ground := Ground.phase }, { on := 5, ground := Ground.textOnly Departure.lateStores }, { on := 6, ground := Ground.textOnly Departure.lateStores }, { on := 7, ground := Ground.textOnly Departure.lateStoresUnsure }, { on := 8, ground := Ground.textOnly Departure.lateStoresUnsure }, { on := 9, ground := Ground.textOnly Departure.lateStoresUnsure }, { on := 10, ground := Ground.textOnly Departure.lateStores }, { on := 11, ground := Ground.textOnly Departure.lateStoresUnsure }, { on := 12, ground := Ground.textOnly Departure.lateStores }, { on := 13, ground := Ground.phase }, { on := 14, ground := Ground.textOnly Departure.lateStores }, { on := 15, ground := Ground.textOnly Departure.lateStoresUnsure }, { on := 16, ground := Ground.textOnly Departure.lateStores }, { on := 17, ground := Ground.phase }, { on := 18, ground := Ground.textOnly Departure.lateStoresUnsure }, { on := 19, ground := Ground.textOnly Departure.lateStoresUnsure }, { on := 20, ground := Ground.textOnly Departure.lateStores }, { on := 21, ground := Ground.textOnly Departure.lateStoresUnsure }, { on := 22, ground := Ground.textOnly Departure.lateStoresUnsure }, { on := 23, ground := Ground.textOnly Departure.lateStoresUnsure }, { on := 24, ground := Ground.textOnly Departure.lateStores }, { on := 25, ground := Ground.textOnly Departure.lateStoresUnsure }, { on := 26, ground := Ground.textOnly Departure.lateStores }, { on := 27, ground := Ground.phase }, { on := 28, ground := Ground.textOnly Departure.lateStoresUnsure }], guard := none }) (v := ?_) rfl (by kernel_rfl) (by kernel_rfl) (by kernel_rfl) (fun _ _ _ h => h) (Or.inl ⟨by kernel_rfl, ?_⟩) (by assumption) ?_
      rotate_left
      · (intro w' hSw; (try dsimp only at hSw); go_simp; try with_reducible rfl)
      try simp only [Act.put]
      try simp only [List.setIfInBounds_toArray, set_cs]
      refine wpAnyH_ready (rs := [31]) (by kernel_rfl) (by simp) ?_
      refine AllReadyH.cons rfl (fun K hK => ?_) AllReadyH.nil
      go_simp
      refine hK.out _ _ ?_ (fun hHeld => ?_)
      · (first | exact ⟨by simpa using x2, by simpa using y2⟩ | (refine ⟨?_, ?_⟩ <;> (repeat refine cell_set ?_ (by first | exact n1 | exact n2 | exact n3 | exact n4)) <;> first | exact x2 | exact y2))
      clear hK K
      try simp only [Act.put]
      try simp only [List.setIfInBounds_toArray, set_cs]
      refine wpAnyH_take (i := 32) (oi := { dst := some 55, op := Op.nilCheck (Operand.tmp 25), type := 0, pos := "int.go:401", after := #[{ on := 1, ground := Ground.data }, { on := 0, ground := Ground.phase }, { on := 1, ground := Ground.phase }, { on := 2, ground := Ground.textOnly Departure.lateStores }, { on := 3, ground := Ground.textOnly Departure.lateStores }, { on := 4, ground := Ground.phase }, { on := 5, ground := Ground.phase }, { on := 6, ground := Ground.textOnly Departure.lateStores }, { on := 7, ground := Ground.textOnly Departure.lateStoresUnsure }, { on := 8, ground := Ground.textOnly Departure.lateStoresUnsure }, { on := 9, ground := Ground.textOnly Departure.lateStoresUnsure }, { on := 10, ground := Ground.textOnly Departure.lateStores }, { on := 11, ground := Ground.textOnly Departure.lateStoresUnsure }, { on := 12, ground := Ground.textOnly Departure.lateStores }, { on := 13, ground := Ground.phase }, { on := 14, ground := Ground.textOnly Departure.lateStores }, { on := 15, ground := Ground.textOnly Departure.lateStoresUnsure }, { on := 16, ground := Ground.textOnly Departure.lateStores }, { on := 17, ground := Ground.phase }, { on := 18, ground := Ground.textOnly Departure.lateStoresUnsure }, { on := 19, ground := Ground.textOnly Departure.lateStoresUnsure }, { on := 20, ground := Ground.textOnly Departure.lateStores }, { on := 21, ground := Ground.textOnly Departure.lateStoresUnsure }, { on := 22, ground := Ground.textOnly Departure.lateStoresUnsure }, { on := 23, ground := Ground.textOnly Departure.lateStoresUnsure }, { on := 24, ground := Ground.textOnly Departure.lateStores }, { on := 25, ground := Ground.textOnly Departure.lateStoresUnsure }, { on := 26, ground := Ground.textOnly Departure.lateStores }, { on := 27, ground := Ground.phase }, { on := 28, ground := Ground.textOnly Departure.lateStoresUnsure }, { on := 29, ground := Ground.phase }, { on := 30, ground := Ground.phase }, { on := 31, ground := Ground.phase }], guard := none }) (v := ?_) rfl (by kernel_rfl) (by kernel_rfl) (by kernel_rfl) (fun _ _ _ h => h) (Or.inl ⟨by kernel_rfl, ?_⟩) (by assumption) ?_
      rotate_left
      · (intro w' hSw; (try dsimp only at hSw); go_simp; try with_reducible rfl)
      try simp only [Act.put]
      try simp only [List.setIfInBounds_toArray, set_cs]
      refine wpAnyH_take (i := 33) (oi := { dst := some 56, op := Op.fieldAddr 51 (Operand.tmp 55) 1, type := 0, pos := "int.go:401", after := #[{ on := 32, ground := Ground.data }, { on := 0, ground := Ground.phase }, { on := 1, ground := Ground.phase }, { on := 2, ground := Ground.textOnly Departure.lateStores }, { on := 3, ground := Ground.textOnly Departure.lateStores }, { on := 4, ground := Ground.phase }, { on := 5, ground := Ground.phase }, { on := 6, ground := Ground.textOnly Departure.lateStores }, { on := 7, ground := Ground.textOnly Departure.lateStoresUnsure }, { on := 8, ground := Ground.textOnly Departure.lateStoresUnsure }, { on := 9, ground := Ground.textOnly Departure.lateStoresUnsure }, { on := 10, ground := Ground.textOnly Departure.lateStores }, { on := 11, ground := Ground.textOnly Departure.lateStoresUnsure }, { on := 12, ground := Ground.textOnly Departure.lateStores }, { on := 13, ground := Ground.phase }, { on := 14, ground := Ground.textOnly Departure.lateStores }, { on := 15, ground := Ground.textOnly Departure.lateStoresUnsure }, { on := 16, ground := Ground.textOnly Departure.lateStores }, { on := 17, ground := Ground.phase }, { on := 18, ground := Ground.textOnly Departure.lateStoresUnsure }, { on := 19, ground := Ground.textOnly Departure.lateStoresUnsure }, { on := 20, ground := Ground.textOnly Departure.lateStores }, { on := 21, ground := Ground.textOnly Departure.lateStoresUnsure }, { on := 22, ground := Ground.textOnly Departure.lateStoresUnsure }, { on := 23, ground := Ground.textOnly Departure.lateStoresUnsure }, { on := 24, ground := Ground.textOnly Departure.lateStores }, { on := 25, ground := Ground.textOnly Departure.lateStoresUnsure }, { on := 26, ground := Ground.textOnly Departure.lateStores }, { on := 27, ground := Ground.phase }, { on := 28, ground := Ground.textOnly Departure.lateStoresUnsure }, { on := 29, ground := Ground.phase }, { on := 30, ground := Ground.phase }, { on := 31, ground := Ground.phase }], guard := none }) (v := ?_) rfl (by kernel_rfl) (by kernel_rfl) (by kernel_rfl) (fun _ _ _ h => h) (Or.inl ⟨by kernel_rfl, ?_⟩) (by assumption) ?_
      rotate_left
      · (intro w' hSw; (try dsimp only at hSw); go_simp; try with_reducible rfl)
      try simp only [Act.put]
      try simp only [List.setIfInBounds_toArray, set_cs]
      refine wpAnyH_ready (rs := [34]) (by kernel_rfl) (by simp) ?_
      refine AllReadyH.cons rfl (fun K hK => ?_) AllReadyH.nil
      go_simp
      refine hK.out _ _ ?_ (fun hHeld => ?_)
      · (first | exact ⟨by simpa using x2, by simpa using y2⟩ | (refine ⟨?_, ?_⟩ <;> (repeat refine cell_set ?_ (by first | exact n1 | exact n2 | exact n3 | exact n4)) <;> first | exact x2 | exact y2))
      clear hK K
      try simp only [Act.put]
      try simp only [List.setIfInBounds_toArray, set_cs]
      refine wpAnyH_take (i := 35) (oi := { dst := some 57, op := Op.nilCheck (Operand.tmp 26), type := 0, pos := "int.go:401", after := #[{ on := 2, ground := Ground.data }, { on := 0, ground := Ground.phase }, { on := 1, ground := Ground.phase }, { on := 2, ground := Ground.phase }, { on := 3, ground := Ground.textOnly Departure.lateStores }, { on := 4, ground := Ground.phase }, { on := 5, ground := Ground.phase }, { on := 6, ground := Ground.phase }, { on := 7, ground := Ground.phase }, { on := 8, ground := Ground.phase }, { on := 9, ground := Ground.phase }, { on := 10, ground := Ground.phase }, { on := 11, ground := Ground.phase }, { on := 12, ground := Ground.phase }, { on := 13, ground := Ground.phase }, { on := 14, ground := Ground.phase }, { on := 15, ground := Ground.phase }, { on := 16, ground := Ground.phase }, { on := 17, ground := Ground.phase }, { on := 18, ground := Ground.phase }, { on := 19, ground := Ground.phase }, { on := 20, ground := Ground.textOnly Departure.lateStores }, { on := 21, ground := Ground.textOnly Departure.lateStoresUnsure }, { on := 22, ground := Ground.textOnly Departure.lateStoresUnsure }, { on := 23, ground := Ground.textOnly Departure.lateStoresUnsure }, { on := 24, ground := Ground.textOnly Departure.lateStores }, { on := 25, ground := Ground.textOnly Departure.lateStoresUnsure }, { on := 26, ground := Ground.textOnly Departure.lateStores }, { on := 27, ground := Ground.phase }, { on := 28, ground := Ground.textOnly Departure.lateStoresUnsure }, { on := 29, ground := Ground.phase }, { on := 30, ground := Ground.phase }, { on := 31, ground := Ground.phase }, { on := 32, ground := Ground.phase }, { on := 33, ground := Ground.phase }, { on := 34, ground := Ground.phase }], guard := none }) (v := ?_) rfl (by kernel_rfl) (by kernel_rfl) (by kernel_rfl) (fun _ _ _ h => h) (Or.inl ⟨by kernel_rfl, ?_⟩) (by assumption) ?_
      rotate_left
      · (intro w' hSw; (try dsimp only at hSw); go_simp; try with_reducible rfl)
      try simp only [Act.put]
      try simp only [List.setIfInBounds_toArray, set_cs]
      refine wpAnyH_take (i := 36) (oi := { dst := some 58, op := Op.fieldAddr 51 (Operand.tmp 57) 0, type := 0, pos := "int.go:401", after := #[{ on := 35, ground := Ground.data }, { on := 0, ground := Ground.phase }, { on := 1, ground := Ground.phase }, { on := 2, ground := Ground.phase }, { on := 3, ground := Ground.textOnly Departure.lateStores }, { on := 4, ground := Ground.phase }, { on := 5, ground := Ground.phase }, { on := 6, ground := Ground.phase }, { on := 7, ground := Ground.phase }, { on := 8, ground := Ground.phase }, { on := 9, ground := Ground.phase }, { on := 10, ground := Ground.phase }, { on := 11, ground := Ground.phase }, { on := 12, ground := Ground.phase }, { on := 13, ground := Ground.phase }, { on := 14, ground := Ground.phase }, { on := 15, ground := Ground.phase }, { on := 16, ground := Ground.phase }, { on := 17, ground := Ground.phase }, { on := 18, ground := Ground.phase }, { on := 19, ground := Ground.phase }, { on := 20, ground := Ground.textOnly Departure.lateStores }, { on := 21, ground := Ground.textOnly Departure.lateStoresUnsure }, { on := 22, ground := Ground.textOnly Departure.lateStoresUnsure }, { on := 23, ground := Ground.textOnly Departure.lateStoresUnsure }, { on := 24, ground := Ground.textOnly Departure.lateStores }, { on := 25, ground := Ground.textOnly Departure.lateStoresUnsure }, { on := 26, ground := Ground.textOnly Departure.lateStores }, { on := 27, ground := Ground.phase }, { on := 28, ground := Ground.textOnly Departure.lateStoresUnsure }, { on := 29, ground := Ground.phase }, { on := 30, ground := Ground.phase }, { on := 31, ground := Ground.phase }, { on := 32, ground := Ground.phase }, { on := 33, ground := Ground.phase }, { on := 34, ground := Ground.phase }], guard := none }) (v := ?_) rfl (by kernel_rfl) (by kernel_rfl) (by kernel_rfl) (fun _ _ _ h => h) (Or.inl ⟨by kernel_rfl, ?_⟩) (by assumption) ?_
      rotate_left
      · (intro w' hSw; (try dsimp only at hSw); go_simp; try with_reducible rfl)
      try simp only [Act.put]
      try simp only [List.setIfInBounds_toArray, set_cs]
      refine wpAnyH_ready (rs := [37]) (by kernel_rfl) (by simp) ?_
      refine AllReadyH.cons rfl (fun K hK => ?_) AllReadyH.nil
      go_simp
      refine hK.out _ _ ?_ (fun hHeld => ?_)
      · (first | exact ⟨by simpa using x2, by simpa using y2⟩ | (refine ⟨?_, ?_⟩ <;> (repeat refine cell_set ?_ (by first | exact n1 | exact n2 | exact n3 | exact n4)) <;> first | exact x2 | exact y2))
      clear hK K
      try simp only [Act.put]
      try simp only [List.setIfInBounds_toArray, set_cs]
      refine wpAnyH_take (i := 38) (oi := { dst := some 59, op := Op.nilCheck (Operand.tmp 27), type := 0, pos := "int.go:401", after := #[{ on := 3, ground := Ground.data }, { on := 0, ground := Ground.phase }, { on := 1, ground := Ground.phase }, { on := 2, ground := Ground.phase }, { on := 3, ground := Ground.phase }, { on := 4, ground := Ground.phase }, { on := 5, ground := Ground.phase }, { on := 6, ground := Ground.phase }, { on := 7, ground := Ground.phase }, { on := 8, ground := Ground.phase }, { on := 9, ground := Ground.phase }, { on := 10, ground := Ground.phase }, { on := 11, ground := Ground.phase }, { on := 12, ground := Ground.phase }, { on := 13, ground := Ground.phase }, { on := 14, ground := Ground.phase }, { on := 15, ground := Ground.phase }, { on := 16, ground := Ground.phase }, { on := 17, ground := Ground.phase }, { on := 18, ground := Ground.phase }, { on := 19, ground := Ground.phase }, { on := 20, ground := Ground.phase }, { on := 21, ground := Ground.phase }, { on := 22, ground := Ground.phase }, { on := 23, ground := Ground.phase }, { on := 24, ground := Ground.phase }, { on := 25, ground := Ground.phase }, { on := 26, ground := Ground.phase }, { on := 27, ground := Ground.phase }, { on := 28, ground := Ground.phase }, { on := 29, ground := Ground.phase }, { on := 30, ground := Ground.phase }, { on := 31, ground := Ground.phase }, { on := 32, ground := Ground.phase }, { on := 33, ground := Ground.phase }, { on := 34, ground := Ground.phase }, { on := 35, ground := Ground.phase }, { on := 36, ground := Ground.phase }, { on := 37, ground := Ground.phase }], guard := none }) (v := ?_) rfl (by kernel_rfl) (by kernel_rfl) (by kernel_rfl) (fun _ _ _ h => h) (Or.inl ⟨by kernel_rfl, ?_⟩) (by assumption) ?_
      rotate_left
      · (intro w' hSw; (try dsimp only at hSw); go_simp; try with_reducible rfl)
      try simp only [Act.put]
      try simp only [List.setIfInBounds_toArray, set_cs]
      refine wpAnyH_take (i := 39) (oi := { dst := some 60, op := Op.fieldAddr 51 (Operand.tmp 59) 0, type := 0, pos := "int.go:401", after := #[{ on := 38, ground := Ground.data }, { on := 0, ground := Ground.phase }, { on := 1, ground := Ground.phase }, { on := 2, ground := Ground.phase }, { on := 3, ground := Ground.phase }, { on := 4, ground := Ground.phase }, { on := 5, ground := Ground.phase }, { on := 6, ground := Ground.phase }, { on := 7, ground := Ground.phase }, { on := 8, ground := Ground.phase }, { on := 9, ground := Ground.phase }, { on := 10, ground := Ground.phase }, { on := 11, ground := Ground.phase }, { on := 12, ground := Ground.phase }, { on := 13, ground := Ground.phase }, { on := 14, ground := Ground.phase }, { on := 15, ground := Ground.phase }, { on := 16, ground := Ground.phase }, { on := 17, ground := Ground.phase }, { on := 18, ground := Ground.phase }, { on := 19, ground := Ground.phase }, { on := 20, ground := Ground.phase }, { on := 21, ground := Ground.phase }, { on := 22, ground := Ground.phase }, { on := 23, ground := Ground.phase }, { on := 24, ground := Ground.phase }, { on := 25, ground := Ground.phase }, { on := 26, ground := Ground.phase }, { on := 27, ground := Ground.phase }, { on := 28, ground := Ground.phase }, { on := 29, ground := Ground.phase }, { on := 30, ground := Ground.phase }, { on := 31, ground := Ground.phase }, { on := 32, ground := Ground.phase }, { on := 33, ground := Ground.phase }, { on := 34, ground := Ground.phase }, { on := 35, ground := Ground.phase }, { on := 36, ground := Ground.phase }, { on := 37, ground := Ground.phase }], guard := none }) (v := ?_) rfl (by kernel_rfl) (by kernel_rfl) (by kernel_rfl) (fun _ _ _ h => h) (Or.inl ⟨by kernel_rfl, ?_⟩) (by assumption) ?_
      rotate_left
      · (intro w' hSw; (try dsimp only at hSw); go_simp; try with_reducible rfl)
      try simp only [Act.put]
      try simp only [List.setIfInBounds_toArray, set_cs]
      refine wpAnyH_ready (rs := [40]) (by kernel_rfl) (by simp) ?_
      refine AllReadyH.cons rfl (fun K hK => ?_) AllReadyH.nil
      go_simp
      refine hK.out _ _ ?_ (fun hHeld => ?_)
      · (first | exact ⟨by simpa using x2, by simpa using y2⟩ | (refine ⟨?_, ?_⟩ <;> (repeat refine cell_set ?_ (by first | exact n1 | exact n2 | exact n3 | exact n4)) <;> first | exact x2 | exact y2))
      clear hK K
      refine wpAnyH_done (by kernel_rfl) ?_ _
      refine NoPanic.normal ?_
      try simp only [Act.put]
      go_wp2_with fail
      have HF := Lib.hid (QuoP.drew (quo_end0 Hbw.out HZ.out HR.out h3 Hq.out Hr'.out false (fun _ => rfl)))
      have e : num false (x / y) = (num s x).tdiv (num t y) := by rw [num_div, hq0]; unfold num; simp
      rw [e] at HF
      go_ret2
      exact HF.out
    · have hn : 0 < nq := by omega
      clear hnq
      go_wp2_with fail
      refine wp_region_noPanic ?_
      refine wp_region_held_drew (S := fun w' : World => w'.cell? ⟨xb, 0, none⟩ = some (.bool s) ∧ w'.cell? ⟨yb, 0, none⟩ = some (.bool t)) (by kernel_rfl) ?_ (fun hHeld => ?_)
      · exact ⟨x2, y2⟩
      refine wpAnyH_take (i := 0) (oi := { dst := some 24, op := Op.move (Operand.tmp 0), type := 39, pos := "int.go:401", after := #[], guard := none }) (v := ?_) rfl (by kernel_rfl) (by kernel_rfl) (by kernel_rfl) (fun _ _ _ h => h) (Or.inl ⟨by kernel_rfl, ?_⟩) (by assumption) ?_
      rotate_left
      · (intro w' hSw; (try dsimp only at hSw); go_simp; try with_reducible rfl)
      try simp only [Act.put]
      try simp only [List.setIfInBounds_toArray, set_cs]
      refine wpAnyH_take (i := 1) (oi := { dst := some 25, op := Op.move (Operand.tmp 3), type := 39, pos := "int.go:401", after := #[{ on := 31, ground := Ground.gcOnly Departure.lateStores }], guard := none }) (v := ?_) rfl (by kernel_rfl) (by kernel_rfl) (by kernel_rfl) (fun _ _ _ h => h) (Or.inl ⟨by kernel_rfl, ?_⟩) (by assumption) ?_
      rotate_left
      · (intro w' hSw; (try dsimp only at hSw); go_simp; try with_reducible rfl)
      try simp only [Act.put]
      try simp only [List.setIfInBounds_toArray, set_cs]
      refine wpAnyH_take (i := 2) (oi := { dst := some 26, op := Op.move (Operand.tmp 0), type := 39, pos := "int.go:401", after := #[{ on := 34, ground := Ground.gcOnly Departure.lateStores }], guard := none }) (v := ?_) rfl (by kernel_rfl) (by kernel_rfl) (by kernel_rfl) (fun _ _ _ h => h) (Or.inl ⟨by kernel_rfl, ?_⟩) (by assumption) ?_
      rotate_left
      · (intro w' hSw; (try dsimp only at hSw); go_simp; try with_reducible rfl)
      try simp only [Act.put]
      try simp only [List.setIfInBounds_toArray, set_cs]
      refine wpAnyH_take (i := 3) (oi := { dst := some 27, op := Op.move (Operand.tmp 3), type := 39, pos := "int.go:401", after := #[{ on := 37, ground := Ground.gcOnly Departure.lateStores }], guard := none }) (v := ?_) rfl (by kernel_rfl) (by kernel_rfl) (by kernel_rfl) (fun _ _ _ h => h) (Or.inl ⟨by kernel_rfl, ?_⟩) (by assumption) ?_
      rotate_left
      · (intro w' hSw; (try dsimp only at hSw); go_simp; try with_reducible rfl)
      try simp only [Act.put]
      try simp only [List.setIfInBounds_toArray, set_cs]
      refine wpAnyH_take (i := 4) (oi := { dst := some 28, op := Op.move (Operand.tmp 10), type := 49, pos := "int.go:401", after := #[], guard := none }) (v := ?_) rfl (by kernel_rfl) (by kernel_rfl) (by kernel_rfl) (fun _ _ _ h => h) (Or.inl ⟨by kernel_rfl, ?_⟩) (by assumption) ?_
      rotate_left
      · (intro w' hSw; (try dsimp only at hSw); go_simp; try with_reducible rfl)
      try simp only [Act.put]
      try simp only [List.setIfInBounds_toArray, set_cs]
      refine wpAnyH_take (i := 5) (oi := { dst := some 29, op := Op.move (Operand.tmp 11), type := 49, pos := "int.go:401", after := #[{ on := 31, ground := Ground.gcOnly Departure.lateStores }], guard := none }) (v := ?_) rfl (by kernel_rfl) (by kernel_rfl) (by kernel_rfl) (fun _ _ _ h => h) (Or.inl ⟨by kernel_rfl, ?_⟩) (by assumption) ?_
      rotate_left
      · (intro w' hSw; (try dsimp only at hSw); go_simp; try with_reducible rfl)
      try simp only [Act.put]
      try simp only [List.setIfInBounds_toArray, set_cs]
      refine wpAnyH_take (i := 6) (oi := { dst := some 30, op := Op.move (Operand.tmp 10), type := 49, pos := "int.go:401", after := #[], guard := none }) (v := ?_) rfl (by kernel_rfl) (by kernel_rfl) (by kernel_rfl) (fun _ _ _ h => h) (Or.inl ⟨by kernel_rfl, ?_⟩) (by assumption) ?_
      rotate_left
      · (intro w' hSw; (try dsimp only at hSw); go_simp; try with_reducible rfl)
      try simp only [Act.put]
      try simp only [List.setIfInBounds_toArray, set_cs]
      refine wpAnyH_take (i := 7) (oi := { dst := some 31, op := Op.call { callee := Callee.builtin Builtin.len, args := #[Operand.tmp 30], argTypes := #[49] }, type := 3, pos := "int.go:401", after := #[{ on := 6, ground := Ground.data }], guard := none }) (v := ?_) rfl (by kernel_rfl) (by kernel_rfl) (by kernel_rfl) (fun _ _ _ h => h) (Or.inl ⟨by kernel_rfl, ?_⟩) (by assumption) ?_
      rotate_left
      · (intro w' hSw; (try dsimp only at hSw); go_simp; try with_reducible rfl)
      try simp only [Act.put]
      try simp only [List.setIfInBounds_toArray, set_cs]
      refine wpAnyH_take (i := 8) (oi := { dst := some 32, op := Op.binOp BinOp.gtr 3 (Operand.tmp 31) (Operand.const (Value.int IntKind.i64 0)) 3, type := 4, pos := "int.go:401", after := #[{ on := 7, ground := Ground.data }], guard := none }) (v := ?_) rfl (by kernel_rfl) (by kernel_rfl) (by kernel_rfl) (fun _ _ _ h => h) (Or.inl ⟨by kernel_rfl, ?_⟩) (by assumption) ?_
      rotate_left
      · (intro w' hSw; (try dsimp only at hSw); go_simp; try with_reducible rfl)
      try simp only [Act.put]
      try simp only [List.setIfInBounds_toArray, set_cs]
      refine wpAnyH_take (i := 9) (oi := { dst := some 33, op := Op.move (Operand.tmp 32), type := 4, pos := "int.go:401", after := #[{ on := 8, ground := Ground.data }], guard := none }) (v := ?_) rfl (by kernel_rfl) (by kernel_rfl) (by kernel_rfl) (fun _ _ _ h => h) (Or.inl ⟨by kernel_rfl, ?_⟩) (by assumption) ?_
      rotate_left
      · (intro w' hSw; (try dsimp only at hSw); go_simp; try with_reducible rfl)
      try simp only [Act.put]
      try simp only [List.setIfInBounds_toArray, set_cs]
      refine wpAnyH_take (i := 10) (oi := { dst := some 34, op := Op.move (Operand.tmp 1), type := 39, pos := "int.go:401", after := #[{ on := 9, ground := Ground.guard }], guard := some (9, true) }) (v := ?_) rfl (by kernel_rfl) (by kernel_rfl) (by kernel_rfl) (fun _ _ _ h => h) (Or.inl ⟨by kernel_rfl, ?_⟩) (by assumption) ?_
      rotate_left
      · (intro w' hSw; (try dsimp only at hSw); go_simp; try with_reducible rfl)
      try simp only [Act.put]
      try simp only [List.setIfInBounds_toArray, set_cs]
      refine wpAnyH_take (i := 11) (oi := { dst := some 35, op := Op.nilCheck (Operand.tmp 34), type := 0, pos := "int.go:401", after := #[{ on := 10, ground := Ground.data }, { on := 9, ground := Ground.guard }], guard := some (9, true) }) (v := ?_) rfl (by kernel_rfl) (by kernel_rfl) (by kernel_rfl) (fun _ _ _ h => h) (Or.inl ⟨by kernel_rfl, ?_⟩) (by assumption) ?_
      rotate_left
      · (intro w' hSw; (try dsimp only at hSw); go_simp; try with_reducible rfl)
      try simp only [Act.put]
      try simp only [List.setIfInBounds_toArray, set_cs]
      refine wpAnyH_take (i := 12) (oi := { dst := some 36, op := Op.fieldAddr 51 (Operand.tmp 35) 0, type := 0, pos := "int.go:401", after := #[{ on := 11, ground := Ground.data }, { on := 9, ground := Ground.guard }], guard := some (9, true) }) (v := ?_) rfl (by kernel_rfl) (by kernel_rfl) (by kernel_rfl) (fun _ _ _ h => h) (Or.inl ⟨by kernel_rfl, ?_⟩) (by assumption) ?_
      rotate_left
      · (intro w' hSw; (try dsimp only at hSw); go_simp; try with_reducible rfl)
      try simp only [Act.put]
      try simp only [List.setIfInBounds_toArray, set_cs]
      refine wpAnyH_take (i := 13) (oi := { dst := some 37, op := Op.load 4 (Operand.tmp 36), type := 4, pos := "int.go:401", after := #[{ on := 12, ground := Ground.data }, { on := 9, ground := Ground.guard }], guard := some (9, true) }) (v := ?_) rfl (by kernel_rfl) (by kernel_rfl) (by kernel_rfl) (fun _ _ _ h => h) (Or.inl ⟨by kernel_rfl, ?_⟩) (by assumption) ?_
      rotate_left
      · (intro w' hSw; (try dsimp only at hSw); go_simp; try with_reducible rfl)
      try simp only [Act.put]
      try simp only [List.setIfInBounds_toArray, set_cs]
      refine wpAnyH_take (i := 14) (oi := { dst := some 38, op := Op.move (Operand.tmp 2), type := 39, pos := "int.go:401", after := #[{ on := 9, ground := Ground.guard }], guard := some (9, true) }) (v := ?_) rfl (by kernel_rfl) (by kernel_rfl) (by kernel_rfl) (fun _ _ _ h => h) (Or.inl ⟨by kernel_rfl, ?_⟩) (by assumption) ?_
      rotate_left
      · (intro w' hSw; (try dsimp only at hSw); go_simp; try with_reducible rfl)
      try simp only [Act.put]
      try simp only [List.setIfInBounds_toArray, set_cs]
      refine wpAnyH_take (i := 15) (oi := { dst := some 39, op := Op.nilCheck (Operand.tmp 38), type := 0, pos := "int.go:401", after := #[{ on := 14, ground := Ground.data }, { on := 9, ground := Ground.guard }], guard := some (9, true) }) (v := ?_) rfl (by kernel_rfl) (by kernel_rfl) (by kernel_rfl) (fun _ _ _ h => h) (Or.inl ⟨by kernel_rfl, ?_⟩) (by assumption) ?_
      rotate_left
      · (intro w' hSw; (try dsimp only at hSw); go_simp; try with_reducible rfl)
      try simp only [Act.put]
      try simp only [List.setIfInBounds_toArray, set_cs]
      refine wpAnyH_take (i := 16) (oi := { dst := some 40, op := Op.fieldAddr 51 (Operand.tmp 39) 0, type := 0, pos := "int.go:401", after := #[{ on := 15, ground := Ground.data }, { on := 9, ground := Ground.guard }], guard := some (9, true) }) (v := ?_) rfl (by kernel_rfl) (by kernel_rfl) (by kernel_rfl) (fun _ _ _ h => h) (Or.inl ⟨by kernel_rfl, ?_⟩) (by assumption) ?_
      rotate_left
      · (intro w' hSw; (try dsimp only at hSw); go_simp; try with_reducible rfl)
      try simp only [Act.put]
      try simp only [List.setIfInBounds_toArray, set_cs]
      refine wpAnyH_take (i := 17) (oi := { dst := some 41, op := Op.load 4 (Operand.tmp 40), type := 4, pos := "int.go:401", after := #[{ on := 16, ground := Ground.data }, { on := 9, ground := Ground.guard }], guard := some (9, true) }) (v := ?_) rfl (by kernel_rfl) (by kernel_rfl) (by kernel_rfl) (fun _ _ _ h => h) (Or.inl ⟨by kernel_rfl, ?_⟩) (by assumption) ?_
      rotate_left
      · (intro w' hSw; (try dsimp only at hSw); go_simp; try with_reducible rfl)
      try simp only [Act.put]
      try simp only [List.setIfInBounds_toArray, set_cs]
      refine wpAnyH_take (i := 18) (oi := { dst := some 42, op := Op.binOp BinOp.neq 4 (Operand.tmp 37) (Operand.tmp 41) 4, type := 4, pos := "int.go:401", after := #[{ on := 13, ground := Ground.data }, { on := 17, ground := Ground.data }, { on := 9, ground := Ground.guard }], guard := some (9, true) }) (v := ?_) rfl (by kernel_rfl) (by kernel_rfl) (by kernel_rfl) (fun _ _ _ h => h) (Or.inl ⟨by kernel_rfl, ?_⟩) (by assumption) ?_
      rotate_left
      · (intro w' hSw; (try dsimp only at hSw); go_simp; try with_reducible rfl)
      try simp only [Act.put]
      try simp only [List.setIfInBounds_toArray, set_cs]
      refine wpAnyH_take (i := 19) (oi := { dst := some 43, op := Op.pick (Operand.tmp 33) (Operand.tmp 42) (Operand.const (Value.bool false)), type := 4, pos := "int.go:401", after := #[{ on := 9, ground := Ground.data }, { on := 18, ground := Ground.data }], guard := none }) (v := ?_) rfl (by kernel_rfl) (by kernel_rfl) (by kernel_rfl) (fun _ _ _ h => h) (Or.inl ⟨by kernel_rfl, ?_⟩) (by assumption) ?_
      rotate_left
      · (intro w' hSw; (try dsimp only at hSw); go_simp; try with_reducible rfl)
      try simp only [Act.put]
      try simp only [List.setIfInBounds_toArray, set_cs]
      refine wpAnyH_take (i := 20) (oi := { dst := some 44, op := Op.move (Operand.tmp 11), type := 49, pos := "int.go:401", after := #[], guard := none }) (v := ?_) rfl (by kernel_rfl) (by kernel_rfl) (by kernel_rfl) (fun _ _ _ h => h) (Or.inl ⟨by kernel_rfl, ?_⟩) (by assumption) ?_
      rotate_left
      · (intro w' hSw; (try dsimp only at hSw); go_simp; try with_reducible rfl)
      try simp only [Act.put]
      try simp only [List.setIfInBounds_toArray, set_cs]
      refine wpAnyH_take (i := 21) (oi := { dst := some 45, op := Op.call { callee := Callee.builtin Builtin.len, args := #[Operand.tmp 44], argTypes := #[49] }, type := 3, pos := "int.go:401", after := #[{ on := 20, ground := Ground.data }], guard := none }) (v := ?_) rfl (by kernel_rfl) (by kernel_rfl) (by kernel_rfl) (fun _ _ _ h => h) (Or.inl ⟨by kernel_rfl, ?_⟩) (by assumption) ?_
      rotate_left
      · (intro w' hSw; (try dsimp only at hSw); go_simp; try with_reducible rfl)
      try simp only [Act.put]
      try simp only [List.setIfInBounds_toArray, set_cs]
      refine wpAnyH_take (i := 22) (oi := { dst := some 46, op := Op.binOp BinOp.gtr 3 (Operand.tmp 45) (Operand.const (Value.int IntKind.i64 0)) 3, type := 4, pos := "int.go:401", after := #[{ on := 21, ground := Ground.data }], guard := none }) (v := ?_) rfl (by kernel_rfl) (by kernel_rfl) (by kernel_rfl) (fun _ _ _ h => h) (Or.inl ⟨by kernel_rfl, ?_⟩) (by assumption) ?_
      rotate_left
      · (intro w' hSw; (try dsimp only at hSw); go_simp; try with_reducible rfl)
      try simp only [Act.put]
      try simp only [List.setIfInBounds_toArray, set_cs]
      refine wpAnyH_take (i := 23) (oi := { dst := some 47, op := Op.move (Operand.tmp 46), type := 4, pos := "int.go:401", after := #[{ on := 22, ground := Ground.data }, { on := 9, ground := Ground.chain }], guard := none }) (v := ?_) rfl (by kernel_rfl) (by kernel_rfl) (by kernel_rfl) (fun _ _ _ h => h) (Or.inl ⟨by kernel_rfl, ?_⟩) (by assumption) ?_
      rotate_left
      · (intro w' hSw; (try dsimp only at hSw); go_simp; try with_reducible rfl)
      try simp only [Act.put]
      try simp only [List.setIfInBounds_toArray, set_cs]
      refine wpAnyH_take (i := 24) (oi := { dst := some 48, op := Op.move (Operand.tmp 1), type := 39, pos := "int.go:401", after := #[{ on := 23, ground := Ground.guard }], guard := some (23, true) }) (v := undef) rfl (by kernel_rfl) (by kernel_rfl) (by kernel_rfl) (fun _ _ _ h => h) ?_ (by assumption) ?_
      · (refine Or.inr ⟨?_, rfl⟩; kernel_rfl)
      try simp only [Act.put]
      try simp only [List.setIfInBounds_toArray, set_cs]
      refine wpAnyH_take (i := 25) (oi := { dst := some 49, op := Op.nilCheck (Operand.tmp 48), type := 0, pos := "int.go:401", after := #[{ on := 24, ground := Ground.data }, { on := 23, ground := Ground.guard }], guard := some (23, true) }) (v := undef) rfl (by kernel_rfl) (by kernel_rfl) (by kernel_rfl) (fun _ _ _ h => h) ?_ (by assumption) ?_
      · (refine Or.inr ⟨?_, rfl⟩; kernel_rfl)
      try simp only [Act.put]
      try simp only [List.setIfInBounds_toArray, set_cs]
      refine wpAnyH_take (i := 26) (oi := { dst := some 50, op := Op.fieldAddr 51 (Operand.tmp 49) 0, type := 0, pos := "int.go:401", after := #[{ on := 25, ground := Ground.data }, { on := 23, ground := Ground.guard }], guard := some (23, true) }) (v := undef) rfl (by kernel_rfl) (by kernel_rfl) (by kernel_rfl) (fun _ _ _ h => h) ?_ (by assumption) ?_
      · (refine Or.inr ⟨?_, rfl⟩; kernel_rfl)
      try simp only [Act.put]
      try simp only [List.setIfInBounds_toArray, set_cs]
      refine wpAnyH_take (i := 27) (oi := { dst := some 51, op := Op.load 4 (Operand.tmp 50), type := 4, pos := "int.go:401", after := #[{ on := 26, ground := Ground.data }, { on := 23, ground := Ground.guard }], guard := some (23, true) }) (v := undef) rfl (by kernel_rfl) (by kernel_rfl) (by kernel_rfl) (fun _ _ _ h => h) ?_ (by assumption) ?_
      · (refine Or.inr ⟨?_, rfl⟩; kernel_rfl)
      try simp only [Act.put]
      try simp only [List.setIfInBounds_toArray, set_cs]
      refine wpAnyH_take (i := 28) (oi := { dst := some 52, op := Op.pick (Operand.tmp 47) (Operand.tmp 51) (Operand.const (Value.bool false)), type := 4, pos := "int.go:401", after := #[{ on := 23, ground := Ground.data }, { on := 27, ground := Ground.data }], guard := none }) (v := ?_) rfl (by kernel_rfl) (by kernel_rfl) (by kernel_rfl) (fun _ _ _ h => h) (Or.inl ⟨by kernel_rfl, ?_⟩) (by assumption) ?_
      rotate_left
      · (intro w' hSw; (try dsimp only at hSw); go_simp; try with_reducible rfl)
      try simp only [Act.put]
      try simp only [List.setIfInBounds_toArray, set_cs]
      refine wpAnyH_take (i := 29) (oi := { dst := some 53, op := Op.nilCheck (Operand.tmp 24), type := 0, pos := "int.go:401", after := #[{ on := 0, ground := Ground.data }, { on := 0, ground := Ground.phase }, { on := 1, ground := Ground.textOnly Departure.lateStores }, { on := 2, ground := Ground.textOnly Departure.lateStores }, { on := 3, ground := Ground.textOnly Departure.lateStores }, { on := 4, ground := Ground.phase }, { on := 5, ground := Ground.textOnly Departure.lateStores }, { on := 6, ground := Ground.textOnly Departure.lateStores }, { on := 7, ground := Ground.textOnly Departure.lateStoresUnsure }, { on := 8, ground := Ground.textOnly Departure.lateStoresUnsure }, { on := 9, ground := Ground.textOnly Departure.lateStoresUnsure }, { on := 10, ground := Ground.textOnly Departure.lateStores }, { on := 11, ground := Ground.textOnly Departure.lateStoresUnsure }, { on := 12, ground := Ground.textOnly Departure.lateStores }, { on := 13, ground := Ground.phase }, { on := 14, ground := Ground.textOnly Departure.lateStores }, { on := 15, ground := Ground.textOnly Departure.lateStoresUnsure }, { on := 16, ground := Ground.textOnly Departure.lateStores }, { on := 17, ground := Ground.phase }, { on := 18, ground := Ground.textOnly Departure.lateStoresUnsure }, { on := 19, ground := Ground.textOnly Departure.lateStoresUnsure }, { on := 20, ground := Ground.textOnly Departure.lateStores }, { on := 21, ground := Ground.textOnly Departure.lateStoresUnsure }, { on := 22, ground := Ground.textOnly Departure.lateStoresUnsure }, { on := 23, ground := Ground.textOnly Departure.lateStoresUnsure }, { on := 24, ground := Ground.textOnly Departure.lateStores }, { on := 25, ground := Ground.textOnly Departure.lateStoresUnsure }, { on := 26, ground := Ground.textOnly Departure.lateStores }, { on := 27, ground := Ground.phase }, { on := 28, ground := Ground.textOnly Departure.lateStoresUnsure }], guard := none }) (v := ?_) rfl (by kernel_rfl) (by kernel_rfl) (by kernel_rfl) (fun _ _ _ h => h) (Or.inl ⟨by kernel_rfl, ?_⟩) (by assumption) ?_
      rotate_left
      · (intro w' hSw; (try dsimp only at hSw); go_simp; try with_reducible rfl)
      try simp only [Act.put]
      try simp only [List.setIfInBounds_toArray, set_cs]
      refine wpAnyH_take (i := 30) (oi := { dst := some 54, op := Op.fieldAddr 51 (Operand.tmp 53) 1, type := 0, pos := "int.go:401", after := #[{ on := 29, ground := Ground.data }, { on := 0, ground := Ground.phase }, { on := 1, ground := Ground.textOnly Departure.lateStores }, { on := 2, ground := Ground.textOnly Departure.lateStores }, { on := 3, ground := Ground.textOnly Departure.lateStores }, { on := 4, ground := Ground.phase }, { on := 5, ground := Ground.textOnly Departure.lateStores }, { on := 6, ground := Ground.textOnly Departure.lateStores }, { on := 7, ground := Ground.textOnly Departure.lateStoresUnsure }, { on := 8, ground := Ground.textOnly Departure.lateStoresUnsure }, { on := 9, ground := Ground.textOnly Departure.lateStoresUnsure }, { on := 10, ground := Ground.textOnly Departure.lateStores }, { on := 11, ground := Ground.textOnly Departure.lateStoresUnsure }, { on := 12, ground := Ground.textOnly Departure.lateStores }, { on := 13, ground := Ground.phase }, { on := 14, ground := Ground.textOnly Departure.lateStores }, { on := 15, ground := Ground.textOnly Departure.lateStoresUnsure }, { on := 16, ground := Ground.textOnly Departure.lateStores }, { on := 17, ground := Ground.phase }, { on := 18, ground := Ground.textOnly Departure.lateStoresUnsure }, { on := 19, ground := Ground.textOnly Departure.lateStoresUnsure }, { on := 20, ground := Ground.textOnly Departure.lateStores }, { on := 21, ground := Ground.textOnly Departure.lateStoresUnsure }, { on := 22, ground := Ground.textOnly Departure.lateStoresUnsure }, { on := 23, ground := Ground.textOnly Departure.lateStoresUnsure }, { on := 24, ground := Ground.textOnly Departure.lateStores }, { on := 25, ground := Ground.textOnly Departure.lateStoresUnsure }, { on := 26, ground := Ground.textOnly Departure.lateStores }, { on := 27, ground := Ground.phase }, { on := 28, ground := Ground.textOnly Departure.lateStoresUnsure }], guard := none }) (v := ?_) rfl (by kernel_rfl) (by kernel_rfl) (by kernel_rfl) (fun _ _ _ h => h) (Or.inl ⟨by kernel_rfl, ?_⟩) (by assumption) ?_
      rotate_left
      · (intro w' hSw; (try dsimp only at hSw); go_simp; try with_reducible rfl)
      try simp only [Act.put]
      try simp only [List.setIfInBounds_toArray, set_cs]
      refine wpAnyH_ready (rs := [31]) (by kernel_rfl) (by simp) ?_
      refine AllReadyH.cons rfl (fun K hK => ?_) AllReadyH.nil
      go_simp
      refine hK.out _ _ ?_ (fun hHeld => ?_)
      · (first | exact ⟨by simpa using x2, by simpa using y2⟩ | (refine ⟨?_, ?_⟩ <;> (repeat refine cell_set ?_ (by first | exact n1 | exact n2 | exact n3 | exact n4)) <;> first | exact x2 | exact y2))
      clear hK K
      try simp only [Act.put]
      try simp only [List.setIfInBounds_toArray, set_cs]
      refine wpAnyH_take (i := 32) (oi := { dst := some 55, op := Op.nilCheck (Operand.tmp 25), type := 0, pos := "int.go:401", after := #[{ on := 1, ground := Ground.data }, { on := 0, ground := Ground.phase }, { on := 1, ground := Ground.phase }, { on := 2, ground := Ground.textOnly Departure.lateStores }, { on := 3, ground := Ground.textOnly Departure.lateStores }, { on := 4, ground := Ground.phase }, { on := 5, ground := Ground.phase }, { on := 6, ground := Ground.textOnly Departure.lateStores }, { on := 7, ground := Ground.textOnly Departure.lateStoresUnsure }, { on := 8, ground := Ground.textOnly Departure.lateStoresUnsure }, { on := 9, ground := Ground.textOnly Departure.lateStoresUnsure }, { on := 10, ground := Ground.textOnly Departure.lateStores }, { on := 11, ground := Ground.textOnly Departure.lateStoresUnsure }, { on := 12, ground := Ground.textOnly Departure.lateStores }, { on := 13, ground := Ground.phase }, { on := 14, ground := Ground.textOnly Departure.lateStores }, { on := 15, ground := Ground.textOnly Departure.lateStoresUnsure }, { on := 16, ground := Ground.textOnly Departure.lateStores }, { on := 17, ground := Ground.phase }, { on := 18, ground := Ground.textOnly Departure.lateStoresUnsure }, { on := 19, ground := Ground.textOnly Departure.lateStoresUnsure }, { on := 20, ground := Ground.textOnly Departure.lateStores }, { on := 21, ground := Ground.textOnly Departure.lateStoresUnsure }, { on := 22, ground := Ground.textOnly Departure.lateStoresUnsure }, { on := 23, ground := Ground.textOnly Departure.lateStoresUnsure }, { on := 24, ground := Ground.textOnly Departure.lateStores }, { on := 25, ground := Ground.textOnly Departure.lateStoresUnsure }, { on := 26, ground := Ground.textOnly Departure.lateStores }, { on := 27, ground := Ground.phase }, { on := 28, ground := Ground.textOnly Departure.lateStoresUnsure }, { on := 29, ground := Ground.phase }, { on := 30, ground := Ground.phase }, { on := 31, ground := Ground.phase }], guard := none }) (v := ?_) rfl (by kernel_rfl) (by kernel_rfl) (by kernel_rfl) (fun _ _ _ h => h) (Or.inl ⟨by kernel_rfl, ?_⟩) (by assumption) ?_
      rotate_left
      · (intro w' hSw; (try dsimp only at hSw); go_simp; try with_reducible rfl)
      try simp only [Act.put]
      try simp only [List.setIfInBounds_toArray, set_cs]
      refine wpAnyH_take (i := 33) (oi := { dst := some 56, op := Op.fieldAddr 51 (Operand.tmp 55) 1, type := 0, pos := "int.go:401", after := #[{ on := 32, ground := Ground.data }, { on := 0, ground := Ground.phase }, { on := 1, ground := Ground.phase }, { on := 2, ground := Ground.textOnly Departure.lateStores }, { on := 3, ground := Ground.textOnly Departure.lateStores }, { on := 4, ground := Ground.phase }, { on := 5, ground := Ground.phase }, { on := 6, ground := Ground.textOnly Departure.lateStores }, { on := 7, ground := Ground.textOnly Departure.lateStoresUnsure }, { on := 8, ground := Ground.textOnly Departure.lateStoresUnsure }, { on := 9, ground := Ground.textOnly Departure.lateStoresUnsure }, { on := 10, ground := Ground.textOnly Departure.lateStores }, { on := 11, ground := Ground.textOnly Departure.lateStoresUnsure }, { on := 12, ground := Ground.textOnly Departure.lateStores }, { on := 13, ground := Ground.phase }, { on := 14, ground := Ground.textOnly Departure.lateStores }, { on := 15, ground := Ground.textOnly Departure.lateStoresUnsure }, { on := 16, ground := Ground.textOnly Departure.lateStores }, { on := 17, ground := Ground.phase }, { on := 18, ground := Ground.textOnly Departure.lateStoresUnsure }, { on := 19, ground := Ground.textOnly Departure.lateStoresUnsure }, { on := 20, ground := Ground.textOnly Departure.lateStores }, { on := 21, ground := Ground.textOnly Departure.lateStoresUnsure }, { on := 22, ground := Ground.textOnly Departure.lateStoresUnsure }, { on := 23, ground := Ground.textOnly Departure.lateStoresUnsure }, { on := 24, ground := Ground.textOnly Departure.lateStores }, { on := 25, ground := Ground.textOnly Departure.lateStoresUnsure }, { on := 26, ground := Ground.textOnly Departure.lateStores }, { on := 27, ground := Ground.phase }, { on := 28, ground := Ground.textOnly Departure.lateStoresUnsure }, { on := 29, ground := Ground.phase }, { on := 30, ground := Ground.phase }, { on := 31, ground := Ground.phase }], guard := none }) (v := ?_) rfl (by kernel_rfl) (by kernel_rfl) (by kernel_rfl) (fun _ _ _ h => h) (Or.inl ⟨by kernel_rfl, ?_⟩) (by assumption) ?_
      rotate_left
      · (intro w' hSw; (try dsimp only at hSw); go_simp; try with_reducible rfl)
      try simp only [Act.put]
      try simp only [List.setIfInBounds_toArray, set_cs]
      refine wpAnyH_ready (rs := [34]) (by kernel_rfl) (by simp) ?_
      refine AllReadyH.cons rfl (fun K hK => ?_) AllReadyH.nil
      go_simp
      refine hK.out _ _ ?_ (fun hHeld => ?_)
      · (first | exact ⟨by simpa using x2, by simpa using y2⟩ | (refine ⟨?_, ?_⟩ <;> (repeat refine cell_set ?_ (by first | exact n1 | exact n2 | exact n3 | exact n4)) <;> first | exact x2 | exact y2))
      clear hK K
      try simp only [Act.put]
      try simp only [List.setIfInBounds_toArray, set_cs]
      refine wpAnyH_take (i := 35) (oi := { dst := some 57, op := Op.nilCheck (Operand.tmp 26), type := 0, pos := "int.go:401", after := #[{ on := 2, ground := Ground.data }, { on := 0, ground := Ground.phase }, { on := 1, ground := Ground.phase }, { on := 2, ground := Ground.phase }, { on := 3, ground := Ground.textOnly Departure.lateStores }, { on := 4, ground := Ground.phase }, { on := 5, ground := Ground.phase }, { on := 6, ground := Ground.phase }, { on := 7, ground := Ground.phase }, { on := 8, ground := Ground.phase }, { on := 9, ground := Ground.phase }, { on := 10, ground := Ground.phase }, { on := 11, ground := Ground.phase }, { on := 12, ground := Ground.phase }, { on := 13, ground := Ground.phase }, { on := 14, ground := Ground.phase }, { on := 15, ground := Ground.phase }, { on := 16, ground := Ground.phase }, { on := 17, ground := Ground.phase }, { on := 18, ground := Ground.phase }, { on := 19, ground := Ground.phase }, { on := 20, ground := Ground.textOnly Departure.lateStores }, { on := 21, ground := Ground.textOnly Departure.lateStoresUnsure }, { on := 22, ground := Ground.textOnly Departure.lateStoresUnsure }, { on := 23, ground := Ground.textOnly Departure.lateStoresUnsure }, { on := 24, ground := Ground.textOnly Departure.lateStores }, { on := 25, ground := Ground.textOnly Departure.lateStoresUnsure }, { on := 26, ground := Ground.textOnly Departure.lateStores }, { on := 27, ground := Ground.phase }, { on := 28, ground := Ground.textOnly Departure.lateStoresUnsure }, { on := 29, ground := Ground.phase }, { on := 30, ground := Ground.phase }, { on := 31, ground := Ground.phase }, { on := 32, ground := Ground.phase }, { on := 33, ground := Ground.phase }, { on := 34, ground := Ground.phase }], guard := none }) (v := ?_) rfl (by kernel_rfl) (by kernel_rfl) (by kernel_rfl) (fun _ _ _ h => h) (Or.inl ⟨by kernel_rfl, ?_⟩) (by assumption) ?_
      rotate_left
      · (intro w' hSw; (try dsimp only at hSw); go_simp; try with_reducible rfl)
      try simp only [Act.put]
      try simp only [List.setIfInBounds_toArray, set_cs]
      refine wpAnyH_take (i := 36) (oi := { dst := some 58, op := Op.fieldAddr 51 (Operand.tmp 57) 0, type := 0, pos := "int.go:401", after := #[{ on := 35, ground := Ground.data }, { on := 0, ground := Ground.phase }, { on := 1, ground := Ground.phase }, { on := 2, ground := Ground.phase }, { on := 3, ground := Ground.textOnly Departure.lateStores }, { on := 4, ground := Ground.phase }, { on := 5, ground := Ground.phase }, { on := 6, ground := Ground.phase }, { on := 7, ground := Ground.phase }, { on := 8, ground := Ground.phase }, { on := 9, ground := Ground.phase }, { on := 10, ground := Ground.phase }, { on := 11, ground := Ground.phase }, { on := 12, ground := Ground.phase }, { on := 13, ground := Ground.phase }, { on := 14, ground := Ground.phase }, { on := 15, ground := Ground.phase }, { on := 16, ground := Ground.phase }, { on := 17, ground := Ground.phase }, { on := 18, ground := Ground.phase }, { on := 19, ground := Ground.phase }, { on := 20, ground := Ground.textOnly Departure.lateStores }, { on := 21, ground := Ground.textOnly Departure.lateStoresUnsure }, { on := 22, ground := Ground.textOnly Departure.lateStoresUnsure }, { on := 23, ground := Ground.textOnly Departure.lateStoresUnsure }, { on := 24, ground := Ground.textOnly Departure.lateStores }, { on := 25, ground := Ground.textOnly Departure.lateStoresUnsure }, { on := 26, ground := Ground.textOnly Departure.lateStores }, { on := 27, ground := Ground.phase }, { on := 28, ground := Ground.textOnly Departure.lateStoresUnsure }, { on := 29, ground := Ground.phase }, { on := 30, ground := Ground.phase }, { on := 31, ground := Ground.phase }, { on := 32, ground := Ground.phase }, { on := 33, ground := Ground.phase }, { on := 34, ground := Ground.phase }], guard := none }) (v := ?_) rfl (by kernel_rfl) (by kernel_rfl) (by kernel_rfl) (fun _ _ _ h => h) (Or.inl ⟨by kernel_rfl, ?_⟩) (by assumption) ?_
      rotate_left
      · (intro w' hSw; (try dsimp only at hSw); go_simp; try with_reducible rfl)
      try simp only [Act.put]
      try simp only [List.setIfInBounds_toArray, set_cs]
      refine wpAnyH_ready (rs := [37]) (by kernel_rfl) (by simp) ?_
      refine AllReadyH.cons rfl (fun K hK => ?_) AllReadyH.nil
      go_simp
      refine hK.out _ _ ?_ (fun hHeld => ?_)
      · (first | exact ⟨by simpa using x2, by simpa using y2⟩ | (refine ⟨?_, ?_⟩ <;> (repeat refine cell_set ?_ (by first | exact n1 | exact n2 | exact n3 | exact n4)) <;> first | exact x2 | exact y2))
      clear hK K
      try simp only [Act.put]
      try simp only [List.setIfInBounds_toArray, set_cs]
      refine wpAnyH_take (i := 38) (oi := { dst := some 59, op := Op.nilCheck (Operand.tmp 27), type := 0, pos := "int.go:401", after := #[{ on := 3, ground := Ground.data }, { on := 0, ground := Ground.phase }, { on := 1, ground := Ground.phase }, { on := 2, ground := Ground.phase }, { on := 3, ground := Ground.phase }, { on := 4, ground := Ground.phase }, { on := 5, ground := Ground.phase }, { on := 6, ground := Ground.phase }, { on := 7, ground := Ground.phase }, { on := 8, ground := Ground.phase }, { on := 9, ground := Ground.phase }, { on := 10, ground := Ground.phase }, { on := 11, ground := Ground.phase }, { on := 12, ground := Ground.phase }, { on := 13, ground := Ground.phase }, { on := 14, ground := Ground.phase }, { on := 15, ground := Ground.phase }, { on := 16, ground := Ground.phase }, { on := 17, ground := Ground.phase }, { on := 18, ground := Ground.phase }, { on := 19, ground := Ground.phase }, { on := 20, ground := Ground.phase }, { on := 21, ground := Ground.phase }, { on := 22, ground := Ground.phase }, { on := 23, ground := Ground.phase }, { on := 24, ground := Ground.phase }, { on := 25, ground := Ground.phase }, { on := 26, ground := Ground.phase }, { on := 27, ground := Ground.phase }, { on := 28, ground := Ground.phase }, { on := 29, ground := Ground.phase }, { on := 30, ground := Ground.phase }, { on := 31, ground := Ground.phase }, { on := 32, ground := Ground.phase }, { on := 33, ground := Ground.phase }, { on := 34, ground := Ground.phase }, { on := 35, ground := Ground.phase }, { on := 36, ground := Ground.phase }, { on := 37, ground := Ground.phase }], guard := none }) (v := ?_) rfl (by kernel_rfl) (by kernel_rfl) (by kernel_rfl) (fun _ _ _ h => h) (Or.inl ⟨by kernel_rfl, ?_⟩) (by assumption) ?_
      rotate_left
      · (intro w' hSw; (try dsimp only at hSw); go_simp; try with_reducible rfl)
      try simp only [Act.put]
      try simp only [List.setIfInBounds_toArray, set_cs]
      refine wpAnyH_take (i := 39) (oi := { dst := some 60, op := Op.fieldAddr 51 (Operand.tmp 59) 0, type := 0, pos := "int.go:401", after := #[{ on := 38, ground := Ground.data }, { on := 0, ground := Ground.phase }, { on := 1, ground := Ground.phase }, { on := 2, ground := Ground.phase }, { on := 3, ground := Ground.phase }, { on := 4, ground := Ground.phase }, { on := 5, ground := Ground.phase }, { on := 6, ground := Ground.phase }, { on := 7, ground := Ground.phase }, { on := 8, ground := Ground.phase }, { on := 9, ground := Ground.phase }, { on := 10, ground := Ground.phase }, { on := 11, ground := Ground.phase }, { on := 12, ground := Ground.phase }, { on := 13, ground := Ground.phase }, { on := 14, ground := Ground.phase }, { on := 15, ground := Ground.phase }, { on := 16, ground := Ground.phase }, { on := 17, ground := Ground.phase }, { on := 18, ground := Ground.phase }, { on := 19, ground := Ground.phase }, { on := 20, ground := Ground.phase }, { on := 21, ground := Ground.phase }, { on := 22, ground := Ground.phase }, { on := 23, ground := Ground.phase }, { on := 24, ground := Ground.phase }, { on := 25, ground := Ground.phase }, { on := 26, ground := Ground.phase }, { on := 27, ground := Ground.phase }, { on := 28, ground := Ground.phase }, { on := 29, ground := Ground.phase }, { on := 30, ground := Ground.phase }, { on := 31, ground := Ground.phase }, { on := 32, ground := Ground.phase }, { on := 33, ground := Ground.phase }, { on := 34, ground := Ground.phase }, { on := 35, ground := Ground.phase }, { on := 36, ground := Ground.phase }, { on := 37, ground := Ground.phase }], guard := none }) (v := ?_) rfl (by kernel_rfl) (by kernel_rfl) (by kernel_rfl) (fun _ _ _ h => h) (Or.inl ⟨by kernel_rfl, ?_⟩) (by assumption) ?_
      rotate_left
      · (intro w' hSw; (try dsimp only at hSw); go_simp; try with_reducible rfl)
      try simp only [Act.put]
      try simp only [List.setIfInBounds_toArray, set_cs]
      refine wpAnyH_ready (rs := [40]) (by kernel_rfl) (by simp) ?_
      refine AllReadyH.cons rfl (fun K hK => ?_) AllReadyH.nil
      go_simp
      refine hK.out _ _ ?_ (fun hHeld => ?_)
      · (first | exact ⟨by simpa using x2, by simpa using y2⟩ | (refine ⟨?_, ?_⟩ <;> (repeat refine cell_set ?_ (by first | exact n1 | exact n2 | exact n3 | exact n4)) <;> first | exact x2 | exact y2))
      clear hK K
      refine wpAnyH_done (by kernel_rfl) ?_ _
      refine NoPanic.normal ?_
      try simp only [Act.put]
      go_wp2_with fail
      have HF := Lib.hid (QuoP.drew (quo_end0 Hbw.out HZ.out HR.out h3 Hq.out Hr'.out (s != t) (fun e => by omega)))
      rw [← num_div] at HF
      go_ret2
      exact HF.out
end Go.Proofs.YtfgjaoejcbldoaaGreatDoor
