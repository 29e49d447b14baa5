/- Contract of impl.toGo. -/
/- The package's errors, as values. -/
/- Contracts of impl.result at errors and integers, of impl.fromGo at integers. -/
/- Contract of impl.fromGo at the tree of a good value: it gives the value back; of impl.result there. -/
/- Contract of gojq.Compare at trees of good values: cmpV. -/
/- Plain: what sort, unique, min and max make of an array, by an order of its elements. No program in sight. -/
/- The row of items in memory; contracts of sortItems' comparison and of reflectlite's swap over it. -/
/- sort.SliceStable over the row of items. -/
import Derived.Test.YtpaebanmaboaiaaGreatDoorM07
import Derived.Test.YtpaebanmaboaiaaGreatDoorM04
import Derived.Test.YtpaebanmaboaiaaGreatDoorM01
import Derived.Test.YtpaebanmaboaiaaGreatDoorM05
import Derived.Test.YtpaebanmaboaiaaGreatDoorM03
import Derived.Test.YtpaebanmaboaiaaGreatDoorM11
import Derived.Test.YtpaebanmaboaiaaGreatDoorM08
import Derived.Test.YtpaebanmaboaiaaGreatDoorM06
import Derived.Lib.ReflectliteSwap
import Derived.Lib.ReflectliteSlice
namespace Go.Proofs.YtpaebanmaboaiaaGreatDoor
open Go Go.RowKit Go.Maps Go.Deep Go.WideMaps
theorem Good.parts {k h : Int} {t : ByteArray} {l : List V} {ks : List ByteArray} {vs : List V} (g : Good (.mk k h t l ks vs)) :
    shapeB k h t l.length ks.length vs.length = true ∧ halfB h = true ∧ (∀ i (hi : i < l.length), Good l[i]) ∧ (∀ i (hi : i + 1 < ks.length), Op.bytesLess ks[i].toList ks[i + 1].toList = true) ∧ (∀ i (hi : i < vs.length), Good vs[i]) := by
  cases g with
  | mk a b c d e f g => exact ⟨a, b, d, e, g⟩
set_option maxHeartbeats 4000000 in
set_option maxRecDepth 100000 in
theorem toGo_any (w0 : World) (B : Nat) (v : V) (cs : List Value) (hv : RepV w0 B v cs) : Good v → ToGoOK w0 B v cs := by
  induction hv with
  | @mk k hf t l ks vs la ka va lc kc vc C D hk hh ht hl hks hvs hs cl rl ck cv rv _ ihl ihv =>
  intro g
  obtain ⟨hshape, hhalf, gl, grise, gv⟩ := g.parts
  simp only [shapeB, Bool.and_eq_true, decide_eq_true_eq, Bool.or_eq_true, beq_iff_eq] at hshape
  obtain ⟨⟨⟨⟨⟨⟨hk0, hk6⟩, s1⟩, s2⟩, s3⟩, s4⟩, hlen⟩ := hshape
  intro w hbel hB
  have L := list_of w0 B l la lc C hl cl rl (fun i hi => ihl i hi (gl i hi))
  have M := map_of w0 B k hf t l ks vs la ka va lc kc vc D hks hs grise hlen ck cv rv (fun i hi => ihv i hi (gv i hi))
  have hL := L (w.alloc (.cells #[.int .i64 k, .int .i64 hf, .string t, .slice la l.length lc, .slice ka ks.length kc, .slice va vs.length vc] 26)) (hbel.trans ((below_alloc1 w _).mono hB)) (by simp; omega)
  have hM := M (w.alloc (.cells #[.int .i64 k, .int .i64 hf, .string t, .slice la l.length lc, .slice ka ks.length kc, .slice va vs.length vc] 26)) (hbel.trans ((below_alloc1 w _).mono hB)) (by simp; omega)
  have HL := Lib.hid hL
  have HM := Lib.hid hM
  have hb1 := below_alloc1 w (.cells #[.int .i64 k, .int .i64 hf, .string t, .slice la l.length lc, .slice ka ks.length kc, .slice va vs.length vc] 26)
  clear hL hM L M ihl ihv cl ck cv rl rv gl gv grise hs g s1 s2 s3 s4 hlen hbel
  rcases (show k = 0 ∨ k = 1 ∨ k = 2 ∨ k = 3 ∨ k = 4 ∨ k = 5 ∨ k = 6 by omega) with rfl | rfl | rfl | rfl | rfl | rfl | rfl
  all_goals go_enter Tryz.func17, Tryz.ntmps17
  · go_wp2_with fail
    refine bodyPost_ret (results_tmp2 rfl _ _ _) rfl ⟨_, rfl, ?_, hb1⟩
    simp only [toJ, if_true]; exact .null _
  · go_wp2_with fail
    refine bodyPost_ret (results_tmp2 rfl _ _ _) rfl ⟨_, rfl, ?_, hb1⟩
    simp [toJ]; exact .bool _ _
  · go_wp2_with fail
    refine bodyPost_ret (results_tmp2 rfl _ _ _) rfl ⟨_, rfl, ?_, hb1⟩
    simp [toJ]; exact .bool _ _
  · by_cases he : hf.tmod 2 = 0
    · have He := Lib.hid he
      go_wp2_with fail
      refine bodyPost_ret (results_tmp2 rfl _ _ _) rfl ⟨_, rfl, ?_, hb1⟩
      simp [toJ, He.out]; exact .int _ _ (by have := Int.mul_tdiv_add_tmod hf 2; have := He.out; omega)
    · have He := Lib.hid he
      have hd : FloatKind.f64.format.div (FloatKind.f64.nearest hf) 4611686018427387904 = some (halfBits hf) := by
        simp only [halfB, Bool.and_eq_true, decide_eq_true_eq, Bool.or_eq_true, beq_iff_eq] at hhalf
        obtain ⟨r, hr⟩ := half_some hf (by omega) (by omega) (by intro e; rw [e] at he; exact he rfl)
        rw [halfBits, hr]; rfl
      have hq : ∀ w : World, (binOp .quo 48 (.float .f64 (floatOfInt .f64 hf)) (.float .f64 4611686018427387904)).run Tryz.prog w = .ok (.float .f64 (halfBits hf)) w := fun w => run_float_arith w .quo _ .f64 _ _ _ hd
      clear hd hhalf
      go_wp2_with fail
      refine bodyPost_ret (results_tmp2 rfl _ _ _) rfl ⟨_, rfl, ?_, hb1⟩
      simp [toJ, He.out]; exact .flt _ _
  · go_wp2_with fail
    refine bodyPost_ret (results_tmp2 rfl _ _ _) rfl ⟨_, rfl, ?_, hb1⟩
    simp [toJ]; exact .str _ _ ht
  · go_wp2_with fail
    refine HL.out.mono ?_
    rintro e w2 ⟨a, c, rfl, hr, hb2⟩
    go_wp2_with fail
    refine bodyPost_ret (results_tmp2 rfl _ _ _) rfl ⟨_, rfl, ?_, below_next hb1 hb2⟩
    simp [toJ]; exact hr.mono (fun k hk => ⟨by have := hk.1; simp at this; omega, hk.2⟩)
  · go_wp2_with fail
    refine HM.out.mono ?_
    rintro e w2 ⟨r, rfl, hr, hb2⟩
    go_wp2_with fail
    refine bodyPost_ret (results_tmp2 rfl _ _ _) rfl ⟨_, rfl, ?_, below_next hb1 hb2⟩
    simp [toJ]; exact hr.mono (fun k hk => ⟨by have := hk.1; simp at this; omega, hk.2⟩)
end Go.Proofs.YtpaebanmaboaiaaGreatDoor

namespace Go.Proofs.YtpaebanmaboaiaaGreatDoor
open Go Go.RowKit
/-- A value that is one of the package's errors. -/
inductive ErrV : Value → Prop
  | func1TypeError (a : Addr) : ErrV (.iface 67 (.pointer (some a)))
  | func1WrapError (a : Addr) : ErrV (.iface 70 (.pointer (some a)))
  | func0TypeError (a : Addr) : ErrV (.iface 77 (.pointer (some a)))
  | lengthMismatchError (a : Addr) : ErrV (.iface 71 (.pointer (some a)))
theorem ErrV.form {v : Value} (h : ErrV v) : ∃ t a, v = .iface t (.pointer (some a)) := by
  cases h <;> exact ⟨_, _, rfl⟩
end Go.Proofs.YtpaebanmaboaiaaGreatDoor

namespace Go.Proofs.YtpaebanmaboaiaaGreatDoor
open Go Go.RowKit
attribute [local go_sem] assert_jsonNumber assert_jsonNumber_nil assert_int assert_int_nil assert_float64 assert_float64_nil assert_pbigInt assert_pbigInt_nil assert_string assert_string_nil assert_sl assert_sl_nil assert_m assert_m_nil assert_bool assert_bool_nil
theorem is_func1TypeError (v : Value) (w : World) : (Instr.typeAssert (.iface 67 v) 20 56 true).run Tryz.prog w = .ok (.tuple #[.iface 67 v, .bool true]) w := by kernel_rfl
theorem is_func1WrapError (v : Value) (w : World) : (Instr.typeAssert (.iface 70 v) 20 56 true).run Tryz.prog w = .ok (.tuple #[.iface 70 v, .bool true]) w := by kernel_rfl
theorem is_func0TypeError (v : Value) (w : World) : (Instr.typeAssert (.iface 77 v) 20 56 true).run Tryz.prog w = .ok (.tuple #[.iface 77 v, .bool true]) w := by kernel_rfl
theorem is_lengthMismatchError (v : Value) (w : World) : (Instr.typeAssert (.iface 71 v) 20 56 true).run Tryz.prog w = .ok (.tuple #[.iface 71 v, .bool true]) w := by kernel_rfl
theorem isnt_int (v : Value) (w : World) : (Instr.typeAssert (.iface 3 v) 20 56 true).run Tryz.prog w = .ok (.tuple #[.nilIface, .bool false]) w :=
  run_assert_iface Tryz.underlying56 (by simp) (fun _ => by kernel_rfl) (by kernel_rfl) v w
theorem isnt_bool (v : Value) (w : World) : (Instr.typeAssert (.iface 4 v) 20 56 true).run Tryz.prog w = .ok (.tuple #[.nilIface, .bool false]) w :=
  run_assert_iface Tryz.underlying56 (by simp) (fun _ => by kernel_rfl) (by kernel_rfl) v w
theorem isnt_float (v : Value) (w : World) : (Instr.typeAssert (.iface 48 v) 20 56 true).run Tryz.prog w = .ok (.tuple #[.nilIface, .bool false]) w :=
  run_assert_iface Tryz.underlying56 (by simp) (fun _ => by kernel_rfl) (by kernel_rfl) v w
theorem isnt_string (v : Value) (w : World) : (Instr.typeAssert (.iface 9 v) 20 56 true).run Tryz.prog w = .ok (.tuple #[.nilIface, .bool false]) w :=
  run_assert_iface Tryz.underlying56 (by simp) (fun _ => by kernel_rfl) (by kernel_rfl) v w
theorem isnt_slice (v : Value) (w : World) : (Instr.typeAssert (.iface 49 v) 20 56 true).run Tryz.prog w = .ok (.tuple #[.nilIface, .bool false]) w :=
  run_assert_iface Tryz.underlying56 (by simp) (fun _ => by kernel_rfl) (by kernel_rfl) v w
theorem isnt_map (v : Value) (w : World) : (Instr.typeAssert (.iface 52 v) 20 56 true).run Tryz.prog w = .ok (.tuple #[.nilIface, .bool false]) w :=
  run_assert_iface Tryz.underlying56 (by simp) (fun _ => by kernel_rfl) (by kernel_rfl) v w
theorem isnt_nil (w : World) : (Instr.typeAssert .nilIface 20 56 true).run Tryz.prog w = .ok (.tuple #[.nilIface, .bool false]) w := by kernel_rfl
/-- impl.Res with End alone. -/
def resEnd (n : Int) : Value := .agg #[.int .i64 0, .int .i64 0, .string ByteArray.empty, .slice none 0 0, .slice none 0 0, .slice none 0 0, .int .i64 n]
set_option maxHeartbeats 4000000 in
set_option maxRecDepth 100000 in
theorem result_iface (t : TypeId) (v : Value) (h : ∀ w : World, (Instr.typeAssert (.iface t v) 20 56 true).run Tryz.prog w = .ok (.tuple #[.iface t v, .bool true]) w) (w : World) : Calls Tryz.prog 18 #[.iface t v] w fun e w' => e = .returned (resEnd 1) ∧ Below w.heap.size w w' := by
  go_enter Tryz.func18, Tryz.ntmps18
  go_wp2_with fail
  refine bodyPost_ret (v := resEnd 1) ?_ rfl ⟨rfl, ?_⟩
  · simp [results, resEnd, asAddr, Result.andThen, go_sem]
    rfl
  · exact below_alloc1 w _
theorem result_err (v : Value) (hv : ErrV v) (w : World) : Calls Tryz.prog 18 #[v] w fun e w' => e = .returned (resEnd 1) ∧ Below w.heap.size w w' := by
  cases hv with
  | func1TypeError a => exact result_iface _ _ (is_func1TypeError _) w
  | func1WrapError a => exact result_iface _ _ (is_func1WrapError _) w
  | func0TypeError a => exact result_iface _ _ (is_func0TypeError _) w
  | lengthMismatchError a => exact result_iface _ _ (is_lengthMismatchError _) w
end Go.Proofs.YtpaebanmaboaiaaGreatDoor

namespace Go.Proofs.YtpaebanmaboaiaaGreatDoor
open Go Go.RowKit Go.Maps Go.Deep
attribute [local go_sem] assert_int assert_int_nil assert_float64 assert_float64_nil assert_string assert_string_nil assert_sl assert_sl_nil assert_m assert_m_nil assert_bool assert_bool_nil
set_option maxHeartbeats 1000000 in
set_option maxRecDepth 100000 in
theorem fromGo_list (a : Option Addr) (n c : Nat) (v : V) (w : World) (H : Calls Tryz.prog 45 #[.slice a n c] (w.alloc (.cells #[.int .i64 0, .int .i64 0, .string ⟨#[]⟩, .slice none 0 0, .slice none 0 0, .slice none 0 0] 26)) (FromP (w.alloc (.cells #[.int .i64 0, .int .i64 0, .string ⟨#[]⟩, .slice none 0 0, .slice none 0 0, .slice none 0 0] 26)) v)) :
    Calls Tryz.prog 33 #[.iface 49 (.slice a n c)] w (FromP w v) := by
  have HH := Lib.hid H; clear H
  go_enter Tryz.func33, Tryz.ntmps33
  go_wp2_with fail
  refine HH.out.mono ?_
  rintro e w2 ⟨cs, rfl, hx, hb⟩
  have hat := (hb.block w.heap.size (by simp)).trans (at_alloc w _)
  have hb2 := below_next (below_alloc1 w _) hb
  obtain ⟨e0, e1, e2, e3, e4, e5⟩ := of_block6 hat
  obtain ⟨f0, f1, f2, f3, f4, f5⟩ := free_block6 hat
  obtain ⟨k, h, t, la', ka', va', nl, cl, nk, ck, nv, cv, hcs⟩ := hx.shape
  have hx2 := Lib.hid hx
  have Hat := Lib.hid hat; clear hat
  have Hb2 := Lib.hid hb2; clear hb2 hb hx
  subst hcs
  go_wp2_with fail
  refine bodyPost_ret (results_row_tmp (p := 2) (u := 3) (ty := 26) rfl _ _ w.heap.size 26 _ (0, 0) _ rfl (set_row6 Hat.out _ _ _ _ _ _) Tryz.underlying26 rfl (by kernel_rfl)) rfl
    ⟨_, rfl, hx2.out.turn (fun q hq => ⟨set6_other _ _ _ _ _ _ _ _ _ (by have := hq.1; simp at this; omega), ?_⟩), below_set6 Hb2.out (Nat.le_refl _) _ _ _ _ _ _⟩
  rw [set6_size]
  exact ⟨by have := hq.1; simp at this; omega, hq.2⟩
set_option maxHeartbeats 1000000 in
set_option maxRecDepth 100000 in
theorem fromGo_map (r : Nat) (v : V) (w : World) (H : Calls Tryz.prog 46 #[.map (some r)] (w.alloc (.cells #[.int .i64 0, .int .i64 0, .string ⟨#[]⟩, .slice none 0 0, .slice none 0 0, .slice none 0 0] 26)) (FromP (w.alloc (.cells #[.int .i64 0, .int .i64 0, .string ⟨#[]⟩, .slice none 0 0, .slice none 0 0, .slice none 0 0] 26)) v)) :
    Calls Tryz.prog 33 #[.iface 52 (.map (some r))] w (FromP w v) := by
  have HH := Lib.hid H; clear H
  go_enter Tryz.func33, Tryz.ntmps33
  go_wp2_with fail
  refine HH.out.mono ?_
  rintro e w2 ⟨cs, rfl, hx, hb⟩
  have hat := (hb.block w.heap.size (by simp)).trans (at_alloc w _)
  have hb2 := below_next (below_alloc1 w _) hb
  obtain ⟨e0, e1, e2, e3, e4, e5⟩ := of_block6 hat
  obtain ⟨f0, f1, f2, f3, f4, f5⟩ := free_block6 hat
  obtain ⟨k, h, t, la', ka', va', nl, cl, nk, ck, nv, cv, hcs⟩ := hx.shape
  have hx2 := Lib.hid hx
  have Hat := Lib.hid hat; clear hat
  have Hb2 := Lib.hid hb2; clear hb2 hb hx
  subst hcs
  go_wp2_with fail
  refine bodyPost_ret (results_row_tmp (p := 2) (u := 3) (ty := 26) rfl _ _ w.heap.size 26 _ (0, 0) _ rfl (set_row6 Hat.out _ _ _ _ _ _) Tryz.underlying26 rfl (by kernel_rfl)) rfl
    ⟨_, rfl, hx2.out.turn (fun q hq => ⟨set6_other _ _ _ _ _ _ _ _ _ (by have := hq.1; simp at this; omega), ?_⟩), below_set6 Hb2.out (Nat.le_refl _) _ _ _ _ _ _⟩
  rw [set6_size]
  exact ⟨by have := hq.1; simp at this; omega, hq.2⟩
theorem Good.plain {k h : Int} {t : ByteArray} {l : List V} {ks : List ByteArray} {vs : List V} (g : Good (.mk k h t l ks vs)) :
    0 ≤ k ∧ k ≤ 6 ∧ (k ≠ 3 → h = 0) ∧ (k ≠ 4 → t = ⟨#[]⟩) ∧ (k ≠ 5 → l = []) ∧ (k ≠ 6 → ks = []) ∧ (k ≠ 6 → vs = []) ∧ ks.length = vs.length := shape_plain g.all.1
/-- Sizes within the reach. -/
inductive Small : V → Prop
  | mk {k h : Int} {t : ByteArray} {l : List V} {ks : List ByteArray} {vs : List V} (hl : l.length * 104 ≤ 140737488351232) (hks : ks.length * 16 ≤ 140737488351232) (hvs : vs.length * 104 ≤ 140737488351232)
    (sl : ∀ i (hi : i < l.length), Small l[i]) (sv : ∀ i (hi : i < vs.length), Small vs[i]) : Small (.mk k h t l ks vs)
theorem RepV.small {w : World} {B : Nat} {v : V} {cs : List Value} (h : RepV w B v cs) : Small v := by
  induction h with
  | mk C D hk hh ht hl hks hvs hs cl rl ck cv rv _ ihl ihv => exact .mk hl hks hvs ihl ihv
theorem fitsH_of {h : Int} (g : halfB h = true) (o : h.tmod 2 ≠ 0) : FitsH h := by
  obtain ⟨h1, h2, h3⟩ := half_bounds g
  exact ⟨h1, h2, fun _ => h3 o⟩
set_option maxHeartbeats 1000000 in
theorem fromGo_any {v : V} (g : Good v) : ∀ (_ : Small v) (w0 : World) (B : Nat) (S : Nat → Prop) (x : Value), RepJ w0 S (toJ v) x → (∀ k, S k → k < B) → FromOK w0 B v x := by
  induction g with
  | @mk k h t l ks vs shape half valid list rise vkeys vals ihl ihv =>
  intro sm w0 B S x hx hS w hbel hB
  have g0 : Good (.mk k h t l ks vs) := .mk shape half valid list rise vkeys vals
  obtain ⟨p1, p2, p3, p4, p5, p6, p7, p8⟩ := g0.plain
  cases sm with
  | mk hl hks hvs sl sv =>
  unfold toJ at hx
  rcases (show k = 0 ∨ k = 1 ∨ k = 2 ∨ k = 3 ∨ k = 4 ∨ k = 5 ∨ k = 6 by omega) with rfl | rfl | rfl | rfl | rfl | rfl | rfl
  · rw [p3 (by decide), p4 (by decide), p5 (by decide), p6 (by decide), p7 (by decide)]
    simp only [if_true] at hx
    cases hx
    exact fromGo_null w
  · rw [p3 (by decide), p4 (by decide), p5 (by decide), p6 (by decide), p7 (by decide)]
    simp only [show ¬ ((1 : Int) = 0) by decide, if_false, if_true] at hx
    cases hx
    exact fromGo_bool false w
  · rw [p3 (by decide), p4 (by decide), p5 (by decide), p6 (by decide), p7 (by decide)]
    simp only [show ¬ ((2 : Int) = 0) by decide, show ¬ ((2 : Int) = 1) by decide, if_false, if_true] at hx
    cases hx
    exact fromGo_bool true w
  · rw [p4 (by decide), p5 (by decide), p6 (by decide), p7 (by decide)]
    simp only [show ¬ ((3 : Int) = 0) by decide, show ¬ ((3 : Int) = 1) by decide, show ¬ ((3 : Int) = 2) by decide, if_false, if_true] at hx
    obtain ⟨h1, h2, h3⟩ := half_bounds half
    by_cases o : h.tmod 2 = 0
    · rw [if_pos o] at hx
      cases hx
      have e : 2 * h.tdiv 2 = h := by have := Int.mul_tdiv_add_tmod h 2; omega
      have := fromGo_small (h.tdiv 2) w (by omega) (by omega)
      rw [e] at this
      exact this
    · rw [if_neg o] at hx
      cases hx
      rw [halfBits_hb (h3 o).1 (h3 o).2 (by rintro rfl; exact o rfl)]
      exact fromGo_half (fitsH_of half o) w
  · rw [p3 (by decide), p5 (by decide), p6 (by decide), p7 (by decide)]
    simp only [show ¬ ((4 : Int) = 0) by decide, show ¬ ((4 : Int) = 1) by decide, show ¬ ((4 : Int) = 2) by decide, show ¬ ((4 : Int) = 3) by decide, if_false, if_true] at hx
    cases hx
    exact fromGo_str t (by assumption) w
  · rw [p3 (by decide), p4 (by decide), p6 (by decide), p7 (by decide)]
    simp only [show ¬ ((5 : Int) = 0) by decide, show ¬ ((5 : Int) = 1) by decide, show ¬ ((5 : Int) = 2) by decide, show ¬ ((5 : Int) = 3) by decide, show ¬ ((5 : Int) = 4) by decide, if_false, if_true] at hx
    generalize hm : toJL l = m at hx
    have hml : m.length = l.length := by rw [← hm]; exact toJL_len l
    cases hx with
    | @arr _ _ a c f b o N F hlm hc ca own sub dis ra =>
    rw [hml]
    refine fromGo_list _ _ _ _ w (listFrom_of w0 B l a c f b o N hl (fun h0 => ?_) (fun i hi => ?_) _ (hbel.trans ((below_alloc1 w _).mono hB)) (by simp; omega))
    · obtain ⟨e1, e2, e3, e4⟩ := ca (by omega)
      exact ⟨e1, hS b e2, e3, by omega⟩
    · refine ihl i hi (sl i hi) w0 B (F i) _ ?_ (fun q hq => hS q (sub i q (by omega) hq))
      have := ra i (by omega)
      subst hm
      rw [toJL_get l i hi] at this
      exact this
  · rw [p3 (by decide), p4 (by decide), p5 (by decide)]
    simp only [show ¬ ((6 : Int) = 0) by decide, show ¬ ((6 : Int) = 1) by decide, show ¬ ((6 : Int) = 2) by decide, show ¬ ((6 : Int) = 3) by decide, show ¬ ((6 : Int) = 4) by decide, show ¬ ((6 : Int) = 5) by decide, if_false] at hx
    generalize hm : toJM ks vs = m at hx
    have hml : m.length = ks.length := by rw [← hm]; exact toJM_len ks vs p8
    cases hx with
    | @obj _ _ r E F hr hmm hs own sub dis rm =>
    refine fromGo_map _ _ w (mapFrom_of w0 B ks rise vs r E (hS r hr) (by rw [hm]; exact hmm) p8 hks hvs (fun s hs' => ?_) (fun i hi => ?_) _ (hbel.trans ((below_alloc1 w _).mono hB)) (by simp; omega))
    · obtain ⟨i, hi, rfl⟩ := List.mem_iff_getElem.1 hs'
      have := hs _ (List.getElem_mem (show i < m.length by omega))
      subst hm
      rw [toJM_get ks vs p8 i hi] at this
      exact this
    · refine ihv i hi (sv i hi) w0 B (F i) _ ?_ (fun q hq => hS q (sub i q (by omega) hq))
      have := rm i (by omega)
      subst hm
      rw [toJM_get ks vs p8 i (by omega)] at this
      exact this
end Go.Proofs.YtpaebanmaboaiaaGreatDoor

namespace Go.Proofs.YtpaebanmaboaiaaGreatDoor
open Go Go.RowKit Go.Maps Go.Deep
theorem signI_sign (n : Int) : signI (signI n) = signI n := by
  unfold signI
  split
  · rfl
  · split <;> rfl
theorem signI_two (d : Int) : signI (2 * d) = signI d := by
  unfold signI
  by_cases h : d < 0
  · rw [if_pos (by omega), if_pos h]
  · rw [if_neg (show ¬ 2 * d < 0 by omega), if_neg h]
    by_cases h2 : 0 < d
    · rw [if_pos (by omega), if_pos h2]
    · rw [if_neg (by omega), if_neg h2]
theorem signI_cmpV (a b : V) : signI (cmpV a b) = cmpV a b := by
  obtain ⟨k, h, t, l, ks, vs⟩ := a
  obtain ⟨k', h', t', l', ks', vs'⟩ := b
  simp only [cmpV]
  repeat' split
  all_goals first | exact signI_sign _ | exact signI_texts _ _ | rfl
def cmpAtL (l l' : List V) (i : Nat) : Int := if h : i < l.length ∧ i < l'.length then cmpV (l[i]'h.1) (l'[i]'h.2) else 0
theorem cmpAtL_at (l l' : List V) (i : Nat) (h1 : i < l.length) (h2 : i < l'.length) : cmpAtL l l' i = cmpV l[i] l'[i] := dif_pos ⟨h1, h2⟩
theorem list_firsts (l l' : List V) : Firsts l.length l'.length (cmpAtL l l') (fun n => signI (cmpL (l.drop n) (l'.drop n))) := by
  refine ⟨fun n h1 h2 => ?_, fun n h h1 h2 => ?_⟩
  · simp only [cmpAtL_at l l' n h1 h2, cmpL_drop l l' n h1 h2]
    split
    · rfl
    · exact signI_cmpV _ _
  · show signI _ = _
    rw [cmpL_end l l' n h h1 h2]
theorem disp_else {j k : J} (hj : j ≠ .hole) (hk : k ≠ .hole) (h : kindJ j ≠ kindJ k) (x y : Value) (w : World) : Disp j k x y (signI (kindJ j - kindJ k)) w := by
  cases j <;> cases k <;> simp_all [Disp, kindJ]
set_option maxHeartbeats 2000000 in
theorem compare_any {a : V} (ga : Good a) : ∀ (_ : Small a) {b : V} (_ : Good b) (_ : Small b) (w0 : World) (B : Nat) (S S' : Nat → Prop) (x y : Value), RepJ w0 S (toJ a) x → (∀ k, S k → k < B) → RepJ w0 S' (toJ b) y → (∀ k, S' k → k < B) → CmpAt w0 B x y (cmpV a b) := by
  induction ga with
  | @mk k h t l ks vs shape half valid list rise vkeys vals ihl ihv =>
  intro sm b gb sm' w0 B S S' x y hx hS hy hS' w hbel hB
  obtain ⟨k', h', t', l', ks', vs'⟩ := b
  obtain ⟨shape', half', _, list', rise', _, vals'⟩ := gb.all
  obtain ⟨p1, p2, p3, p4, p5, p6, p7, p8⟩ := shape_plain shape
  obtain ⟨q1, q2, q3, q4, q5, q6, q7, q8⟩ := shape_plain shape'
  have dd := compare_disp hx hy (cmpV (.mk k h t l ks vs) (.mk k' h' t' l' ks' vs')) w
  refine dd ?_
  clear dd
  cases sm with
  | mk hl hks hvs sl sv =>
  cases sm' with
  | mk hl' hks' hvs' sl' sv' =>
  by_cases ek : k = k'
  · subst ek
    rcases (show k = 0 ∨ k = 1 ∨ k = 2 ∨ k = 3 ∨ k = 4 ∨ k = 5 ∨ k = 6 by omega) with rfl | rfl | rfl | rfl | rfl | rfl | rfl
    · unfold toJ cmpV
      simp only [if_true]
      exact rfl
    · unfold toJ cmpV
      exact rfl
    · unfold toJ cmpV
      exact rfl
    · obtain ⟨r1, r2, _⟩ := half_bounds half
      obtain ⟨r3, r4, _⟩ := half_bounds half'
      have ec : cmpV (.mk 3 h t l ks vs) (.mk 3 h' t' l' ks' vs') = signI (h - h') := by
        simp only [cmpV]
        rw [wrap_sub_zero ⟨r1, r2⟩ ⟨r3, r4⟩]
        simp
      rw [ec]
      have cf := cmpf_hb h h' (fitsH_half half) (fitsH_half half') w
      have cf' : Calls Tryz.prog 71 #[.float .f64 (hb h), .float .f64 (hb h')] w (IntP w (signI (h - h'))) := cf.mono fun _ _ ⟨e1, e2⟩ => ⟨e1, e2 ▸ Below.refl _ _⟩
      unfold toJ
      simp only [show ¬ ((3 : Int) = 0) by decide, show ¬ ((3 : Int) = 1) by decide, show ¬ ((3 : Int) = 2) by decide, if_false, if_true]
      by_cases o : h.tmod 2 = 0 <;> by_cases o' : h'.tmod 2 = 0
      · rw [if_pos o, if_pos o']
        have e : 2 * h.tdiv 2 = h := by have := Int.mul_tdiv_add_tmod h 2; omega
        have e' : 2 * h'.tdiv 2 = h' := by have := Int.mul_tdiv_add_tmod h' 2; omega
        show signI (h - h') = signI (h.tdiv 2 - h'.tdiv 2)
        rw [← signI_two (h.tdiv 2 - h'.tdiv 2)]
        congr 1
        omega
      · rw [if_pos o, if_neg o', num_flt half' o']
        show Calls _ _ #[.float .f64 (floatOfInt .f64 (h.tdiv 2)), _] _ _
        rw [num_hb o]
        exact cf'
      · rw [if_neg o, if_pos o', num_flt half o]
        show Calls _ _ #[_, .float .f64 (floatOfInt .f64 (h'.tdiv 2))] _ _
        rw [num_hb o']
        exact cf'
      · rw [if_neg o, if_neg o', num_flt half o, num_flt half' o']
        exact cf'
    · unfold toJ cmpV
      simp
      exact rfl
    · have ec : cmpV (.mk 5 h t l ks vs) (.mk 5 h' t' l' ks' vs') = signI (cmpL l l') := by simp [cmpV]
      rw [ec]
      unfold toJ at hx hy ⊢
      simp only [show ¬ ((5 : Int) = 0) by decide, show ¬ ((5 : Int) = 1) by decide, show ¬ ((5 : Int) = 2) by decide, show ¬ ((5 : Int) = 3) by decide, show ¬ ((5 : Int) = 4) by decide, if_false, if_true] at hx hy ⊢
      generalize hm : toJL l = m at hx ⊢
      generalize hm' : toJL l' = m' at hy ⊢
      have hml : m.length = l.length := by rw [← hm]; exact toJL_len l
      have hml' : m'.length = l'.length := by rw [← hm']; exact toJL_len l'
      cases hx with
      | @arr _ _ a1 c1 f1 b1 o1 N1 F1 hlm1 hc1 ca1 own1 sub1 dis1 ra1 =>
      cases hy with
      | @arr _ _ a2 c2 f2 b2 o2 N2 F2 hlm2 hc2 ca2 own2 sub2 dis2 ra2 =>
      rintro _ _ _ _ _ _ e1 e2
      cases e1
      cases e2
      have hR1 : ∀ i (hi : i < l.length), RepJ w0 (F1 i) (toJ l[i]) (f1 (o1 + i)) := fun i hi => by
        have := ra1 i (by omega)
        subst hm
        rw [toJL_get l i hi] at this
        exact this
      have hR2 : ∀ i (hi : i < l'.length), RepJ w0 (F2 i) (toJ l'[i]) (f2 (o2 + i)) := fun i hi => by
        have := ra2 i (by omega)
        subst hm'
        rw [toJL_get l' i hi] at this
        exact this
      rw [hml, hml']
      refine arrs_of w0 B l.length l'.length a1 a2 c1 c2 (fun i => f1 (o1 + i)) (fun i => f2 (o2 + i)) (fun h0 => ?_) (fun h0 => ?_) (fun i hi => ?_) (fun i hi => ?_) _ _ (fun i h1 h2 => ?_) (list_firsts l l') (by omega) w hbel hB
      · obtain ⟨e1, e2, e3, e4⟩ := ca1 (by omega)
        exact ⟨b1, o1, e1, hS b1 e2, fun i hi => e3.cell (by omega)⟩
      · obtain ⟨e1, e2, e3, e4⟩ := ca2 (by omega)
        exact ⟨b2, o2, e1, hS' b2 e2, fun i hi => e3.cell (by omega)⟩
      · rcases (hR1 i hi).form with e | ⟨_, _, e⟩ <;> rw [e] <;> rfl
      · rcases (hR2 i hi).form with e | ⟨_, _, e⟩ <;> rw [e] <;> rfl
      · rw [cmpAtL_at l l' i h1 h2]
        exact ihl i h1 (sl i h1) (list' i h2) (sl' i h2) w0 B (F1 i) (F2 i) _ _ (hR1 i h1) (fun q hq => hS q (sub1 i q (by omega) hq)) (hR2 i h2) (fun q hq => hS' q (sub2 i q (by omega) hq))
    · have ec : cmpV (.mk 6 h t l ks vs) (.mk 6 h' t' l' ks' vs') = MRest (signI (keysC ks ks')) (fun n => signI (cmpL (vs.drop n) (vs'.drop n))) := by
        simp only [cmpV, MRest, List.drop_zero]
        simp [signI_zero]
      rw [ec]
      unfold toJ at hx hy ⊢
      simp only [show ¬ ((6 : Int) = 0) by decide, show ¬ ((6 : Int) = 1) by decide, show ¬ ((6 : Int) = 2) by decide, show ¬ ((6 : Int) = 3) by decide, show ¬ ((6 : Int) = 4) by decide, show ¬ ((6 : Int) = 5) by decide, if_false] at hx hy ⊢
      generalize hm : toJM ks vs = m at hx ⊢
      generalize hm' : toJM ks' vs' = m' at hy ⊢
      have hml : m.length = ks.length := by rw [← hm]; exact toJM_len ks vs p8
      have hml' : m'.length = ks'.length := by rw [← hm']; exact toJM_len ks' vs' q8
      cases hx with
      | @obj _ _ r1 E1 F1 hr1 hmm1 hs1 own1 sub1 dis1 rm1 =>
      cases hy with
      | @obj _ _ r2 E2 F2 hr2 hmm2 hs2 own2 sub2 dis2 rm2 =>
      rintro _ _ e1 e2
      cases e1
      cases e2
      have hR1 : ∀ i (hi : i < ks.length), RepJ w0 (F1 i) (toJ (vs[i]'(by omega))) (E1 i) := fun i hi => by
        have := rm1 i (by omega)
        subst hm
        rw [toJM_get ks vs p8 i hi] at this
        exact this
      have hR2 : ∀ i (hi : i < ks'.length), RepJ w0 (F2 i) (toJ (vs'[i]'(by omega))) (E2 i) := fun i hi => by
        have := rm2 i (by omega)
        subst hm'
        rw [toJM_get ks' vs' q8 i hi] at this
        exact this
      have hsz1 : ∀ s ∈ ks, s.size ≤ 140737488351232 := fun s hs' => by
        obtain ⟨i, hi, rfl⟩ := List.mem_iff_getElem.1 hs'
        have := hs1 _ (List.getElem_mem (show i < m.length by omega))
        subst hm
        rw [toJM_get ks vs p8 i hi] at this
        exact this
      have hsz2 : ∀ s ∈ ks', s.size ≤ 140737488351232 := fun s hs' => by
        obtain ⟨i, hi, rfl⟩ := List.mem_iff_getElem.1 hs'
        have := hs2 _ (List.getElem_mem (show i < m'.length by omega))
        subst hm'
        rw [toJM_get ks' vs' q8 i hi] at this
        exact this
      by_cases hke : ks = ks'
      · subst hke
        refine maps_of w0 B r1 r2 ks ks vs vs' E1 E2 (by rw [hm]; exact hmm1) (by rw [hm']; exact hmm2) (hS r1 hr1) (hS' r2 hr2) p8 q8 rise rise' (by omega) (by omega) hsz1 hsz2 (cmpAtL vs vs') _ (fun _ i hi => ?_) ?_ w hbel hB
        · rw [cmpAtL_at vs vs' i (by omega) (by omega)]
          exact ihv i (by omega) (sv i (by omega)) (vals' i (by omega)) (sv' i (by omega)) w0 B (F1 i) (F2 i) _ _ (hR1 i hi) (fun q hq => hS q (sub1 i q (by omega) hq)) (hR2 i hi) (fun q hq => hS' q (sub2 i q (by omega) hq))
        · have := list_firsts vs vs'
          rw [← p8, ← q8] at this
          exact this
      · have ne : ¬ signI (keysC ks ks') = 0 := fun e => hke (keysC_zero.1 (signI_zero.1 e))
        have e3 : MRest (signI (keysC ks ks')) (fun n => signI (cmpL (vs.drop n) (vs'.drop n))) = MRest (signI (keysC ks ks')) (fun _ => 0) := by unfold MRest; rw [if_neg ne, if_neg ne]
        rw [e3]
        refine maps_of w0 B r1 r2 ks ks' vs vs' E1 E2 (by rw [hm]; exact hmm1) (by rw [hm']; exact hmm2) (hS r1 hr1) (hS' r2 hr2) p8 q8 rise rise' (by omega) (by omega) hsz1 hsz2 (fun _ => 0) _ (fun e => absurd e hke) ⟨fun n _ _ => ?_, fun n _ _ _ => ?_⟩ w hbel hB
        · simp
        · rw [Int.sub_self]; rfl
  · have := disp_else (toJ_whole (.mk k h t l ks vs)) (toJ_whole (.mk k' h' t' l' ks' vs')) (by rw [kindJ_toJ ⟨p1, p2⟩, kindJ_toJ ⟨q1, q2⟩]; exact ek) x y w
    rw [kindJ_toJ ⟨p1, p2⟩, kindJ_toJ ⟨q1, q2⟩] at this
    have e : cmpV (.mk k h t l ks vs) (.mk k' h' t' l' ks' vs') = signI (k - k') := by
      simp only [cmpV]
      rw [if_pos ek, wrap_sub_zero (by omega) (by omega)]
    rw [e]
    exact this
end Go.Proofs.YtpaebanmaboaiaaGreatDoor

namespace Go.Proofs.YtpaebanmaboaiaaGreatDoor
def v0V : V := .mk 0 0 ⟨#[]⟩ [] [] []
def atV (l : List V) (i : Nat) : V := l[i]?.getD v0V
theorem atV_get {l : List V} {i : Nat} (h : i < l.length) : atV l i = l[i] := by unfold atV; rw [List.getElem?_eq_getElem h]; rfl
def ltV (l : List V) (i j : Nat) : Bool := decide (cmpV (atV l i) (atV l j) < 0)
def eqV (l : List V) (i j : Nat) : Bool := decide (cmpV (atV l i) (atV l j) = 0)
/-- An array of the elements at places. -/
def pickV (l : List V) (q : List Nat) : V := .mk 5 0 ⟨#[]⟩ (q.map (atV l)) [] []
/-- The places of the elements in their order. -/
def ordR (l : List V) : Row := stable (ltV l) l.length (fun k => k)
def sortQ (l : List V) : List Nat := (List.range l.length).map (ordR l)
/-- The places that are kept, and the last one, of the first k. -/
def uqG (eq : Nat → Nat → Bool) (r : Row) : Nat → List Nat × Nat
  | 0 => ([], 0)
  | k + 1 => if k = 0 ∨ eq (uqG eq r k).2 (r k) = false then ((uqG eq r k).1 ++ [r k], r k) else uqG eq r k
def uniqQ (l : List V) : List Nat := (uqG (eqV l) (ordR l) l.length).1
/-- The place of the least (the greatest) of the first k + 1. -/
def mmG (l : List V) (least : Bool) : Nat → Nat
  | 0 => 0
  | k + 1 => if (decide (cmpV (atV l (mmG l least k)) (atV l (k + 1)) > 0) == least) = true then k + 1 else mmG l least k
def mmV (l : List V) (least : Bool) : V := if l.length = 0 then v0V else atV l (mmG l least (l.length - 1))
theorem mmG_le (l : List V) (least : Bool) : ∀ k, mmG l least k ≤ k
  | 0 => Nat.le_refl _
  | k + 1 => by
    have := mmG_le l least k
    rw [mmG]
    split <;> omega
/-- Places of a row of n elements, each at most once. -/
def Places (n : Nat) (q : List Nat) : Prop := q.Nodup ∧ ∀ i ∈ q, i < n
theorem places_of {n : Nat} {r : Row} (h : PermN n r) : Places n ((List.range n).map r) := by
  refine ⟨?_, fun i hi => ?_⟩
  · rw [List.Nodup, List.pairwise_map]
    refine List.Pairwise.imp_of_mem (fun {a b} ha hb hab => ?_) (List.nodup_range (n := n))
    intro e
    exact hab (h.2 a b (by simpa using ha) (by simpa using hb) e)
  · obtain ⟨k, hk, rfl⟩ := List.mem_map.1 hi
    exact h.1 k (by simpa using hk)
theorem uqG_sub (eq : Nat → Nat → Bool) (r : Row) : ∀ k, ∀ i ∈ (uqG eq r k).1, ∃ j, j < k ∧ i = r j
  | 0, i, hi => by simp [uqG] at hi
  | k + 1, i, hi => by
    rw [uqG] at hi
    split at hi
    · rcases List.mem_append.1 hi with h | h
      · obtain ⟨j, hj, e⟩ := uqG_sub eq r k i h
        exact ⟨j, by omega, e⟩
      · exact ⟨k, by omega, by simpa using h⟩
    · obtain ⟨j, hj, e⟩ := uqG_sub eq r k i hi
      exact ⟨j, by omega, e⟩
theorem uqG_nodup {n : Nat} {r : Row} (h : PermN n r) (eq : Nat → Nat → Bool) : ∀ k, k ≤ n → (uqG eq r k).1.Nodup
  | 0, _ => by simp [uqG]
  | k + 1, hk => by
    have ih := uqG_nodup h eq k (by omega)
    rw [uqG]
    split
    · rw [List.nodup_append]
      refine ⟨ih, by simp, fun a ha b hb => ?_⟩
      obtain ⟨j, hj, rfl⟩ := uqG_sub eq r k a ha
      obtain rfl : b = r k := by simpa using hb
      intro e
      have := h.2 j k (by omega) (by omega) e
      omega
    · exact ih
theorem uqG_places {n : Nat} {r : Row} (h : PermN n r) (eq : Nat → Nat → Bool) (k : Nat) (hk : k ≤ n) : Places n (uqG eq r k).1 :=
  ⟨uqG_nodup h eq k hk, fun i hi => by obtain ⟨j, hj, rfl⟩ := uqG_sub eq r k i hi; exact h.1 j (by omega)⟩
theorem uqG_len (eq : Nat → Nat → Bool) (r : Row) : ∀ k, (uqG eq r k).1.length ≤ k
  | 0 => by simp [uqG]
  | k + 1 => by
    have := uqG_len eq r k
    rw [uqG]
    split
    · simp; omega
    · omega
theorem uqG_last {eq : Nat → Nat → Bool} {n : Nat} {r : Row} (h : PermN n r) : ∀ k, 0 < k → k ≤ n → (uqG eq r k).2 < n
  | 0, h0, _ => by omega
  | k + 1, _, hk => by
    rw [uqG]
    split
    · exact h.1 k (by omega)
    · rename_i hn
      exact uqG_last h k (by omega) (by omega)
theorem Places.len {n : Nat} : ∀ {q : List Nat}, Places n q → q.length ≤ n := by
  induction n with
  | zero =>
    intro q h
    cases q with
    | nil => simp
    | cons a q => have := h.2 a (by simp); omega
  | succ n ih =>
    intro q h
    have h1 : Places n (q.erase n) := ⟨h.1.erase n, fun i hi => by
      have h2 := h.2 i (List.mem_of_mem_erase hi)
      have h3 : i ≠ n := fun e => by
        subst e
        exact (List.Nodup.not_mem_erase h.1) hi
      omega⟩
    have h4 := ih h1
    have h5 := List.length_erase (a := n) (l := q)
    split at h5 <;> omega
theorem pick_good {l : List V} (hl : ∀ x ∈ l, Good x) {q : List Nat} (hq : Places l.length q) : Good (pickV l q) := by
  refine .mk (by simp [shapeB]) (by decide) (by decide) (fun i hi => ?_) (fun i hi => by simp at hi) (fun i hi => by simp at hi) (fun i hi => by simp at hi)
  rw [List.getElem_map]
  have hi' : i < q.length := by simpa using hi
  have := hq.2 _ (List.getElem_mem hi')
  rw [atV_get this]
  exact hl _ (List.getElem_mem _)
theorem v0_good : Good v0V := .mk (by simp [shapeB, Lib.toList_data]) (by decide) (by decide) (fun i hi => by simp at hi) (fun i hi => by simp at hi) (fun i hi => by simp at hi) (fun i hi => by simp at hi)
theorem mm_good {l : List V} (hl : ∀ x ∈ l, Good x) (least : Bool) : Good (mmV l least) := by
  unfold mmV
  split
  · exact v0_good
  · have := mmG_le l least (l.length - 1)
    rw [atV_get (by omega)]
    exact hl _ (List.getElem_mem _)
end Go.Proofs.YtpaebanmaboaiaaGreatDoor

namespace Go.Proofs.YtpaebanmaboaiaaGreatDoor
open Go Go.RowKit Go.Deep
/-- All but one block as it was. -/
structure But (w1 : World) (ib : Nat) (w : World) : Prop where
  os : w.os = w1.os
  tape : w.tape = w1.tape
  output : w.output = w1.output
  size : w1.heap.size ≤ w.heap.size
  block : ∀ k, k < w1.heap.size → k ≠ ib → w.heap[k]? = w1.heap[k]?
theorem But.refl (w : World) (ib : Nat) : But w ib w := ⟨rfl, rfl, rfl, Nat.le_refl _, fun _ _ _ => rfl⟩
theorem But.then {w1 w w' : World} {ib : Nat} (h : But w1 ib w) (hb : Below w.heap.size w w') : But w1 ib w' :=
  ⟨hb.os.trans h.os, hb.tape.trans h.tape, hb.output.trans h.output, Nat.le_trans h.size hb.size, fun k hk hne => (hb.block k (Nat.lt_of_lt_of_le hk h.size)).trans (h.block k hk hne)⟩
theorem But.below {w0 w1 w : World} {ib B : Nat} (hb : Below B w0 w1) (h : But w1 ib w) (hi : B ≤ ib) (hB : B ≤ w1.heap.size) : Below B w0 w :=
  ⟨h.os.trans hb.os, h.tape.trans hb.tape, h.output.trans hb.output, Nat.le_trans hb.size h.size, fun k hk => (h.block k (by omega) (by omega)).trans (hb.block k hk)⟩
/-- The items: block p k holds element k and its key. -/
def ItemsAt (w : World) (n base : Nat) (p : Nat → Nat) (fx fy : Nat → Value) : Prop :=
  ∀ k, k < n → base ≤ p k ∧ p k < w.heap.size ∧ w.heap[p k]? = some (.cells #[fx k, fy k] 96)
/-- The row's order. -/
def SortI (w1 : World) (ib n : Nat) (p : Nat → Nat) (r : Row) (w : World) : Prop :=
  PermN n r ∧ But w1 ib w ∧ w.rowIs ib 94 n fun k => .pointer (some ⟨p (r k), 0, none⟩)
theorem SortI.alloc {w1 : World} {ib n : Nat} {p : Nat → Nat} {r : Row} {w : World} (h : SortI w1 ib n p r w) (o : Obj) : SortI w1 ib n p r (w.alloc o) :=
  ⟨h.1, h.2.1.then (below_alloc1 w o), h.2.2.alloc o⟩
theorem SortI.next {w1 : World} {ib n : Nat} {p : Nat → Nat} {r : Row} {w w' : World} (h : SortI w1 ib n p r w) (hb : Below w.heap.size w w') : SortI w1 ib n p r w' :=
  ⟨h.1, h.2.1.then hb, h.2.2.of_block (hb.block _ h.2.2.lt)⟩
theorem item_cells {w : World} {b : Nat} {x y : Value} {t : TypeId} (h : w.heap[b]? = some (.cells #[x, y] t)) : w.cell? ⟨b, 0, none⟩ = some x ∧ w.cell? ⟨b, 1, none⟩ = some y := by
  simp [World.cell?, h]
set_option maxHeartbeats 2000000 in
set_option maxRecDepth 100000 in
theorem less_walk (xb ib n c i j : Nat) (a b : Nat) (fy : Nat → Value) (d : Int) (w : World) (hi : i < n) (hj : j < n)
    (hx : w.cell? ⟨xb, 0, none⟩ = some (.slice (some ⟨ib, 0, none⟩) n c)) (ci : w.cell? ⟨ib, i, none⟩ = some (.pointer (some ⟨a, 0, none⟩))) (cj : w.cell? ⟨ib, j, none⟩ = some (.pointer (some ⟨b, 0, none⟩)))
    (ca : w.cell? ⟨a, 1, none⟩ = some (fy i)) (cb : w.cell? ⟨b, 1, none⟩ = some (fy j))
    (hC : Calls Tryz.prog 60 #[fy i, fy j] w.drew (IntP w.drew d)) :
    Calls Tryz.prog 68 #[.int .i64 i, .int .i64 j, .pointer (some ⟨xb, 0, none⟩)] w fun e w' => e = .returned (.bool (decide (d < 0))) ∧ Below w.heap.size w w' := by
  have HC := Lib.hid hC; clear hC
  have u1 : (i : Int) < (n : Int) := by omega
  have u2 : (j : Int) < (n : Int) := by omega
  have u3 : (0 : Int) ≤ (i : Int) := by omega
  have u4 : (0 : Int) ≤ (j : Int) := by omega
  go_enter Tryz.func68, Tryz.ntmps68
  go_wp2_with fail
  refine wp_region_tail 14 (by kernel_rfl) (by kernel_rfl) ?_
  simp only [List.take_succ_cons, List.take_zero, List.drop_succ_cons, List.drop_zero]
  repeat (go_big_quiet_step (fail))
  refine wpQuiet_nil ?_
  clear hx ci cj ca cb
  go_wp2_with fail
  refine HC.out.mono ?_
  clear HC
  rintro e w2 ⟨rfl, hb⟩
  have Hb := Lib.hid ((Below.drew (Below.refl w.heap.size w)).trans hb)
  clear hb
  go_wp2_with fail
  go_ret
  exact ⟨rfl, Hb.out⟩
end Go.Proofs.YtpaebanmaboaiaaGreatDoor

namespace Go.Proofs.YtpaebanmaboaiaaGreatDoor
open Go Go.RowKit Go.Deep Go.Lib
noncomputable def rowT : TypeInfo := (Tryz.prog.info? 91).get (by kernel_rfl)
noncomputable def rowE : TypeInfo := (Tryz.prog.info? 94).get (by kernel_rfl)
theorem rowT_info : Tryz.prog.info? 91 = some rowT := by kernel_rfl
theorem rowE_info : Tryz.prog.info? 94 = some rowE := by kernel_rfl
theorem rowT_desc : rowT.desc = .slice 94 := by kernel_rfl
theorem rowT_packed : Tryz.prog.packed 91 = false := by kernel_rfl
theorem rowE_kind (w : World) : (Extern.Rtype.kind 94).run Tryz.prog w = .ok 22 w := by kernel_rfl
theorem rowE_size : rowE.size = 1 := by kernel_rfl
theorem rowE_agg (w : World) : (isAgg 94).run Tryz.prog w = .ok false w := by kernel_rfl
/-- The function that Swapper hands back, and what it is bound to. -/
theorem swap_lit (n : Nat) (p : Option Addr) (c : Nat) : ∃ f sb, Tryz.prog.funcs.findIdx? (·.name == "internal/reflectlite" ++ ".Swapper$" ++ toString (swapperK n rowE 22)) = some f ∧
    (if swapperK n rowE 22 ≤ 2 then (#[] : Array Value) else #[.slice p n c, typeHandle Tryz.prog 94]) = sb ∧ (2 ≤ n → f = 113 ∧ sb = #[.slice p n c, typeHandle Tryz.prog 94]) := by
  have a : rowE.hasPointers = true := by kernel_rfl
  have b : rowE.bytes = 8 := by kernel_rfl
  have h0 : Tryz.prog.funcs.findIdx? (·.name == "internal/reflectlite" ++ ".Swapper$" ++ toString 1) = some 111 := by kernel_rfl
  have h1 : Tryz.prog.funcs.findIdx? (·.name == "internal/reflectlite" ++ ".Swapper$" ++ toString 2) = some 112 := by kernel_rfl
  have h2 : Tryz.prog.funcs.findIdx? (·.name == "internal/reflectlite" ++ ".Swapper$" ++ toString 3) = some 113 := by kernel_rfl
  by_cases e0 : n = 0
  · have k : swapperK n rowE 22 = 1 := by subst e0; rfl
    rw [k]
    exact ⟨_, _, h0, rfl, fun h => by omega⟩
  · by_cases e1 : n = 1
    · have k : swapperK n rowE 22 = 2 := by subst e1; rfl
      rw [k]
      exact ⟨_, _, h1, rfl, fun h => by omega⟩
    · have k : swapperK n rowE 22 = 3 := by
        have c0 : (n == 0) = false := by simpa using e0
        have c1 : (n == 1) = false := by simpa using e1
        unfold swapperK
        rw [c0, c1, a, b]
        rfl
      rw [k]
      exact ⟨_, _, h2, rfl, fun _ => ⟨rfl, rfl⟩⟩
set_option maxHeartbeats 2000000 in
set_option maxRecDepth 100000 in
theorem sliceStable_any (p : Option Addr) (n c B g : Nat) (lb : Array Value) (lt : Nat → Nat → Bool) (I : Row → World → Prop) (hn : n < 1152921504606846976)
    (H : ∀ sf sb, (2 ≤ n → sf = 113 ∧ sb = #[.slice p n c, typeHandle Tryz.prog 94]) → Sorter n B g sf lb sb lt I) (r : Row) (w : World) (hI : I r w) :
    Calls Tryz.prog 67 #[.iface 91 (.slice p n c), .func (.func g) #[] lb] w fun e w' => e = .returned (.tuple #[]) ∧ I (stable lt n r) w' := by
  obtain ⟨f, sb, hf, hsb, h2⟩ := swap_lit n p c
  have HS := H f sb h2
  have hv := run_valueOf_slice (P := Tryz.prog) 91 94 rowT rowT_info rowT_desc p n c w
  have hs := fun w => run_swapper_slice (P := Tryz.prog) 91 94 rowT rowE rowT_info rowT_desc rowE_info 22 rowE_kind p n c f hf w
  have hl := fun a w ha => run_valueLen_slice (P := Tryz.prog) 91 94 rowT rowT_info rowT_desc rowT_packed a p n c w ha
  rw [hsb] at hs
  have hp := Lib.hid fun w (hI : I r w) => stable_any HS hn r w hI
  have hIa := Lib.hid fun w o (hI : I r w) => HS.alloc r w o hI
  have HI := Lib.hid hI
  clear hI HS H hsb h2 hf
  simp only [typeHandle] at hv hl
  generalize Tryz.prog.globals.size = G at hv hl
  go_enter Tryz.func67, Tryz.ntmps67
  go_wp2_with fail
  rw [run_callFunc_extern Tryz.func88 (by kernel_rfl) (by kernel_rfl) (by kernel_rfl) (e := fun args => Extern.ReflectliteValue.unpack (args.getD 0 (.tuple #[]))) (by kernel_rfl),
    show Sem.run Tryz.prog ((fun args : Array Value => Extern.ReflectliteValue.unpack (args.getD 0 (.tuple #[]))) #[.iface 91 (.slice p n c)]) w = _ from hv]
  simp only [Result.andThen]
  rw [Oper.upon_value]
  go_wp2_with fail
  rw [run_callFunc_extern Tryz.func89 (by kernel_rfl) (by kernel_rfl) (by kernel_rfl) (e := Extern.ReflectliteSwapper.swapper "internal/reflectlite" (Extern.ReflectliteValue.valueError "Swapper")) (by kernel_rfl), hs]
  simp only [Result.andThen]
  rw [Oper.upon_value]
  go_wp2_with fail
  rw [run_callFunc_extern Tryz.func91 (by kernel_rfl) (by kernel_rfl) (by kernel_rfl) (e := Extern.ReflectliteValue.method (Extern.ReflectliteValue.valueError "reflectlite.Value.Len" 0) Extern.ReflectliteValue.len) (by kernel_rfl),
    hl _ _ (by simp)]
  simp only [Result.andThen]
  rw [Oper.upon_value]
  clear hv hs hl
  go_wp2_with fail
  refine (hp.out _ (hIa.out _ _ (hIa.out _ _ HI.out))).mono ?_
  clear hp
  rintro e w' ⟨rfl, hR, _⟩
  have HR := Lib.hid hR; clear hR
  go_wp2_with fail
  go_end0
  exact ⟨rfl, HR.out⟩
end Go.Proofs.YtpaebanmaboaiaaGreatDoor
