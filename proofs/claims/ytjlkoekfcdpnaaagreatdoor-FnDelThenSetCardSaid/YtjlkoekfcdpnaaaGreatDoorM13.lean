/- Contract of impl.toGo. -/
/- Contracts of impl.result at errors and integers, of impl.fromGo at integers. -/
/- Contract of impl.fromGo at the tree of a good value: it gives the value back; of impl.result there. -/
/- Paths of keys and places as gojq has them; trees of values are not too large. -/
/- Of what is left: its size in memory; of trees with holes: that they are not too large; the paths behind the first one. -/
/- Contract of gojq.delpaths at places of a value. -/
import Derived.Test.YtjlkoekfcdpnaaaGreatDoorM02
import Derived.Test.YtjlkoekfcdpnaaaGreatDoorM09
import Derived.Test.YtjlkoekfcdpnaaaGreatDoorM03
import Derived.Test.YtjlkoekfcdpnaaaGreatDoorM12
import Derived.Test.YtjlkoekfcdpnaaaGreatDoorM06
import Derived.Test.YtjlkoekfcdpnaaaGreatDoorM08
import Derived.Test.YtjlkoekfcdpnaaaGreatDoorM01
namespace Go.Proofs.YtjlkoekfcdpnaaaGreatDoor
open Go Go.RowKit Go.Maps Go.Deep Go.WideMaps
theorem Good.parts {k h : Int} {t : ByteArray} {l : List V} {ks : List ByteArray} {vs : List V} (g : Good (.mk k h t l ks vs)) :
    shapeB k h t l.length ks.length vs.length = true ∧ halfB h = true ∧ (∀ i (hi : i < l.length), Good l[i]) ∧ (∀ i (hi : i + 1 < ks.length), Op.bytesLess ks[i].toList ks[i + 1].toList = true) ∧ (∀ i (hi : i < vs.length), Good vs[i]) := by
  cases g with
  | mk a b c d e f g => exact ⟨a, b, d, e, g⟩
set_option maxHeartbeats 4000000 in
set_option maxRecDepth 100000 in
theorem toGo_any (w0 : World) (B : Nat) (v : V) (cs : List Value) (hv : RepV w0 B v cs) : Good v → ToGoOK w0 B v cs := by
  induction hv with
  | @mk k hf t l ks vs la ka va lc kc vc C D hk hh ht hl hks hvs hs cl rl ck cv rv _ ihl ihv =>
  intro g
  obtain ⟨hshape, hhalf, gl, grise, gv⟩ := g.parts
  simp only [shapeB, Bool.and_eq_true, decide_eq_true_eq, Bool.or_eq_true, beq_iff_eq] at hshape
  obtain ⟨⟨⟨⟨⟨⟨hk0, hk6⟩, s1⟩, s2⟩, s3⟩, s4⟩, hlen⟩ := hshape
  intro w hbel hB
  have L := list_of w0 B l la lc C hl cl rl (fun i hi => ihl i hi (gl i hi))
  have M := map_of w0 B k hf t l ks vs la ka va lc kc vc D hks hs grise hlen ck cv rv (fun i hi => ihv i hi (gv i hi))
  have hL := L (w.alloc (.cells #[.int .i64 k, .int .i64 hf, .string t, .slice la l.length lc, .slice ka ks.length kc, .slice va vs.length vc] 26)) (hbel.trans ((below_alloc1 w _).mono hB)) (by simp; omega)
  have hM := M (w.alloc (.cells #[.int .i64 k, .int .i64 hf, .string t, .slice la l.length lc, .slice ka ks.length kc, .slice va vs.length vc] 26)) (hbel.trans ((below_alloc1 w _).mono hB)) (by simp; omega)
  have HL := Lib.hid hL
  have HM := Lib.hid hM
  have hb1 := below_alloc1 w (.cells #[.int .i64 k, .int .i64 hf, .string t, .slice la l.length lc, .slice ka ks.length kc, .slice va vs.length vc] 26)
  clear hL hM L M ihl ihv cl ck cv rl rv gl gv grise hs g s1 s2 s3 s4 hlen hbel
  rcases (show k = 0 ∨ k = 1 ∨ k = 2 ∨ k = 3 ∨ k = 4 ∨ k = 5 ∨ k = 6 by omega) with rfl | rfl | rfl | rfl | rfl | rfl | rfl
  all_goals go_enter Tryz.func16, Tryz.ntmps16
  · go_wp2_with fail
    refine bodyPost_ret (results_tmp2 rfl _ _ _) rfl ⟨_, rfl, ?_, hb1⟩
    simp only [toJ, if_true]; exact .null _
  · go_wp2_with fail
    refine bodyPost_ret (results_tmp2 rfl _ _ _) rfl ⟨_, rfl, ?_, hb1⟩
    simp [toJ]; exact .bool _ _
  · go_wp2_with fail
    refine bodyPost_ret (results_tmp2 rfl _ _ _) rfl ⟨_, rfl, ?_, hb1⟩
    simp [toJ]; exact .bool _ _
  · by_cases he : hf.tmod 2 = 0
    · have He := Lib.hid he
      go_wp2_with fail
      refine bodyPost_ret (results_tmp2 rfl _ _ _) rfl ⟨_, rfl, ?_, hb1⟩
      simp [toJ, He.out]; exact .int _ _ (by have := Int.mul_tdiv_add_tmod hf 2; have := He.out; omega)
    · have He := Lib.hid he
      have hd : FloatKind.f64.format.div (FloatKind.f64.nearest hf) 4611686018427387904 = some (halfBits hf) := by
        simp only [halfB, Bool.and_eq_true, decide_eq_true_eq, Bool.or_eq_true, beq_iff_eq] at hhalf
        obtain ⟨r, hr⟩ := half_some hf (by omega) (by omega) (by intro e; rw [e] at he; exact he rfl)
        rw [halfBits, hr]; rfl
      have hq : ∀ w : World, (binOp .quo 49 (.float .f64 (floatOfInt .f64 hf)) (.float .f64 4611686018427387904)).run Tryz.prog w = .ok (.float .f64 (halfBits hf)) w := fun w => run_float_arith w .quo _ .f64 _ _ _ hd
      clear hd hhalf
      go_wp2_with fail
      refine bodyPost_ret (results_tmp2 rfl _ _ _) rfl ⟨_, rfl, ?_, hb1⟩
      simp [toJ, He.out]; exact .flt _ _
  · go_wp2_with fail
    refine bodyPost_ret (results_tmp2 rfl _ _ _) rfl ⟨_, rfl, ?_, hb1⟩
    simp [toJ]; exact .str _ _ ht
  · go_wp2_with fail
    refine HL.out.mono ?_
    rintro e w2 ⟨a, c, rfl, hr, hb2⟩
    go_wp2_with fail
    refine bodyPost_ret (results_tmp2 rfl _ _ _) rfl ⟨_, rfl, ?_, below_next hb1 hb2⟩
    simp [toJ]; exact hr.mono (fun k hk => ⟨by have := hk.1; simp at this; omega, hk.2⟩)
  · go_wp2_with fail
    refine HM.out.mono ?_
    rintro e w2 ⟨r, rfl, hr, hb2⟩
    go_wp2_with fail
    refine bodyPost_ret (results_tmp2 rfl _ _ _) rfl ⟨_, rfl, ?_, below_next hb1 hb2⟩
    simp [toJ]; exact hr.mono (fun k hk => ⟨by have := hk.1; simp at this; omega, hk.2⟩)
end Go.Proofs.YtjlkoekfcdpnaaaGreatDoor

namespace Go.Proofs.YtjlkoekfcdpnaaaGreatDoor
open Go Go.RowKit
attribute [local go_sem] assert_jsonNumber assert_jsonNumber_nil assert_int assert_int_nil assert_float64 assert_float64_nil assert_pbigInt assert_pbigInt_nil assert_string assert_string_nil assert_sl assert_sl_nil assert_m assert_m_nil assert_bool assert_bool_nil
theorem is_func1TypeError (v : Value) (w : World) : (Instr.typeAssert (.iface 73 v) 20 57 true).run Tryz.prog w = .ok (.tuple #[.iface 73 v, .bool true]) w := by kernel_rfl
theorem is_func1WrapError (v : Value) (w : World) : (Instr.typeAssert (.iface 76 v) 20 57 true).run Tryz.prog w = .ok (.tuple #[.iface 76 v, .bool true]) w := by kernel_rfl
theorem is_func0TypeError (v : Value) (w : World) : (Instr.typeAssert (.iface 196 v) 20 57 true).run Tryz.prog w = .ok (.tuple #[.iface 196 v, .bool true]) w := by kernel_rfl
theorem is_func2WrapError (v : Value) (w : World) : (Instr.typeAssert (.iface 92 v) 20 57 true).run Tryz.prog w = .ok (.tuple #[.iface 92 v, .bool true]) w := by kernel_rfl
theorem is_expectedObjectError (v : Value) (w : World) : (Instr.typeAssert (.iface 99 v) 20 57 true).run Tryz.prog w = .ok (.tuple #[.iface 99 v, .bool true]) w := by kernel_rfl
theorem is_expectedArrayError (v : Value) (w : World) : (Instr.typeAssert (.iface 86 v) 20 57 true).run Tryz.prog w = .ok (.tuple #[.iface 86 v, .bool true]) w := by kernel_rfl
theorem is_arrayIndexNotNumberError (v : Value) (w : World) : (Instr.typeAssert (.iface 111 v) 20 57 true).run Tryz.prog w = .ok (.tuple #[.iface 111 v, .bool true]) w := by kernel_rfl
theorem is_objectKeyNotStringError (v : Value) (w : World) : (Instr.typeAssert (.iface 115 v) 20 57 true).run Tryz.prog w = .ok (.tuple #[.iface 115 v, .bool true]) w := by kernel_rfl
theorem is_expectedStartEndError (v : Value) (w : World) : (Instr.typeAssert (.iface 108 v) 20 57 true).run Tryz.prog w = .ok (.tuple #[.iface 108 v, .bool true]) w := by kernel_rfl
theorem is_stringIndexNotNumberError (v : Value) (w : World) : (Instr.typeAssert (.iface 113 v) 20 57 true).run Tryz.prog w = .ok (.tuple #[.iface 113 v, .bool true]) w := by kernel_rfl
theorem is_arrayIndexNegativeError (v : Value) (w : World) : (Instr.typeAssert (.iface 147 v) 20 57 true).run Tryz.prog w = .ok (.tuple #[.iface 147 v, .bool true]) w := by kernel_rfl
theorem is_arrayIndexTooLargeError (v : Value) (w : World) : (Instr.typeAssert (.iface 150 v) 20 57 true).run Tryz.prog w = .ok (.tuple #[.iface 150 v, .bool true]) w := by kernel_rfl
theorem isnt_int (v : Value) (w : World) : (Instr.typeAssert (.iface 3 v) 20 57 true).run Tryz.prog w = .ok (.tuple #[.nilIface, .bool false]) w :=
  run_assert_iface Tryz.underlying57 (by simp) (fun _ => by kernel_rfl) (by kernel_rfl) v w
theorem isnt_bool (v : Value) (w : World) : (Instr.typeAssert (.iface 4 v) 20 57 true).run Tryz.prog w = .ok (.tuple #[.nilIface, .bool false]) w :=
  run_assert_iface Tryz.underlying57 (by simp) (fun _ => by kernel_rfl) (by kernel_rfl) v w
theorem isnt_float (v : Value) (w : World) : (Instr.typeAssert (.iface 49 v) 20 57 true).run Tryz.prog w = .ok (.tuple #[.nilIface, .bool false]) w :=
  run_assert_iface Tryz.underlying57 (by simp) (fun _ => by kernel_rfl) (by kernel_rfl) v w
theorem isnt_string (v : Value) (w : World) : (Instr.typeAssert (.iface 9 v) 20 57 true).run Tryz.prog w = .ok (.tuple #[.nilIface, .bool false]) w :=
  run_assert_iface Tryz.underlying57 (by simp) (fun _ => by kernel_rfl) (by kernel_rfl) v w
theorem isnt_slice (v : Value) (w : World) : (Instr.typeAssert (.iface 50 v) 20 57 true).run Tryz.prog w = .ok (.tuple #[.nilIface, .bool false]) w :=
  run_assert_iface Tryz.underlying57 (by simp) (fun _ => by kernel_rfl) (by kernel_rfl) v w
theorem isnt_map (v : Value) (w : World) : (Instr.typeAssert (.iface 53 v) 20 57 true).run Tryz.prog w = .ok (.tuple #[.nilIface, .bool false]) w :=
  run_assert_iface Tryz.underlying57 (by simp) (fun _ => by kernel_rfl) (by kernel_rfl) v w
theorem isnt_nil (w : World) : (Instr.typeAssert .nilIface 20 57 true).run Tryz.prog w = .ok (.tuple #[.nilIface, .bool false]) w := by kernel_rfl
/-- impl.Res with End alone. -/
def resEnd (n : Int) : Value := .agg #[.int .i64 0, .int .i64 0, .string ByteArray.empty, .slice none 0 0, .slice none 0 0, .slice none 0 0, .int .i64 n]
set_option maxHeartbeats 4000000 in
set_option maxRecDepth 100000 in
theorem result_iface (t : TypeId) (v : Value) (h : ∀ w : World, (Instr.typeAssert (.iface t v) 20 57 true).run Tryz.prog w = .ok (.tuple #[.iface t v, .bool true]) w) (w : World) : Calls Tryz.prog 17 #[.iface t v] w fun e w' => e = .returned (resEnd 1) ∧ Below w.heap.size w w' := by
  go_enter Tryz.func17, Tryz.ntmps17
  go_wp2_with fail
  refine bodyPost_ret (v := resEnd 1) ?_ rfl ⟨rfl, ?_⟩
  · simp [results, resEnd, asAddr, Result.andThen, go_sem]
    rfl
  · exact below_alloc1 w _
theorem result_err (v : Value) (hv : ErrV v) (w : World) : Calls Tryz.prog 17 #[v] w fun e w' => e = .returned (resEnd 1) ∧ Below w.heap.size w w' := by
  cases hv with
  | func1TypeError a => exact result_iface _ _ (is_func1TypeError _) w
  | func1WrapError a => exact result_iface _ _ (is_func1WrapError _) w
  | func0TypeError a => exact result_iface _ _ (is_func0TypeError _) w
  | func2WrapError a => exact result_iface _ _ (is_func2WrapError _) w
  | expectedObjectError a => exact result_iface _ _ (is_expectedObjectError _) w
  | expectedArrayError a => exact result_iface _ _ (is_expectedArrayError _) w
  | arrayIndexNotNumberError a => exact result_iface _ _ (is_arrayIndexNotNumberError _) w
  | objectKeyNotStringError a => exact result_iface _ _ (is_objectKeyNotStringError _) w
  | expectedStartEndError a => exact result_iface _ _ (is_expectedStartEndError _) w
  | stringIndexNotNumberError a => exact result_iface _ _ (is_stringIndexNotNumberError _) w
  | arrayIndexNegativeError a => exact result_iface _ _ (is_arrayIndexNegativeError _) w
  | arrayIndexTooLargeError a => exact result_iface _ _ (is_arrayIndexTooLargeError _) w
end Go.Proofs.YtjlkoekfcdpnaaaGreatDoor

namespace Go.Proofs.YtjlkoekfcdpnaaaGreatDoor
open Go Go.RowKit Go.Maps Go.Deep
attribute [local go_sem] assert_int assert_int_nil assert_float64 assert_float64_nil assert_string assert_string_nil assert_sl assert_sl_nil assert_m assert_m_nil assert_bool assert_bool_nil
set_option maxHeartbeats 1000000 in
set_option maxRecDepth 100000 in
theorem fromGo_list (a : Option Addr) (n c : Nat) (v : V) (w : World) (H : Calls Tryz.prog 34 #[.slice a n c] (w.alloc (.cells #[.int .i64 0, .int .i64 0, .string ⟨#[]⟩, .slice none 0 0, .slice none 0 0, .slice none 0 0] 26)) (FromP (w.alloc (.cells #[.int .i64 0, .int .i64 0, .string ⟨#[]⟩, .slice none 0 0, .slice none 0 0, .slice none 0 0] 26)) v)) :
    Calls Tryz.prog 25 #[.iface 50 (.slice a n c)] w (FromP w v) := by
  have HH := Lib.hid H; clear H
  go_enter Tryz.func25, Tryz.ntmps25
  go_wp2_with fail
  refine HH.out.mono ?_
  rintro e w2 ⟨cs, rfl, hx, hb⟩
  have hat := (hb.block w.heap.size (by simp)).trans (at_alloc w _)
  have hb2 := below_next (below_alloc1 w _) hb
  obtain ⟨e0, e1, e2, e3, e4, e5⟩ := of_block6 hat
  obtain ⟨f0, f1, f2, f3, f4, f5⟩ := free_block6 hat
  obtain ⟨k, h, t, la', ka', va', nl, cl, nk, ck, nv, cv, hcs⟩ := hx.shape
  have hx2 := Lib.hid hx
  have Hat := Lib.hid hat; clear hat
  have Hb2 := Lib.hid hb2; clear hb2 hb hx
  subst hcs
  go_wp2_with fail
  refine bodyPost_ret (results_row_tmp (p := 2) (u := 3) (ty := 26) rfl _ _ w.heap.size 26 _ (0, 0) _ rfl (set_row6 Hat.out _ _ _ _ _ _) Tryz.underlying26 rfl (by kernel_rfl)) rfl
    ⟨_, rfl, hx2.out.turn (fun q hq => ⟨set6_other _ _ _ _ _ _ _ _ _ (by have := hq.1; simp at this; omega), ?_⟩), below_set6 Hb2.out (Nat.le_refl _) _ _ _ _ _ _⟩
  rw [set6_size]
  exact ⟨by have := hq.1; simp at this; omega, hq.2⟩
set_option maxHeartbeats 1000000 in
set_option maxRecDepth 100000 in
theorem fromGo_map (r : Nat) (v : V) (w : World) (H : Calls Tryz.prog 35 #[.map (some r)] (w.alloc (.cells #[.int .i64 0, .int .i64 0, .string ⟨#[]⟩, .slice none 0 0, .slice none 0 0, .slice none 0 0] 26)) (FromP (w.alloc (.cells #[.int .i64 0, .int .i64 0, .string ⟨#[]⟩, .slice none 0 0, .slice none 0 0, .slice none 0 0] 26)) v)) :
    Calls Tryz.prog 25 #[.iface 53 (.map (some r))] w (FromP w v) := by
  have HH := Lib.hid H; clear H
  go_enter Tryz.func25, Tryz.ntmps25
  go_wp2_with fail
  refine HH.out.mono ?_
  rintro e w2 ⟨cs, rfl, hx, hb⟩
  have hat := (hb.block w.heap.size (by simp)).trans (at_alloc w _)
  have hb2 := below_next (below_alloc1 w _) hb
  obtain ⟨e0, e1, e2, e3, e4, e5⟩ := of_block6 hat
  obtain ⟨f0, f1, f2, f3, f4, f5⟩ := free_block6 hat
  obtain ⟨k, h, t, la', ka', va', nl, cl, nk, ck, nv, cv, hcs⟩ := hx.shape
  have hx2 := Lib.hid hx
  have Hat := Lib.hid hat; clear hat
  have Hb2 := Lib.hid hb2; clear hb2 hb hx
  subst hcs
  go_wp2_with fail
  refine bodyPost_ret (results_row_tmp (p := 2) (u := 3) (ty := 26) rfl _ _ w.heap.size 26 _ (0, 0) _ rfl (set_row6 Hat.out _ _ _ _ _ _) Tryz.underlying26 rfl (by kernel_rfl)) rfl
    ⟨_, rfl, hx2.out.turn (fun q hq => ⟨set6_other _ _ _ _ _ _ _ _ _ (by have := hq.1; simp at this; omega), ?_⟩), below_set6 Hb2.out (Nat.le_refl _) _ _ _ _ _ _⟩
  rw [set6_size]
  exact ⟨by have := hq.1; simp at this; omega, hq.2⟩
theorem Good.plain {k h : Int} {t : ByteArray} {l : List V} {ks : List ByteArray} {vs : List V} (g : Good (.mk k h t l ks vs)) :
    0 ≤ k ∧ k ≤ 6 ∧ (k ≠ 3 → h = 0) ∧ (k ≠ 4 → t = ⟨#[]⟩) ∧ (k ≠ 5 → l = []) ∧ (k ≠ 6 → ks = []) ∧ (k ≠ 6 → vs = []) ∧ ks.length = vs.length := shape_plain g.all.1
/-- Sizes within the reach. -/
inductive Small : V → Prop
  | mk {k h : Int} {t : ByteArray} {l : List V} {ks : List ByteArray} {vs : List V} (hl : l.length * 104 ≤ 140737488351232) (hks : ks.length * 16 ≤ 140737488351232) (hvs : vs.length * 104 ≤ 140737488351232)
    (sl : ∀ i (hi : i < l.length), Small l[i]) (sv : ∀ i (hi : i < vs.length), Small vs[i]) : Small (.mk k h t l ks vs)
theorem RepV.small {w : World} {B : Nat} {v : V} {cs : List Value} (h : RepV w B v cs) : Small v := by
  induction h with
  | mk C D hk hh ht hl hks hvs hs cl rl ck cv rv _ ihl ihv => exact .mk hl hks hvs ihl ihv
theorem fitsH_of {h : Int} (g : halfB h = true) (o : h.tmod 2 ≠ 0) : FitsH h := by
  obtain ⟨h1, h2, h3⟩ := half_bounds g
  exact ⟨h1, h2, fun _ => h3 o⟩
set_option maxHeartbeats 1000000 in
theorem fromGo_any {v : V} (g : Good v) : ∀ (_ : Small v) (w0 : World) (B : Nat) (S : Nat → Prop) (x : Value), RepJ w0 S (toJ v) x → (∀ k, S k → k < B) → FromOK w0 B v x := by
  induction g with
  | @mk k h t l ks vs shape half valid list rise vkeys vals ihl ihv =>
  intro sm w0 B S x hx hS w hbel hB
  have g0 : Good (.mk k h t l ks vs) := .mk shape half valid list rise vkeys vals
  obtain ⟨p1, p2, p3, p4, p5, p6, p7, p8⟩ := g0.plain
  cases sm with
  | mk hl hks hvs sl sv =>
  unfold toJ at hx
  rcases (show k = 0 ∨ k = 1 ∨ k = 2 ∨ k = 3 ∨ k = 4 ∨ k = 5 ∨ k = 6 by omega) with rfl | rfl | rfl | rfl | rfl | rfl | rfl
  · rw [p3 (by decide), p4 (by decide), p5 (by decide), p6 (by decide), p7 (by decide)]
    simp only [if_true] at hx
    cases hx
    exact fromGo_null w
  · rw [p3 (by decide), p4 (by decide), p5 (by decide), p6 (by decide), p7 (by decide)]
    simp only [show ¬ ((1 : Int) = 0) by decide, if_false, if_true] at hx
    cases hx
    exact fromGo_bool false w
  · rw [p3 (by decide), p4 (by decide), p5 (by decide), p6 (by decide), p7 (by decide)]
    simp only [show ¬ ((2 : Int) = 0) by decide, show ¬ ((2 : Int) = 1) by decide, if_false, if_true] at hx
    cases hx
    exact fromGo_bool true w
  · rw [p4 (by decide), p5 (by decide), p6 (by decide), p7 (by decide)]
    simp only [show ¬ ((3 : Int) = 0) by decide, show ¬ ((3 : Int) = 1) by decide, show ¬ ((3 : Int) = 2) by decide, if_false, if_true] at hx
    obtain ⟨h1, h2, h3⟩ := half_bounds half
    by_cases o : h.tmod 2 = 0
    · rw [if_pos o] at hx
      cases hx
      have e : 2 * h.tdiv 2 = h := by have := Int.mul_tdiv_add_tmod h 2; omega
      have := fromGo_small (h.tdiv 2) w (by omega) (by omega)
      rw [e] at this
      exact this
    · rw [if_neg o] at hx
      cases hx
      rw [halfBits_hb (h3 o).1 (h3 o).2 (by rintro rfl; exact o rfl)]
      exact fromGo_half (fitsH_of half o) w
  · rw [p3 (by decide), p5 (by decide), p6 (by decide), p7 (by decide)]
    simp only [show ¬ ((4 : Int) = 0) by decide, show ¬ ((4 : Int) = 1) by decide, show ¬ ((4 : Int) = 2) by decide, show ¬ ((4 : Int) = 3) by decide, if_false, if_true] at hx
    cases hx
    exact fromGo_str t (by assumption) w
  · rw [p3 (by decide), p4 (by decide), p6 (by decide), p7 (by decide)]
    simp only [show ¬ ((5 : Int) = 0) by decide, show ¬ ((5 : Int) = 1) by decide, show ¬ ((5 : Int) = 2) by decide, show ¬ ((5 : Int) = 3) by decide, show ¬ ((5 : Int) = 4) by decide, if_false, if_true] at hx
    generalize hm : toJL l = m at hx
    have hml : m.length = l.length := by rw [← hm]; exact toJL_len l
    cases hx with
    | @arr _ _ a c f b o N F hlm hc ca own sub dis ra =>
    rw [hml]
    refine fromGo_list _ _ _ _ w (listFrom_of w0 B l a c f b o N hl (fun h0 => ?_) (fun i hi => ?_) _ (hbel.trans ((below_alloc1 w _).mono hB)) (by simp; omega))
    · obtain ⟨e1, e2, e3, e4⟩ := ca (by omega)
      exact ⟨e1, hS b e2, e3, by omega⟩
    · refine ihl i hi (sl i hi) w0 B (F i) _ ?_ (fun q hq => hS q (sub i q (by omega) hq))
      have := ra i (by omega)
      subst hm
      rw [toJL_get l i hi] at this
      exact this
  · rw [p3 (by decide), p4 (by decide), p5 (by decide)]
    simp only [show ¬ ((6 : Int) = 0) by decide, show ¬ ((6 : Int) = 1) by decide, show ¬ ((6 : Int) = 2) by decide, show ¬ ((6 : Int) = 3) by decide, show ¬ ((6 : Int) = 4) by decide, show ¬ ((6 : Int) = 5) by decide, if_false] at hx
    generalize hm : toJM ks vs = m at hx
    have hml : m.length = ks.length := by rw [← hm]; exact toJM_len ks vs p8
    cases hx with
    | @obj _ _ r E F hr hmm hs own sub dis rm =>
    refine fromGo_map _ _ w (mapFrom_of w0 B ks rise vs r E (hS r hr) (by rw [hm]; exact hmm) p8 hks hvs (fun s hs' => ?_) (fun i hi => ?_) _ (hbel.trans ((below_alloc1 w _).mono hB)) (by simp; omega))
    · obtain ⟨i, hi, rfl⟩ := List.mem_iff_getElem.1 hs'
      have := hs _ (List.getElem_mem (show i < m.length by omega))
      subst hm
      rw [toJM_get ks vs p8 i hi] at this
      exact this
    · refine ihv i hi (sv i hi) w0 B (F i) _ ?_ (fun q hq => hS q (sub i q (by omega) hq))
      have := rm i (by omega)
      subst hm
      rw [toJM_get ks vs p8 i (by omega)] at this
      exact this
end Go.Proofs.YtjlkoekfcdpnaaaGreatDoor

namespace Go.Proofs.YtjlkoekfcdpnaaaGreatDoor
open Go Go.RowKit Go.Maps Go.Deep Go.WideMaps
theorem toJ_num (n : Nat) : toJ (numV n) = .int n := by
  unfold numV
  have e : (2 * (n : Int)).tmod 2 = 0 := by simp
  rw [toJ_3i _ _ _ _ e]
  simp
theorem toJ_str (s : ByteArray) : toJ (strV s) = .str s := toJ_4 _ _ _ _ _
/-- A tree of keys and places is a path. -/
theorem stps_rep {w : World} {S : Nat → Prop} {s : List Stp} {v : Value} (h : RepJ w S (.arr (toJL (s.map Stp.v))) v) (hS : ∀ k, S k → k < w.heap.size) : ∃ pa pn pc, v = .iface 50 (.slice pa pn pc) ∧ StpsAt w (.slice pa pn pc) s := by
  obtain ⟨a, c, t, rfl, hj, _, hc, ⟨hcb, _⟩, hcel, hx, _⟩ := arr_open h
  have hlen : s.length = t.length := by
    have := congrArg List.length hj
    simpa [toJL_eq] using this
  refine ⟨a, t.length, c, rfl, a, c, by rw [hlen], by omega, by unfold capMax at hcb; omega, fun h0 => ?_⟩
  obtain ⟨b, o, e, hb, hce, _⟩ := hcel (by omega)
  refine ⟨b, o, e, hS _ hb, fun i hi => ?_⟩
  have hit : i < t.length := by omega
  rw [hce i hit]
  have hr := (hx _ (List.getElem_mem hit)).2
  have ej : t[i].j = toJ (s[i]).v := by
    have h1 : (t.map (·.j))[i]? = some t[i].j := by simp [hit]
    rw [← hj, toJL_eq] at h1
    simpa [hi] using h1.symm
  rw [ej] at hr
  generalize t[i].v = x at *
  cases hs : s[i] with
  | key k =>
    rw [hs, show Stp.v (.key k) = strV k from rfl, toJ_str] at hr
    cases hr
    rfl
  | idx n =>
    rw [hs, show Stp.v (.idx n) = numV n from rfl, toJ_num] at hr
    cases hr
    rfl
theorem toJ_slim {v : V} (g : Good v) (s : Small v) : Slim (toJ v) := by
  induction g with
  | @mk k h t l ks vs shape half valid list rise vkeys vals ihl ihv =>
    have gl : ks.length = vs.length ∧ 0 ≤ k ∧ k ≤ 6 := by
      simp only [shapeB, Bool.and_eq_true, decide_eq_true_eq, beq_iff_eq] at shape
      exact ⟨shape.2, shape.1.1.1.1.1.1, shape.1.1.1.1.1.2⟩
    cases s with
    | mk hl hks hvs sl sv =>
    have hc : k = 0 ∨ k = 1 ∨ k = 2 ∨ k = 3 ∨ k = 4 ∨ k = 5 ∨ k = 6 := by omega
    rcases hc with rfl | rfl | rfl | rfl | rfl | rfl | rfl
    · rw [toJ_0]; exact .null
    · rw [toJ_1]; exact .bool _
    · rw [toJ_2]; exact .bool _
    · by_cases e : h.tmod 2 = 0
      · rw [toJ_3i _ _ _ _ e]; exact .int _
      · rw [toJ_3f _ _ _ _ e]; exact .flt _
    · rw [toJ_4]; exact .str _
    · rw [toJ_5]
      refine .arr (by rw [toJL_len]; omega) fun x hx => ?_
      rw [toJL_eq] at hx
      obtain ⟨y, hy, rfl⟩ := List.mem_map.1 hx
      obtain ⟨i, hi, rfl⟩ := List.mem_iff_getElem.1 hy
      exact ihl i hi (sl i hi)
    · rw [toJ_6]
      refine .obj (by rw [toJM_len _ _ gl.1]; omega) fun p hp => ?_
      rw [toJM_eq] at hp
      have := (List.of_mem_zip hp).2
      obtain ⟨y, hy, e⟩ := List.mem_map.1 this
      rw [← e]
      obtain ⟨i, hi, rfl⟩ := List.mem_iff_getElem.1 hy
      exact ihv i hi (sv i hi)
end Go.Proofs.YtjlkoekfcdpnaaaGreatDoor

namespace Go.Proofs.YtjlkoekfcdpnaaaGreatDoor
open Go Go.RowKit
theorem rep_tame {w : World} {B : Nat} {v : V} {cs : List Value} (h : RepV w B v cs) : Tame v := by
  induction h with
  | mk C D hk hh ht hl hks hvs hs cl rl ck cv rv _ ihl ihv => exact .mk ht hs ihl ihv
theorem small_parts {k h : Int} {t : ByteArray} {l : List V} {ks : List ByteArray} {vs : List V} (g : Small (.mk k h t l ks vs)) : l.length * 104 ≤ 140737488351232 ∧ ks.length * 16 ≤ 140737488351232 ∧ vs.length * 104 ≤ 140737488351232 ∧ (∀ x ∈ l, Small x) ∧ ∀ x ∈ vs, Small x := by
  cases g with
  | mk hl hks hvs sl sv =>
    refine ⟨hl, hks, hvs, fun x hx => ?_, fun x hx => ?_⟩
    · obtain ⟨i, hi, rfl⟩ := List.mem_iff_getElem.1 hx
      exact sl i hi
    · obtain ⟨i, hi, rfl⟩ := List.mem_iff_getElem.1 hx
      exact sv i hi
mutual
theorem rest_small : ∀ (v r : V), Rest v r → Small v → Small r
  | .mk k h t l ks vs, .mk k' h' t' l' ks' vs', hr, g => by
    obtain ⟨n1, n2, n3, gl, gv⟩ := small_parts g
    cases hr with
    | mk hl hm =>
      have g1 := restL_small l l' hl gl
      have g2 := restM_small ks vs ks' vs' hm gv
      have m1 := hl.len
      obtain ⟨m2, m3, m4⟩ := hm.len
      exact .mk (by omega) (by omega) (by omega) (fun i hi => g1 _ (List.getElem_mem hi)) (fun i hi => g2 _ (List.getElem_mem hi))
termination_by structural v => v
theorem restL_small : ∀ (l l' : List V), RestL l l' → (∀ x ∈ l, Small x) → ∀ x ∈ l', Small x
  | [], l', h, _, x, hx => by
    rw [restL_nil h] at hx
    cases hx
  | v :: l, l', h, g, x, hx => by
    have gl : ∀ x ∈ l, Small x := fun x hx => g x (List.mem_cons_of_mem _ hx)
    cases h with
    | drop h => exact restL_small l l' h gl x hx
    | @keep _ v' _ l2 hv h =>
      rcases List.mem_cons.1 hx with rfl | hx
      · exact rest_small v x hv (g v (List.mem_cons_self ..))
      · exact restL_small l l2 h gl x hx
termination_by structural l => l
theorem restM_small : ∀ (ks : List ByteArray) (vs : List V) (ks' : List ByteArray) (vs' : List V), RestM ks vs ks' vs' → (∀ x ∈ vs, Small x) → ∀ x ∈ vs', Small x
  | ks, [], ks', vs', h, _, x, hx => by
    cases h
    cases hx
  | ks, v :: vs, ks', vs', h, g, x, hx => by
    have gl : ∀ x ∈ vs, Small x := fun x hx => g x (List.mem_cons_of_mem _ hx)
    cases h with
    | @drop k _ ks _ _ _ h => exact restM_small ks vs ks' vs' h gl x hx
    | @keep k _ v' ks ks2 _ vs2 hv h =>
      rcases List.mem_cons.1 hx with rfl | hx
      · exact rest_small v x hv (g v (List.mem_cons_self ..))
      · exact restM_small ks vs ks2 vs2 h gl x hx
termination_by structural _ vs => vs
end


end Go.Proofs.YtjlkoekfcdpnaaaGreatDoor

namespace Go.Proofs.YtjlkoekfcdpnaaaGreatDoor
open Go Go.RowKit Go.Maps Go.Deep Go.WideMaps
attribute [local go_sem] assert_sl assert_sl_nil
/-- Holes at all these paths, one behind the other. -/
def delJ : J → List (List Stp) → Option J
  | j, [] => some j
  | j, s :: r => match updJ j s .hole with
    | some j' => delJ j' r
    | none => none
/-- A path that leads below v. -/
def Leads (v : V) (s : List Stp) : Prop := s ≠ [] ∧ (∀ x ∈ s, x.small) ∧ ∃ y, WayTo v (s.map Stp.v) y
def SinceS (S : Nat → Prop) (w wr : World) (k : Nat) : Prop := S k ∨ (w.heap.size ≤ k ∧ k < wr.heap.size)
def pathV (s : List Stp) : V := .mk 5 0 ⟨#[]⟩ (s.map Stp.v) [] []
end Go.Proofs.YtjlkoekfcdpnaaaGreatDoor
