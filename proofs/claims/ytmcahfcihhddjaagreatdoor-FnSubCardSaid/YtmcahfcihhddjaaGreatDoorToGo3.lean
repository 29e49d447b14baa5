/- Contract of impl.toGo. -/
import Derived.Test.YtmcahfcihhddjaaGreatDoorToGo2
import Derived.Test.YtmcahfcihhddjaaGreatDoorIeee
namespace Go.Proofs.YtmcahfcihhddjaaGreatDoor
open Go Go.RowKit Go.Maps Go.Deep Go.WideMaps

theorem Good.parts {k h : Int} {t : ByteArray} {l : List V} {ks : List ByteArray} {vs : List V} (g : Good (.mk k h t l ks vs)) :
    shapeB k h t l.length ks.length vs.length = true ∧ halfB h = true ∧ (∀ i (hi : i < l.length), Good l[i]) ∧ (∀ i (hi : i + 1 < ks.length), Op.bytesLess ks[i].toList ks[i + 1].toList = true) ∧ (∀ i (hi : i < vs.length), Good vs[i]) := by
  cases g with
  | mk a b c d e f g => exact ⟨a, b, d, e, g⟩

set_option maxHeartbeats 4000000 in
set_option maxRecDepth 100000 in
theorem toGo_any (w0 : World) (B : Nat) (v : V) (cs : List Value) (hv : RepV w0 B v cs) : Good v → ToGoOK w0 B v cs := by
  induction hv with
  | @mk k hf t l ks vs la ka va lc kc vc C D hk hh ht hl hks hvs hs cl rl ck cv rv ihl ihv =>
  intro g
  obtain ⟨hshape, hhalf, gl, grise, gv⟩ := g.parts
  simp only [shapeB, Bool.and_eq_true, decide_eq_true_eq, Bool.or_eq_true, beq_iff_eq] at hshape
  obtain ⟨⟨⟨⟨⟨⟨hk0, hk6⟩, s1⟩, s2⟩, s3⟩, s4⟩, hlen⟩ := hshape
  intro w hbel hB
  have L := list_of w0 B l la lc C hl cl rl (fun i hi => ihl i hi (gl i hi))
  have M := map_of w0 B k hf t l ks vs la ka va lc kc vc D hks hs grise hlen ck cv rv (fun i hi => ihv i hi (gv i hi))
  have hL := L (w.alloc (.cells #[.int .i64 k, .int .i64 hf, .string t, .slice la l.length lc, .slice ka ks.length kc, .slice va vs.length vc] 26)) (hbel.trans ((below_alloc1 w _).mono hB)) (by simp; omega)
  have hM := M (w.alloc (.cells #[.int .i64 k, .int .i64 hf, .string t, .slice la l.length lc, .slice ka ks.length kc, .slice va vs.length vc] 26)) (hbel.trans ((below_alloc1 w _).mono hB)) (by simp; omega)
  have HL := Lib.hid hL
  have HM := Lib.hid hM
  have hb1 := below_alloc1 w (.cells #[.int .i64 k, .int .i64 hf, .string t, .slice la l.length lc, .slice ka ks.length kc, .slice va vs.length vc] 26)
  clear hL hM L M ihl ihv cl ck cv rl rv gl gv grise hs g s1 s2 s3 s4 hlen hbel
  rcases (show k = 0 ∨ k = 1 ∨ k = 2 ∨ k = 3 ∨ k = 4 ∨ k = 5 ∨ k = 6 by omega) with rfl | rfl | rfl | rfl | rfl | rfl | rfl
  all_goals go_enter Tryz.func22, Tryz.ntmps22
  · go_wp2_with fail
    refine bodyPost_ret (results_tmp2 rfl _ _ _) rfl ⟨_, rfl, ?_, hb1⟩
    simp only [toJ, if_true]; exact .null _
  · go_wp2_with fail
    refine bodyPost_ret (results_tmp2 rfl _ _ _) rfl ⟨_, rfl, ?_, hb1⟩
    simp [toJ]; exact .bool _ _
  · go_wp2_with fail
    refine bodyPost_ret (results_tmp2 rfl _ _ _) rfl ⟨_, rfl, ?_, hb1⟩
    simp [toJ]; exact .bool _ _
  · by_cases he : hf.tmod 2 = 0
    · have He := Lib.hid he
      go_wp2_with fail
      refine bodyPost_ret (results_tmp2 rfl _ _ _) rfl ⟨_, rfl, ?_, hb1⟩
      simp [toJ, He.out]; exact .int _ _ (by have := Int.mul_tdiv_add_tmod hf 2; have := He.out; omega)
    · have He := Lib.hid he
      have hd : FloatKind.f64.format.div (FloatKind.f64.nearest hf) 4611686018427387904 = some (halfBits hf) := by
        simp only [halfB, Bool.and_eq_true, decide_eq_true_eq, Bool.or_eq_true, beq_iff_eq] at hhalf
        obtain ⟨r, hr⟩ := half_some hf (by omega) (by omega) (by intro e; rw [e] at he; exact he rfl)
        rw [halfBits, hr]; rfl
      have hq : ∀ w : World, (binOp .quo 63 (.float .f64 (floatOfInt .f64 hf)) (.float .f64 4611686018427387904)).run Tryz.prog w = .ok (.float .f64 (halfBits hf)) w := fun w => run_float_arith w .quo _ .f64 _ _ _ hd
      clear hd hhalf
      go_wp2_with fail
      refine bodyPost_ret (results_tmp2 rfl _ _ _) rfl ⟨_, rfl, ?_, hb1⟩
      simp [toJ, He.out]; exact .flt _ _
  · go_wp2_with fail
    refine bodyPost_ret (results_tmp2 rfl _ _ _) rfl ⟨_, rfl, ?_, hb1⟩
    simp [toJ]; exact .str _ _ ht
  · go_wp2_with fail
    refine HL.out.mono ?_
    rintro e w2 ⟨a, c, rfl, hr, hb2⟩
    go_wp2_with fail
    refine bodyPost_ret (results_tmp2 rfl _ _ _) rfl ⟨_, rfl, ?_, below_next hb1 hb2⟩
    simp [toJ]; exact hr.mono (fun k hk => ⟨by have := hk.1; simp at this; omega, hk.2⟩)
  · go_wp2_with fail
    refine HM.out.mono ?_
    rintro e w2 ⟨r, rfl, hr, hb2⟩
    go_wp2_with fail
    refine bodyPost_ret (results_tmp2 rfl _ _ _) rfl ⟨_, rfl, ?_, below_next hb1 hb2⟩
    simp [toJ]; exact hr.mono (fun k hk => ⟨by have := hk.1; simp at this; omega, hk.2⟩)

end Go.Proofs.YtmcahfcihhddjaaGreatDoor
