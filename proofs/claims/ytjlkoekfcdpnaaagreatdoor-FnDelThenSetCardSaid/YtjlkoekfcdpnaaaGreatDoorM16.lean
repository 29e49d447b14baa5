/- Contract of gojq.ZzGetPath. -/
/- Contracts of gojq.setpath, funcSetpath, ZzSetPath. -/
/- Contract of impl.GetPath. -/
/- Contract of impl.SetPath. -/
/- Rows of impl.Value of a call's own whose elements lie in memory that came in. No function is walked here. -/
/- Contracts of spec.Num, Str, Keys, Each. -/
import Derived.Test.YtjlkoekfcdpnaaaGreatDoorM15
import Derived.Test.YtjlkoekfcdpnaaaGreatDoorM14
import Derived.Test.YtjlkoekfcdpnaaaGreatDoorM07
import Derived.Test.YtjlkoekfcdpnaaaGreatDoorM13
import Derived.Test.YtjlkoekfcdpnaaaGreatDoorM11
import Derived.Test.YtjlkoekfcdpnaaaGreatDoorM01
import Derived.Test.YtjlkoekfcdpnaaaGreatDoorM09
import Derived.WalkLawsBesides
namespace Go.Proofs.YtjlkoekfcdpnaaaGreatDoor
open Go Go.RowKit Go.Maps Go.Deep
attribute [local go_sem] assert_jsonNumber assert_jsonNumber_nil assert_int assert_int_nil assert_float64 assert_float64_nil assert_pbigInt assert_pbigInt_nil assert_string assert_string_nil assert_sl assert_sl_nil assert_m assert_m_nil assert_bool assert_bool_nil
theorem ErrV.is {v : Value} (h : ErrV v) : ∀ w : World, (Instr.typeAssert v 20 57 true).run Tryz.prog w = .ok (.tuple #[v, .bool true]) w := by
  intro w
  cases h
  case func1TypeError => exact is_func1TypeError _ w
  case func1WrapError => exact is_func1WrapError _ w
  case func0TypeError => exact is_func0TypeError _ w
  case func2WrapError => exact is_func2WrapError _ w
  case expectedObjectError => exact is_expectedObjectError _ w
  case expectedArrayError => exact is_expectedArrayError _ w
  case arrayIndexNotNumberError => exact is_arrayIndexNotNumberError _ w
  case objectKeyNotStringError => exact is_objectKeyNotStringError _ w
  case expectedStartEndError => exact is_expectedStartEndError _ w
  case stringIndexNotNumberError => exact is_stringIndexNotNumberError _ w
  case arrayIndexNegativeError => exact is_arrayIndexNegativeError _ w
  case arrayIndexTooLargeError => exact is_arrayIndexTooLargeError _ w
def GpLoop (w : World) (B : Nat) (v : V) (p : List V) (x i : Value) (wr : World) : Prop :=
  ∃ (n : Nat) (cur : V) (u : Value), n ≤ p.length ∧ i = .int .i64 (n : Nat) ∧ x = u ∧ pathA v (p.take n) = .fine cur ∧ RepJ wr (· < B) (toJ cur) u ∧ Below w.heap.size w wr
/-- An answer of gojq. -/
theorem step_scalar {cur k : V} (h : cur.kind = 1 ∨ cur.kind = 2 ∨ cur.kind = 3 ∨ cur.kind = 4) (hs : stepA cur k ≠ .silent) : stepA cur k = .raises := by
  obtain ⟨kc, hc, tc, lc, kc', vc⟩ := cur
  obtain ⟨kk, hf, t, l, ks, vs⟩ := k
  simp only [V.kind] at h
  rw [stepA_mk, indexA_mk] at hs ⊢
  by_cases q6 : kk = 6
  · subst q6
    rcases h with rfl | rfl | rfl | rfl
    · simp [cutA, V.kind]
    · simp [cutA, V.kind]
    · simp [cutA, V.kind]
    · simp at hs
  · by_cases q3 : kk = 3
    · subst q3
      rcases h with rfl | rfl | rfl | rfl
      · simp
      · simp
      · simp
      · simp at hs
    · rcases h with rfl | rfl | rfl | rfl <;> simp [q6, q3]
theorem rep_shape {w : World} {S : Nat → Prop} {v : V} {u : Value} (g : Good v) (h : RepJ w S (toJ v) u) :
    (v.kind = 0 ∧ u = .nilIface) ∨ (v.kind = 5 ∧ ∃ s, u = .iface 50 s) ∨ (v.kind = 6 ∧ ∃ m, u = .iface 53 m) ∨ ((v.kind = 1 ∨ v.kind = 2 ∨ v.kind = 3 ∨ v.kind = 4) ∧ ∃ t y, u = .iface t y ∧ t ≠ 50 ∧ t ≠ 53) := by
  have gl := g.lens
  obtain ⟨k, hf, t, l, ks, vs⟩ := v
  simp only [V.kind] at gl ⊢
  have hc : k = 0 ∨ k = 1 ∨ k = 2 ∨ k = 3 ∨ k = 4 ∨ k = 5 ∨ k = 6 := by omega
  rcases hc with rfl | rfl | rfl | rfl | rfl | rfl | rfl
  · rw [toJ_0] at h
    cases h
    exact .inl ⟨rfl, rfl⟩
  · rw [toJ_1] at h
    cases h
    exact .inr (.inr (.inr ⟨.inl rfl, _, _, rfl, by decide, by decide⟩))
  · rw [toJ_2] at h
    cases h
    exact .inr (.inr (.inr ⟨.inr (.inl rfl), _, _, rfl, by decide, by decide⟩))
  · by_cases e : hf.tmod 2 = 0
    · rw [toJ_3i _ _ _ _ e] at h
      cases h
      exact .inr (.inr (.inr ⟨.inr (.inr (.inl rfl)), _, _, rfl, by decide, by decide⟩))
    · rw [toJ_3f _ _ _ _ e] at h
      cases h
      exact .inr (.inr (.inr ⟨.inr (.inr (.inl rfl)), _, _, rfl, by decide, by decide⟩))
  · rw [toJ_4] at h
    cases h
    exact .inr (.inr (.inr ⟨.inr (.inr (.inr rfl)), _, _, rfl, by decide, by decide⟩))
  · rw [toJ_5] at h
    cases h
    exact .inr (.inl ⟨rfl, _, rfl⟩)
  · rw [toJ_6] at h
    cases h
    exact .inr (.inr (.inl ⟨rfl, _, rfl⟩))
set_option maxHeartbeats 16000000 in
set_option maxRecDepth 100000 in
theorem getpath_any {w0 : World} {B : Nat} {v : V} {p : List V} (gv : Good v) (gp : ∀ x ∈ p, Good x) {S S' : Nat → Prop} {u y : Value} (hu : RepJ w0 S (toJ v) u) (hS : ∀ q, S q → q < B) (hy : RepJ w0 S' (.arr (toJL p)) y) (hS' : ∀ q, S' q → q < B) (hns : pathA v p ≠ .silent)
    (w : World) (hbel : Below B w0 w) (hB : B ≤ w.heap.size) : Calls Tryz.prog 29 #[u, y] w (Ret (JR w (pathA v p))) := by
  have hu := (hu.under hbel hS).mono (S' := (· < B)) hS
  have hy := (hy.under hbel hS').mono (S' := (· < B)) hS'
  clear hS hS' hbel
  cases hy with
  | @arr _ _ a c f b o N F hl hc ca own sub dis ra =>
  rw [toJL_len] at hl hc ca ⊢
  have hra : ∀ i (hi : i < p.length), RepJ w (· < B) (toJ p[i]) (f (o + i)) := fun i hi => by
    have := ra i (by rw [toJL_len]; exact hi)
    rw [toJL_get p i hi] at this
    exact this.mono (fun q hq => sub i q (by rw [toJL_len]; exact hi) hq)
  have Hra := Lib.hid hra
  have Hca := Lib.hid fun h0 => (ca h0)
  have Hstart := Lib.hid (show GpLoop w B v p u (.int .i64 0) w from ⟨0, v, u, Nat.zero_le _, rfl, rfl, by rw [List.take_zero]; rfl, hu, Below.refl _ _⟩)
  have fu := hu.form
  clear ra own sub dis ca hra hu
  rcases fu with rfl | ⟨tu, u, rfl⟩
  all_goals
    go_enter Tryz.func29, Tryz.ntmps29
    go_wp2_with fail
    go_loopw [0, 27] (fun x i wr => GpLoop w B v p x i wr) (fun _ i _ => p.length - (intOf i).toNat)
    case atStart => exact Hstart.out
    case round =>
      clear Hstart
      obtain ⟨n, cur, uu, hn, rfl, rfl, hpath, hcur, hb⟩ := hrel
      by_cases hn' : n < p.length
      · obtain ⟨rfl, hbS, hrow, hN⟩ := Hca.out (by omega)
        have hx := (Hra.out n hn').under hb (fun q hq => by omega)
        have y1 := (hb.cell (p := ⟨b, o + n, none⟩) (by show b < w.heap.size; omega)).trans (hrow.cell (by omega))
        have Hend := Lib.hid (pathA_end hn' hpath)
        have Htake := Lib.hid (pathA_take hn' hpath)
        have Hs := Lib.hid (show stepA cur p[n] ≠ .silent from fun e => hns (by rw [Hend.out (fun x h => by rw [e] at h; cases h), e]))
        have fx := hx.form
        have gcur := pathA_good gv hpath
        have u1 : (n : Int) < (p.length : Int) := by omega
        have u2 : (0 : Int) ≤ (n : Int) := by omega
        have IX := Lib.hid fun hk => index2_any gcur (gp _ (List.getElem_mem hn')) hcur (fun q hq => hq) hx (fun q hq => hq) hk Hs.out wr (Below.refl _ _) (by have := hb.size; omega)
        have shp := rep_shape gcur hcur
        clear hx hcur hrow hN hbS hpath gcur
        generalize f (o + n) = xx at *
        rcases shp with ⟨k0, rfl⟩ | ⟨k5, s, rfl⟩ | ⟨k6, m, rfl⟩ | ⟨ks, tt, yy, rfl, n1, n2⟩
        · have IX := Lib.hid (IX.out (.inl k0))
          clear k0
          rcases fx with rfl | ⟨tx, yx, rfl⟩
          · skip
            go_wp2_with fail
            refine IX.out.mono ?_
            rintro e w1 ⟨r, rfl, hb1, hfine, hraise⟩
            have hbw : Below w.heap.size w w1 := hb.trans (hb1.mono hb.size)
            have fr : r = .nilIface ∨ ∃ t y, r = .iface t y := by
              cases hst : stepA cur p[n] with
              | fine y => exact (hfine y hst).form
              | raises => obtain ⟨t, a, e⟩ := (hraise hst).form; exact .inr ⟨_, _, e⟩
              | silent => exact absurd hst Hs.out
            cases hst : stepA cur p[n] with
            | fine y =>
              have hj := hfine y hst
              have NE := hj.noErr
              unfold NoErr at NE
              have Hn := Lib.hid (show GpLoop w B v p r (.int .i64 ((n : Int) + 1)) w1 from ⟨n + 1, y, r, hn', by go_num, rfl, by rw [Htake.out, hst], hj, hbw⟩)
              clear hfine hraise hj hbw hb1 IX Hs hst Htake Hend
              rcases fr with rfl | ⟨tr, yr, rfl⟩
              all_goals
                go_wp2_with fail
                go_roundw
                case rel => exact Hn.out
                case measure => simp [intOf]; omega
            | raises =>
              have hv := hraise hst
              have IS := hv.is
              have Hf := Lib.hid (Hend.out (fun x e => by rw [hst] at e; cases e))
              rw [hst] at Hf
              have Hbw := Lib.hid hbw
              clear hfine hraise hv hbw hb1 IX Hs hst Htake Hend
              rcases fr with rfl | ⟨tr, yr, rfl⟩
              all_goals
                go_wp2_with fail
                go_ret
                exact ⟨_, rfl, jr_err Hf.out (.func1WrapError _) (keep_alloc Hbw.out Hbw.out.size _)⟩
            | silent => exact absurd hst Hs.out
          · skip
            go_wp2_with fail
            refine IX.out.mono ?_
            rintro e w1 ⟨r, rfl, hb1, hfine, hraise⟩
            have hbw : Below w.heap.size w w1 := hb.trans (hb1.mono hb.size)
            have fr : r = .nilIface ∨ ∃ t y, r = .iface t y := by
              cases hst : stepA cur p[n] with
              | fine y => exact (hfine y hst).form
              | raises => obtain ⟨t, a, e⟩ := (hraise hst).form; exact .inr ⟨_, _, e⟩
              | silent => exact absurd hst Hs.out
            cases hst : stepA cur p[n] with
            | fine y =>
              have hj := hfine y hst
              have NE := hj.noErr
              unfold NoErr at NE
              have Hn := Lib.hid (show GpLoop w B v p r (.int .i64 ((n : Int) + 1)) w1 from ⟨n + 1, y, r, hn', by go_num, rfl, by rw [Htake.out, hst], hj, hbw⟩)
              clear hfine hraise hj hbw hb1 IX Hs hst Htake Hend
              rcases fr with rfl | ⟨tr, yr, rfl⟩
              all_goals
                go_wp2_with fail
                go_roundw
                case rel => exact Hn.out
                case measure => simp [intOf]; omega
            | raises =>
              have hv := hraise hst
              have IS := hv.is
              have Hf := Lib.hid (Hend.out (fun x e => by rw [hst] at e; cases e))
              rw [hst] at Hf
              have Hbw := Lib.hid hbw
              clear hfine hraise hv hbw hb1 IX Hs hst Htake Hend
              rcases fr with rfl | ⟨tr, yr, rfl⟩
              all_goals
                go_wp2_with fail
                go_ret
                exact ⟨_, rfl, jr_err Hf.out (.func1WrapError _) (keep_alloc Hbw.out Hbw.out.size _)⟩
            | silent => exact absurd hst Hs.out
        · have IX := Lib.hid (IX.out (.inr (.inl k5)))
          clear k5
          rcases fx with rfl | ⟨tx, yx, rfl⟩
          · skip
            go_wp2_with fail
            refine IX.out.mono ?_
            rintro e w1 ⟨r, rfl, hb1, hfine, hraise⟩
            have hbw : Below w.heap.size w w1 := hb.trans (hb1.mono hb.size)
            have fr : r = .nilIface ∨ ∃ t y, r = .iface t y := by
              cases hst : stepA cur p[n] with
              | fine y => exact (hfine y hst).form
              | raises => obtain ⟨t, a, e⟩ := (hraise hst).form; exact .inr ⟨_, _, e⟩
              | silent => exact absurd hst Hs.out
            cases hst : stepA cur p[n] with
            | fine y =>
              have hj := hfine y hst
              have NE := hj.noErr
              unfold NoErr at NE
              have Hn := Lib.hid (show GpLoop w B v p r (.int .i64 ((n : Int) + 1)) w1 from ⟨n + 1, y, r, hn', by go_num, rfl, by rw [Htake.out, hst], hj, hbw⟩)
              clear hfine hraise hj hbw hb1 IX Hs hst Htake Hend
              rcases fr with rfl | ⟨tr, yr, rfl⟩
              all_goals
                go_wp2_with fail
                go_roundw
                case rel => exact Hn.out
                case measure => simp [intOf]; omega
            | raises =>
              have hv := hraise hst
              have IS := hv.is
              have Hf := Lib.hid (Hend.out (fun x e => by rw [hst] at e; cases e))
              rw [hst] at Hf
              have Hbw := Lib.hid hbw
              clear hfine hraise hv hbw hb1 IX Hs hst Htake Hend
              rcases fr with rfl | ⟨tr, yr, rfl⟩
              all_goals
                go_wp2_with fail
                go_ret
                exact ⟨_, rfl, jr_err Hf.out (.func1WrapError _) (keep_alloc Hbw.out Hbw.out.size _)⟩
            | silent => exact absurd hst Hs.out
          · skip
            go_wp2_with fail
            refine IX.out.mono ?_
            rintro e w1 ⟨r, rfl, hb1, hfine, hraise⟩
            have hbw : Below w.heap.size w w1 := hb.trans (hb1.mono hb.size)
            have fr : r = .nilIface ∨ ∃ t y, r = .iface t y := by
              cases hst : stepA cur p[n] with
              | fine y => exact (hfine y hst).form
              | raises => obtain ⟨t, a, e⟩ := (hraise hst).form; exact .inr ⟨_, _, e⟩
              | silent => exact absurd hst Hs.out
            cases hst : stepA cur p[n] with
            | fine y =>
              have hj := hfine y hst
              have NE := hj.noErr
              unfold NoErr at NE
              have Hn := Lib.hid (show GpLoop w B v p r (.int .i64 ((n : Int) + 1)) w1 from ⟨n + 1, y, r, hn', by go_num, rfl, by rw [Htake.out, hst], hj, hbw⟩)
              clear hfine hraise hj hbw hb1 IX Hs hst Htake Hend
              rcases fr with rfl | ⟨tr, yr, rfl⟩
              all_goals
                go_wp2_with fail
                go_roundw
                case rel => exact Hn.out
                case measure => simp [intOf]; omega
            | raises =>
              have hv := hraise hst
              have IS := hv.is
              have Hf := Lib.hid (Hend.out (fun x e => by rw [hst] at e; cases e))
              rw [hst] at Hf
              have Hbw := Lib.hid hbw
              clear hfine hraise hv hbw hb1 IX Hs hst Htake Hend
              rcases fr with rfl | ⟨tr, yr, rfl⟩
              all_goals
                go_wp2_with fail
                go_ret
                exact ⟨_, rfl, jr_err Hf.out (.func1WrapError _) (keep_alloc Hbw.out Hbw.out.size _)⟩
            | silent => exact absurd hst Hs.out
        · have IX := Lib.hid (IX.out (.inr (.inr k6)))
          clear k6
          rcases fx with rfl | ⟨tx, yx, rfl⟩
          · skip
            go_wp2_with fail
            refine IX.out.mono ?_
            rintro e w1 ⟨r, rfl, hb1, hfine, hraise⟩
            have hbw : Below w.heap.size w w1 := hb.trans (hb1.mono hb.size)
            have fr : r = .nilIface ∨ ∃ t y, r = .iface t y := by
              cases hst : stepA cur p[n] with
              | fine y => exact (hfine y hst).form
              | raises => obtain ⟨t, a, e⟩ := (hraise hst).form; exact .inr ⟨_, _, e⟩
              | silent => exact absurd hst Hs.out
            cases hst : stepA cur p[n] with
            | fine y =>
              have hj := hfine y hst
              have NE := hj.noErr
              unfold NoErr at NE
              have Hn := Lib.hid (show GpLoop w B v p r (.int .i64 ((n : Int) + 1)) w1 from ⟨n + 1, y, r, hn', by go_num, rfl, by rw [Htake.out, hst], hj, hbw⟩)
              clear hfine hraise hj hbw hb1 IX Hs hst Htake Hend
              rcases fr with rfl | ⟨tr, yr, rfl⟩
              all_goals
                go_wp2_with fail
                go_roundw
                case rel => exact Hn.out
                case measure => simp [intOf]; omega
            | raises =>
              have hv := hraise hst
              have IS := hv.is
              have Hf := Lib.hid (Hend.out (fun x e => by rw [hst] at e; cases e))
              rw [hst] at Hf
              have Hbw := Lib.hid hbw
              clear hfine hraise hv hbw hb1 IX Hs hst Htake Hend
              rcases fr with rfl | ⟨tr, yr, rfl⟩
              all_goals
                go_wp2_with fail
                go_ret
                exact ⟨_, rfl, jr_err Hf.out (.func1WrapError _) (keep_alloc Hbw.out Hbw.out.size _)⟩
            | silent => exact absurd hst Hs.out
          · skip
            go_wp2_with fail
            refine IX.out.mono ?_
            rintro e w1 ⟨r, rfl, hb1, hfine, hraise⟩
            have hbw : Below w.heap.size w w1 := hb.trans (hb1.mono hb.size)
            have fr : r = .nilIface ∨ ∃ t y, r = .iface t y := by
              cases hst : stepA cur p[n] with
              | fine y => exact (hfine y hst).form
              | raises => obtain ⟨t, a, e⟩ := (hraise hst).form; exact .inr ⟨_, _, e⟩
              | silent => exact absurd hst Hs.out
            cases hst : stepA cur p[n] with
            | fine y =>
              have hj := hfine y hst
              have NE := hj.noErr
              unfold NoErr at NE
              have Hn := Lib.hid (show GpLoop w B v p r (.int .i64 ((n : Int) + 1)) w1 from ⟨n + 1, y, r, hn', by go_num, rfl, by rw [Htake.out, hst], hj, hbw⟩)
              clear hfine hraise hj hbw hb1 IX Hs hst Htake Hend
              rcases fr with rfl | ⟨tr, yr, rfl⟩
              all_goals
                go_wp2_with fail
                go_roundw
                case rel => exact Hn.out
                case measure => simp [intOf]; omega
            | raises =>
              have hv := hraise hst
              have IS := hv.is
              have Hf := Lib.hid (Hend.out (fun x e => by rw [hst] at e; cases e))
              rw [hst] at Hf
              have Hbw := Lib.hid hbw
              clear hfine hraise hv hbw hb1 IX Hs hst Htake Hend
              rcases fr with rfl | ⟨tr, yr, rfl⟩
              all_goals
                go_wp2_with fail
                go_ret
                exact ⟨_, rfl, jr_err Hf.out (.func1WrapError _) (keep_alloc Hbw.out Hbw.out.size _)⟩
            | silent => exact absurd hst Hs.out
        · have e := step_scalar ks Hs.out
          have Hf := Lib.hid (Hend.out (fun x h => by rw [e] at h; cases h))
          rw [e] at Hf
          have Hb := Lib.hid hb
          clear IX Hs Htake Hend e ks hb
          rcases fx with rfl | ⟨tx, yx, rfl⟩
          all_goals
            go_wp2_with fail
            go_ret
            exact ⟨_, rfl, jr_err Hf.out (.func1TypeError _) (keep_alloc Hb.out Hb.out.size _)⟩
      · have e : n = p.length := by omega
        rw [e, List.take_length] at hpath
        have fc := hcur.form
        have Hfin := Lib.hid (show JR w (pathA v p) _ wr from ⟨hb, fun y hy => by rw [hpath] at hy; cases hy; exact hcur.mono (fun q hq => by have := hb.size; omega), fun h => by rw [hpath] at h; cases h⟩)
        clear hcur hpath hb
        rcases fc with rfl | ⟨tc, yc, rfl⟩
        all_goals
          go_wp2_with fail
          go_ret
          exact ⟨_, rfl, Hfin.out⟩
set_option maxRecDepth 100000 in
theorem zzGetPath_any {w0 : World} {B : Nat} {v : V} {p : List V} (gv : Good v) (gp : ∀ x ∈ p, Good x) {S S' : Nat → Prop} {u y : Value} (hu : RepJ w0 S (toJ v) u) (hS : ∀ q, S q → q < B) (hy : RepJ w0 S' (.arr (toJL p)) y) (hS' : ∀ q, S' q → q < B) (hns : pathA v p ≠ .silent)
    (w : World) (hbel : Below B w0 w) (hB : B ≤ w.heap.size) : Calls Tryz.prog 21 #[u, y] w (Ret (JR w (pathA v p))) := by
  have H := Lib.hid (getpath_any gv gp hu hS hy hS' hns w hbel hB)
  have fu := hu.form
  have fy := hy.form
  clear hu hy hS hS' gv gp hns hbel
  generalize pathA v p = an at *
  rcases fu with rfl | ⟨tu, u, rfl⟩ <;> rcases fy with rfl | ⟨ty, y, rfl⟩
  all_goals
    go_enter Tryz.func21, Tryz.ntmps21
    go_wp2_with fail
    refine H.out.mono ?_
    rintro e w2 ⟨v, rfl, hv⟩
    have Hv := Lib.hid hv
    clear hv
    go_wp2_with fail
    go_ret
    exact ⟨_, rfl, Hv.out⟩
end Go.Proofs.YtjlkoekfcdpnaaaGreatDoor

namespace Go.Proofs.YtjlkoekfcdpnaaaGreatDoor
open Go Go.RowKit Go.Maps Go.Deep Go.WideMaps
attribute [local go_sem] assert_sl assert_sl_nil
def SetR (w : World) (S T : Nat → Prop) (o : Option J) (u : Value) (w' : World) : Prop := Below w.heap.size w w' ∧ (∀ z, o = some z → RepJ w' (NewS S T w w') z u) ∧ (o = none → ErrV u)
theorem SetR.form {w w' : World} {S T : Nat → Prop} {o : Option J} {u : Value} (h : SetR w S T o u w') : IsI u := by
  obtain ⟨_, h1, h2⟩ := h
  cases o with
  | some z => exact (h1 z rfl).form
  | none => obtain ⟨t, a, e⟩ := (h2 rfl).form; exact .inr ⟨_, _, e⟩
theorem setR_some {w w' : World} {S T : Nat → Prop} {o : Option J} {z : J} {u : Value} (ho : o = some z) (hb : Below w.heap.size w w') (h : RepJ w' (NewS S T w w') z u) : SetR w S T o u w' := by
  subst ho
  exact ⟨hb, fun z' e => by cases e; exact h, fun e => by cases e⟩
theorem setR_none {w w' : World} {S T : Nat → Prop} {o : Option J} {u : Value} (ho : o = none) (hb : Below w.heap.size w w') (h : ErrV u) : SetR w S T o u w' := by
  subst ho
  exact ⟨hb, fun z' e => (by cases e), fun _ => h⟩
set_option maxHeartbeats 2000000 in
set_option maxRecDepth 100000 in
theorem setpath_any {o : Option J} {x y : Value} {pa : Option Addr} {pn pc : Nat} {S T : Nat → Prop} {w : World} (fx : IsI x) (fy : IsI y) (H : Calls Tryz.prog 44 #[x, .slice pa pn pc, y, .map none] w (UpdR w S T o)) :
    Calls Tryz.prog 37 #[x, .iface 50 (.slice pa pn pc), y, .map none] w (Ret (SetR w S T o)) := by
  have HH := Lib.hid H
  clear H
  rcases fx with rfl | ⟨tx, x, rfl⟩ <;> rcases fy with rfl | ⟨ty, y, rfl⟩
  all_goals
    go_enter Tryz.func37, Tryz.ntmps37
    go_wp2_with fail
    refine HH.out.mono ?_
    rintro e w1 ⟨u, er, rfl, fu, fe, hb, hs, hn⟩
    cases ho : o with
    | none =>
      have he := hn ho
      obtain ⟨te, ae, rfl⟩ := he.form
      have Hb := Lib.hid hb
      clear hn hs fe he hb HH
      rcases fu with rfl | ⟨tu, u, rfl⟩
      all_goals
        go_wp2_with fail
        go_ret
        exact ⟨_, rfl, setR_none ho (keep_alloc Hb.out Hb.out.size _) (.func2WrapError _)⟩
    | some z =>
      obtain ⟨rfl, hr⟩ := hs z ho
      have Hr := Lib.hid hr
      have Hb := Lib.hid hb
      clear hn hs fe hr hb HH
      rcases fu with rfl | ⟨tu, u, rfl⟩
      all_goals
        go_wp2_with fail
        go_ret
        exact ⟨_, rfl, setR_some ho Hb.out Hr.out⟩
set_option maxHeartbeats 2000000 in
set_option maxRecDepth 100000 in
theorem zzSet_walk {R : Value → World → Prop} {x p y : Value} {w : World} (fx : IsI x) (fp : IsI p) (fy : IsI y) (H : Calls Tryz.prog 37 #[x, p, y, .map none] w (Ret R)) (hR : ∀ u w', R u w' → IsI u) : Calls Tryz.prog 19 #[x, p, y] w (Ret R) := by
  have F : Calls Tryz.prog 27 #[x, p, y] w (Ret R) := by
    have HH := Lib.hid H
    have HR := Lib.hid hR
    clear H hR
    rcases fx with rfl | ⟨tx, x, rfl⟩ <;> rcases fp with rfl | ⟨tp, p, rfl⟩ <;> rcases fy with rfl | ⟨ty, y, rfl⟩
    all_goals
      go_enter Tryz.func27, Tryz.ntmps27
      go_wp2_with fail
      refine HH.out.mono ?_
      rintro e w1 ⟨u, rfl, hr⟩
      have fu := HR.out u w1 hr
      have Hr := Lib.hid hr
      clear hr HH
      rcases fu with rfl | ⟨tu, u, rfl⟩
      all_goals
        go_wp2_with fail
        go_ret
        exact ⟨_, rfl, Hr.out⟩
  have HH := Lib.hid F
  have HR := Lib.hid hR
  clear H hR F
  rcases fx with rfl | ⟨tx, x, rfl⟩ <;> rcases fp with rfl | ⟨tp, p, rfl⟩ <;> rcases fy with rfl | ⟨ty, y, rfl⟩
  all_goals
    go_enter Tryz.func19, Tryz.ntmps19
    go_wp2_with fail
    refine HH.out.mono ?_
    rintro e w1 ⟨u, rfl, hr⟩
    have fu := HR.out u w1 hr
    have Hr := Lib.hid hr
    clear hr HH
    rcases fu with rfl | ⟨tu, u, rfl⟩
    all_goals
      go_wp2_with fail
      go_ret
      exact ⟨_, rfl, Hr.out⟩
/-- ZzSetPath at keys and places. -/
theorem zzSet_any {j n : J} {s : List Stp} (hs : ∀ x ∈ s, x.small) (hsl : Slim j) (hfi : Fine j s n) {S T U : Nat → Prop} {x p y : Value} {w : World} (hx : RepJ w S j x) (hp : RepJ w U (.arr (toJL (s.map Stp.v))) p) (hy : RepJ w T n y) (hd : ∀ k, S k → T k → False)
    (hS : ∀ k, S k → k < w.heap.size) (hU : ∀ k, U k → k < w.heap.size) (hT : ∀ k, T k → k < w.heap.size) : Calls Tryz.prog 19 #[x, p, y] w (Ret (SetR w S T (updJ j s n))) := by
  obtain ⟨pa, pn, pc, rfl, hst⟩ := stps_rep hp hU
  exact zzSet_walk hx.form (.inr ⟨_, _, rfl⟩) hy.form (setpath_any hx.form hy.form (update_any none n y s hs j x _ S T w hsl hfi hx hy hd hS hT hst)) fun u w' h => h.form
end Go.Proofs.YtjlkoekfcdpnaaaGreatDoor

namespace Go.Proofs.YtjlkoekfcdpnaaaGreatDoor
open Go Go.RowKit Go.Deep
set_option maxHeartbeats 1000000 in
set_option maxRecDepth 100000 in
theorem implGet_walk {w0 : World} {B : Nat} {a b : V} {ca cb : List Value} (ha : RepV w0 B a ca) (hb : RepV w0 B b cb) (an : Ans)
    (ta : ToGoOK w0 B a ca) (tb : ToGoOK w0 B b cb)
    (hz : ∀ w x y, RepJ w (fun k => k < w.heap.size) (toJ a) x → RepJ w (fun k => k < w.heap.size) (toJ b) y → Calls Tryz.prog 21 #[x, y] w (Ret (SubR w an)))
    (w : World) (hbel : Below B w0 w) (hB : B ≤ w.heap.size) : Calls Tryz.prog 13 #[.agg ca.toArray, .agg cb.toArray] w (ResQ w an) := by
  have Ta := Lib.hid ta; clear ta
  have Tb := Lib.hid tb; clear tb
  have Hz := Lib.hid hz; clear hz
  have Hbel := Lib.hid hbel; clear hbel
  obtain ⟨k, h, t, la, ka, va, nl, cl, nk, ck, nv, cv, rfl⟩ := ha.shape
  obtain ⟨k', h', t', la', ka', va', nl', cl', nk', ck', nv', cv', rfl⟩ := hb.shape
  clear ha hb
  go_enter Tryz.func13, Tryz.ntmps13
  go_wp2_with fail
  have h0 := at_alloc3 w (.cells #[.int .i64 k, .int .i64 h, .string t, .slice la nl cl, .slice ka nk ck, .slice va nv cv] 26)
    (.cells #[.int .i64 k', .int .i64 h', .string t', .slice la' nl' cl', .slice ka' nk' ck', .slice va' nv' cv'] 26)
    (.cells #[.int .i64 0, .int .i64 0, .string ⟨#[]⟩, .slice none 0 0, .slice none 0 0, .slice none 0 0, .int .i64 0] 32)
  obtain ⟨hbW, hsW, hx1, hx2⟩ := h0
  refine (Ta.out _ (Hbel.out.trans (hbW.mono hB)) (by rw [hsW]; omega)).mono ?_
  generalize ((w.alloc _).alloc _).alloc _ = W at *
  rintro e w1 ⟨x, rfl, jx, hw1⟩
  have hs1 : w.heap.size + 3 ≤ w1.heap.size := by have := hw1.size; omega
  have y1 := (hw1.block (w.heap.size + 1) (by omega)).trans hx1
  have y2 := (hw1.block (w.heap.size + 1 + 1) (by omega)).trans hx2
  have hb1 : Below w.heap.size w w1 := hbW.trans (hw1.mono (by omega))
  obtain ⟨e0, e1, e2, e3, e4, e5⟩ := of_block6 y1
  have fx := jx.form
  have Jx := Lib.hid jx; clear jx
  have Hw1 := Lib.hid hw1; clear hw1
  go_wp2_with fail
  refine (Tb.out _ (Hbel.out.trans (hb1.mono hB)) (by omega)).mono ?_
  rintro e w2 ⟨y, rfl, jy, hw2⟩
  have hs2 : w.heap.size + 3 ≤ w2.heap.size := by have := hw2.size; omega
  have z2 := (hw2.block (w.heap.size + 1 + 1) (by omega)).trans y2
  have hb2 : Below w.heap.size w w2 := hb1.trans (hw2.mono (by omega))
  have jx2 := Jx.out.under hw2 (fun k hk => hk.2)
  have fy := jy.form
  have Z := Lib.hid (Hz.out _ _ _ (jx2.mono (fun k hk => by have := hk.2; have := hw2.size; omega)) (jy.mono (fun k hk => hk.2)))
  clear jx2 jy Jx
  rcases fx with rfl | ⟨tx, x, rfl⟩ <;> rcases fy with rfl | ⟨ty, y, rfl⟩
  all_goals
    go_wp2_with fail
    refine Z.out.mono ?_
    rintro e w3 ⟨u, rfl, hfu, hu, hw3⟩
    have hs3 : w.heap.size + 3 ≤ w3.heap.size := by have := hw3.size; omega
    have z3 := (hw3.block (w.heap.size + 1 + 1) (by omega)).trans z2
    have hb3 : Below w.heap.size w w3 := hb2.trans (hw3.mono (by omega))
    have U := Lib.hid hu
    clear hu
    rcases hfu with rfl | ⟨tu, u, rfl⟩
    all_goals
      go_wp2_with fail
      refine U.out.mono ?_
      rintro e w4 ⟨k, h, t, la, ka, va, nl, cl, nk, ck, nv, cv, n, rfl, hR, hw4⟩
      have hs4 : w.heap.size + 3 ≤ w4.heap.size := by have := hw4.size; omega
      have z4 := (hw4.block (w.heap.size + 1 + 1) (by omega)).trans z3
      obtain ⟨e0, e1, e2, e3, e4, e5, e6⟩ := of_block7 z4
      obtain ⟨f0, f1, f2, f3, f4, f5, f6⟩ := free_block7 z4
      have Hst := Lib.hid (resQ_store (z := w.heap.size + 1 + 1) (by omega) (by omega) hb3 hw4 hR)
      clear hR
      go_wp2_with fail
      refine bodyPost_ret (v := .agg #[.int .i64 k, .int .i64 h, .string t, .slice la nl cl, .slice ka nk ck, .slice va nv cv, .int .i64 n]) ?_ rfl Hst.out
      exact results_cell_row (p := 4) (ty := 32) rfl _ _ (w.heap.size + 1 + 1) 32 _ (0, 0) _ rfl (set_row7 z4 _ _ _ _ _ _ _) Tryz.underlying32 rfl (by kernel_rfl)
theorem implGet_any {w0 : World} {B : Nat} {v : V} {p : List V} {cv cb : List Value} (hv : RepV w0 B v cv) (hp : RepV w0 B (.mk 5 0 ⟨#[]⟩ p [] []) cb) (gv : Good v) (gp : ∀ x ∈ p, Good x) (hns : pathA v p ≠ .silent)
    (w : World) (hbel : Below B w0 w) (hB : B ≤ w.heap.size) : Calls Tryz.prog 13 #[.agg cv.toArray, .agg cb.toArray] w (ResQ w (pathA v p)) :=
  implGet_walk hv hp _ (toGo_any w0 B v cv hv gv) (toGo_any w0 B _ cb hp (good_row gp))
    (fun w x y jx jy => (zzGetPath_any gv gp jx (fun _ h => h) (by rw [toJ_5] at jy; exact jy) (fun _ h => h) hns w (Below.refl _ _) (Nat.le_refl _)).mono fun e w' ⟨r, he, hr⟩ => ⟨r, he, subR_of (fun y hy => ⟨pathA_good gv hy, pathA_small hv.small hy⟩) hns hr⟩) w hbel hB
end Go.Proofs.YtjlkoekfcdpnaaaGreatDoor

namespace Go.Proofs.YtjlkoekfcdpnaaaGreatDoor
open Go Go.RowKit Go.Deep
theorem at_alloc4 (w : World) (a b c d : Obj) : Below w.heap.size w ((((w.alloc a).alloc b).alloc c).alloc d) ∧ ((((w.alloc a).alloc b).alloc c).alloc d).heap.size = w.heap.size + 4 ∧ ((((w.alloc a).alloc b).alloc c).alloc d).heap[w.heap.size + 1]? = some b ∧
    ((((w.alloc a).alloc b).alloc c).alloc d).heap[w.heap.size + 1 + 1]? = some c ∧ ((((w.alloc a).alloc b).alloc c).alloc d).heap[w.heap.size + 1 + 1 + 1]? = some d := by
  obtain ⟨h1, h2, h3, h4⟩ := at_alloc3 w a b c
  generalize ((w.alloc a).alloc b).alloc c = W at *
  have hb := below_alloc1 W d
  refine ⟨h1.trans (hb.mono (by omega)), by rw [size_alloc1]; omega, (hb.block _ (by omega)).trans h3, (hb.block _ (by omega)).trans h4, ?_⟩
  have := at_alloc W d
  rwa [h2] at this
set_option maxHeartbeats 2000000 in
set_option maxRecDepth 100000 in
theorem implSet_walk {w0 : World} {B : Nat} {a b c : V} {ca cb cc : List Value} (ha : RepV w0 B a ca) (hb : RepV w0 B b cb) (hc : RepV w0 B c cc) (an : Ans)
    (ta : ToGoOK w0 B a ca) (tb : ToGoOK w0 B b cb) (tc : ToGoOK w0 B c cc)
    (hz : ∀ w (N M : Nat) x y z, N ≤ M → M ≤ w.heap.size → RepJ w (fun k => k < N) (toJ a) x → RepJ w (fun k => k < w.heap.size) (toJ b) y → RepJ w (fun k => M ≤ k ∧ k < w.heap.size) (toJ c) z → Calls Tryz.prog 19 #[x, y, z] w (Ret (SubR w an)))
    (w : World) (hbel : Below B w0 w) (hB : B ≤ w.heap.size) : Calls Tryz.prog 11 #[.agg ca.toArray, .agg cb.toArray, .agg cc.toArray] w (ResQ w an) := by
  have Ta := Lib.hid ta; clear ta
  have Tb := Lib.hid tb; clear tb
  have Tc := Lib.hid tc; clear tc
  have Hz := Lib.hid hz; clear hz
  have Hbel := Lib.hid hbel; clear hbel
  obtain ⟨k, h, t, la, ka, va, nl, cl, nk, ck, nv, cv, rfl⟩ := ha.shape
  obtain ⟨k', h', t', la', ka', va', nl', cl', nk', ck', nv', cv', rfl⟩ := hb.shape
  obtain ⟨k2, h2, t2, la2, ka2, va2, nl2, cl2, nk2, ck2, nv2, cv2, rfl⟩ := hc.shape
  clear ha hb hc
  go_enter Tryz.func11, Tryz.ntmps11
  go_wp2_with fail
  have h0 := at_alloc4 w (.cells #[.int .i64 k, .int .i64 h, .string t, .slice la nl cl, .slice ka nk ck, .slice va nv cv] 26)
    (.cells #[.int .i64 k', .int .i64 h', .string t', .slice la' nl' cl', .slice ka' nk' ck', .slice va' nv' cv'] 26)
    (.cells #[.int .i64 k2, .int .i64 h2, .string t2, .slice la2 nl2 cl2, .slice ka2 nk2 ck2, .slice va2 nv2 cv2] 26)
    (.cells #[.int .i64 0, .int .i64 0, .string ⟨#[]⟩, .slice none 0 0, .slice none 0 0, .slice none 0 0, .int .i64 0] 32)
  obtain ⟨hbW, hsW, hx1, hx2, hx3⟩ := h0
  refine (Ta.out _ (Hbel.out.trans (hbW.mono hB)) (by rw [hsW]; omega)).mono ?_
  generalize (((w.alloc _).alloc _).alloc _).alloc _ = W at *
  rintro e w1 ⟨x, rfl, jx, hw1⟩
  have hs1 : w.heap.size + 4 ≤ w1.heap.size := by have := hw1.size; omega
  have y1 := (hw1.block (w.heap.size + 1) (by omega)).trans hx1
  have y2 := (hw1.block (w.heap.size + 1 + 1) (by omega)).trans hx2
  have y3 := (hw1.block (w.heap.size + 1 + 1 + 1) (by omega)).trans hx3
  have hb1 : Below w.heap.size w w1 := hbW.trans (hw1.mono (by omega))
  obtain ⟨e0, e1, e2, e3, e4, e5⟩ := of_block6 y1
  have fx := jx.form
  have Jx := Lib.hid jx; clear jx
  have Hw1 := Lib.hid hw1; clear hw1
  have Y2 := Lib.hid y2
  have Y3 := Lib.hid y3
  clear y2 y3 hx1 hx2 hx3
  go_wp2_with fail
  refine (Tb.out _ (Hbel.out.trans (hb1.mono hB)) (by omega)).mono ?_
  rintro e w2 ⟨y, rfl, jy, hw2⟩
  have hs2 : w.heap.size + 4 ≤ w2.heap.size := by have := hw2.size; omega
  have hs12 := hw2.size
  have z2 := (hw2.block (w.heap.size + 1 + 1) (by omega)).trans Y2.out
  have z3 := (hw2.block (w.heap.size + 1 + 1 + 1) (by omega)).trans Y3.out
  have hb2 : Below w.heap.size w w2 := hb1.trans (hw2.mono (by omega))
  have fy := jy.form
  have Jy := Lib.hid jy; clear jy
  have Z3 := Lib.hid z3
  have Hw2 := Lib.hid hw2
  clear z3 hw2
  obtain ⟨g0, g1, g2, g3, g4, g5⟩ := of_block6 z2
  clear e0 e1 e2 e3 e4 e5
  go_wp2_with fail
  refine (Tc.out _ (Hbel.out.trans (hb2.mono hB)) (by omega)).mono ?_
  rintro e w3 ⟨z, rfl, jz, hw3⟩
  have hs3 : w.heap.size + 4 ≤ w3.heap.size := by have := hw3.size; omega
  have hs23 := hw3.size
  have u3 := (hw3.block (w.heap.size + 1 + 1 + 1) (by omega)).trans Z3.out
  have hb3 : Below w.heap.size w w3 := hb2.trans (hw3.mono (by omega))
  have fz := jz.form
  have jx3 := (Jx.out.under Hw2.out (fun k hk => hk.2)).under hw3 (fun k hk => by have := hk.2; omega)
  have jy3 := Jy.out.under hw3 (fun k hk => hk.2)
  have Z := Lib.hid (Hz.out w3 w1.heap.size w2.heap.size _ _ _ (by omega) (by omega) (jx3.mono (fun k hk => hk.2)) (jy3.mono (fun k hk => by have := hk.2; omega)) (jz.mono (fun k hk => hk)))
  clear jx3 jy3 jz Jx Jy g0 g1 g2 g3 g4 g5
  rcases fx with rfl | ⟨tx, x, rfl⟩ <;> rcases fy with rfl | ⟨ty, y, rfl⟩ <;> rcases fz with rfl | ⟨tz, z, rfl⟩
  all_goals
    go_wp2_with fail
    refine Z.out.mono ?_
    rintro e w4 ⟨u, rfl, hfu, hu, hw4⟩
    have hs4 : w.heap.size + 4 ≤ w4.heap.size := by have := hw4.size; omega
    have v3 := (hw4.block (w.heap.size + 1 + 1 + 1) (by omega)).trans u3
    have hb4 : Below w.heap.size w w4 := hb3.trans (hw4.mono (by omega))
    have U := Lib.hid hu
    clear hu
    rcases hfu with rfl | ⟨tu, u, rfl⟩
    all_goals
      go_wp2_with fail
      refine U.out.mono ?_
      rintro e w5 ⟨k, h, t, la, ka, va, nl, cl, nk, ck, nv, cv, n, rfl, hR, hw5⟩
      have hs5 : w.heap.size + 4 ≤ w5.heap.size := by have := hw5.size; omega
      have v4 := (hw5.block (w.heap.size + 1 + 1 + 1) (by omega)).trans v3
      obtain ⟨e0, e1, e2, e3, e4, e5, e6⟩ := of_block7 v4
      obtain ⟨f0, f1, f2, f3, f4, f5, f6⟩ := free_block7 v4
      have Hst := Lib.hid (resQ_store (z := w.heap.size + 1 + 1 + 1) (by omega) (by omega) hb4 hw5 hR)
      clear hR
      go_wp2_with fail
      refine bodyPost_ret (v := .agg #[.int .i64 k, .int .i64 h, .string t, .slice la nl cl, .slice ka nk ck, .slice va nv cv, .int .i64 n]) ?_ rfl Hst.out
      exact results_cell_row (p := 6) (ty := 32) rfl _ _ (w.heap.size + 1 + 1 + 1) 32 _ (0, 0) _ rfl (set_row7 v4 _ _ _ _ _ _ _) Tryz.underlying32 rfl (by kernel_rfl)
end Go.Proofs.YtjlkoekfcdpnaaaGreatDoor

namespace Go.Proofs.YtjlkoekfcdpnaaaGreatDoor
open Go Go.RowKit Go.Maps Go.Deep
def RowB (w : World) (B base : Nat) (v : Value) (l : List V) : Prop :=
  ∃ (C : Nat → List Value), w.ownsRow base 26 6 v l.length (flat C l.length) ∧ ∀ i (hi : i < l.length), RepV w B l[i] (C i)
theorem RowB.nil (w : World) (B base : Nat) : RowB w B base (.slice none 0 0) [] := ⟨fun _ => [], World.ownsRow_nil _ _ _ _, fun i hi => by simp at hi⟩
theorem kept_row0 {w w' : World} {base : Nat} {e : TypeId} {size : Nat} {v : Value} {n : Nat} {xs : List Value} (h : w.ownsRow base e size v n xs) (hg : w.grownBy w' none) : w'.ownsRow base e size v n xs := by
  refine h.kept hg ?_
  cases v.ownBlock <;> simp
theorem RowB.below {w w' : World} {B base : Nat} {v : Value} {l : List V} (h : RowB w B base v l) (hb : Below w.heap.size w w') (hB : B ≤ w.heap.size) : RowB w' B base v l := by
  obtain ⟨C, ho, hr⟩ := h
  exact ⟨C, kept_row0 ho (below_grown hb none), fun i hi => (hr i hi).carry (hb.mono hB) (Nat.le_refl _)⟩
theorem RowB.step {w w' : World} {B base : Nat} {v v' : Value} {l : List V} {x : V} {cs : List Value} {C : Nat → List Value}
    (hr : ∀ i (hi : i < l.length), RepV w B l[i] (C i)) (hx : RepV w B x cs) (hB : B ≤ base) (hB2 : B ≤ w.heap.size) (hv : ∀ g, v.ownBlock = some g → base ≤ g)
    (hown : w'.ownsRow base 26 6 v' (l.length + 1) (flat C l.length ++ cs)) (hg : w.grownBy w' v.ownBlock) : RowB w' B base v' (l ++ [x]) := by
  have hb : Below B w w' := (Below.refl B w).grown hg hB2 (fun q hq => by have := hv q hq; omega)
  refine ⟨fun i => if i < l.length then C i else cs, ?_, ?_⟩
  · rw [List.length_append, List.length_singleton]
    simp only [flat]
    rw [if_neg (by omega), flat_same (C' := C) (fun i hi => by rw [if_pos hi])]
    exact hown
  · intro i hi
    rw [List.length_append, List.length_singleton] at hi
    by_cases e : i < l.length
    · simp only [e, if_true]
      rw [List.getElem_append_left e]
      exact (hr i e).carry hb (Nat.le_refl _)
    · obtain rfl : i = l.length := by omega
      simp only [Nat.lt_irrefl, if_false]
      rw [List.getElem_append_right (by omega)]
      simp only [Nat.sub_self, List.getElem_cons_zero]
      exact hx.carry hb (Nat.le_refl _)
theorem RowB.parts {w : World} {B base : Nat} {v : Value} {l : List V} (h : RowB w B base v l) :
    ∃ (la : Option Addr) (lc : Nat) (C : Nat → List Value), v = .slice la l.length lc ∧
      (0 < l.length → ∃ b o, la = some ⟨b, o, none⟩ ∧ (base ≤ b ∧ b < w.heap.size) ∧ ∀ i, i < l.length → CellsAt w b (o + i * 6) (C i)) ∧
      (∀ i (hi : i < l.length), RepV w B l[i] (C i)) ∧ l.length ≤ lc := by
  obtain ⟨C, hown, hr⟩ := h
  have h6 : ∀ i, i < l.length → (C i).length = 6 := fun i hi => (hr i hi).toS.six
  rcases hown.2 with ⟨e, h0⟩ | ⟨g, cap, cur, e, hb, hg, hnc, _⟩
  · exact ⟨none, 0, C, by rw [e, h0], fun h => by omega, hr, by omega⟩
  · refine ⟨some ⟨g, 0, none⟩, cap, C, e, fun _ => ⟨g, 0, rfl, ⟨hb, (Array.getElem?_eq_some_iff.1 hg).1⟩, fun i hi j hj => ?_⟩, hr, hnc⟩
    have hj6 : j < 6 := by have := h6 i hi; omega
    have hc := hown.cells (g := g) (by rw [e]; rfl) (i * 6 + j) (C i)[j] (by rw [flat_get h6 i j hi hj6, List.getElem?_eq_getElem hj])
    rw [addr_add] at hc
    rw [Nat.zero_add]
    exact hc
theorem RowB.list {w : World} {B base : Nat} {v : Value} {l : List V} (h : RowB w B base v l) (hl : l.length * 104 ≤ 140737488351232) :
    ∃ la lc, v = .slice la l.length lc ∧ RepS w (fun k => k < B ∨ (base ≤ k ∧ k < w.heap.size)) (.mk 5 0 ⟨#[]⟩ l [] []) [.int .i64 5, .int .i64 0, .string ⟨#[]⟩, .slice la l.length lc, .slice none 0 0, .slice none 0 0] := by
  obtain ⟨la, lc, C, e, cl, rl, hlc⟩ := h.parts
  refine ⟨la, lc, e, .mk (ks := []) (vs := []) C C (by omega) (by omega) (Nat.zero_le _ : (⟨#[]⟩ : ByteArray).size ≤ _) hl (by simp) (by simp) (fun s hs => by simp at hs) (fun h0 => ?_) (fun i hi => (rl i hi).toS.mono fun k hk => .inl hk) (fun h => by simp at h) (fun h => by simp at h) (fun i hi => by simp at hi) hlc⟩
  obtain ⟨b, o, e, hb, hc⟩ := cl h0
  exact ⟨b, o, e, .inr hb, hc⟩
end Go.Proofs.YtjlkoekfcdpnaaaGreatDoor

namespace Go.Proofs.YtjlkoekfcdpnaaaGreatDoor
open Go Go.RowKit Go.Maps Go.Deep
/-- The cells of a key. -/
def keyC (v : V) : List Value := [.int .i64 v.kind, .int .i64 v.half, .string v.text, .slice none 0 0, .slice none 0 0, .slice none 0 0]
theorem keyC_len (v : V) : (keyC v).length = 6 := rfl
/-- A row of keys of the call's own. -/
def RowK (w : World) (base : Nat) (v : Value) (ks : List V) : Prop := w.ownsRow base 26 6 v ks.length (ks.flatMap keyC)
theorem flatMap_key_get : ∀ (ks : List V) (i j : Nat) (hi : i < ks.length) (_ : j < 6), (ks.flatMap keyC)[i * 6 + j]? = (keyC ks[i])[j]?
  | [], _, _, hi, _ => by simp at hi
  | k :: ks, 0, j, _, hj => by
    rw [List.flatMap_cons, List.getElem?_append_left (by rw [keyC_len]; omega)]
    simp
  | k :: ks, i + 1, j, hi, hj => by
    rw [List.flatMap_cons, List.getElem?_append_right (by rw [keyC_len]; omega), keyC_len, show (i + 1) * 6 + j - 6 = i * 6 + j by omega]
    exact flatMap_key_get ks i j (by simpa using hi) hj
/-- A row of keys, read; it lies in S. -/
def PathS (w : World) (S : Nat → Prop) (p : List V) (v : Value) : Prop :=
  ∃ la lc, v = .slice la p.length lc ∧ p.length ≤ lc ∧ (0 < p.length → ∃ b o, la = some ⟨b, o, none⟩ ∧ S b ∧ ∀ i (hi : i < p.length), CellsAt w b (o + i * 6) (keyC p[i]))
theorem PathS.turn {w w' : World} {S S' : Nat → Prop} {p : List V} {v : Value} (h : PathS w S p v) (hS : ∀ k, S k → w'.heap[k]? = w.heap[k]? ∧ S' k) : PathS w' S' p v := by
  obtain ⟨la, lc, e, hlc, hc⟩ := h
  refine ⟨la, lc, e, hlc, fun hp => ?_⟩
  obtain ⟨b, o, e, hb, hcel⟩ := hc hp
  exact ⟨b, o, e, (hS b hb).2, fun i hi => (hcel i hi).same (hS b hb).1⟩
theorem RowK.path {w : World} {base : Nat} {v : Value} {ks : List V} (h : RowK w base v ks) : PathS w (fun k => base ≤ k ∧ k < w.heap.size) ks v := by
  rcases h.2 with ⟨e, h0⟩ | ⟨g, cap, cur, e, hb, hg, hnc, _⟩
  · exact ⟨none, 0, by rw [e, h0], by omega, fun hp => by omega⟩
  · refine ⟨some ⟨g, 0, none⟩, cap, e, hnc, fun hp => ⟨g, 0, rfl, ⟨hb, (Array.getElem?_eq_some_iff.1 hg).1⟩, fun i hi j hj => ?_⟩⟩
    have hc := World.ownsRow.cells h (g := g) (by rw [e]; rfl) (i * 6 + j) (keyC ks[i])[j] (by rw [flatMap_key_get ks i j hi (by rw [keyC_len] at hj; exact hj), List.getElem?_eq_getElem hj])
    rw [addr_add] at hc
    rw [Nat.zero_add]
    exact hc
theorem RowK.below {w w' : World} {base : Nat} {v : Value} {ks : List V} (h : RowK w base v ks) (hb : Below w.heap.size w w') : RowK w' base v ks := kept_row0 h (below_grown2 hb none)
/-- One key more, by append. -/
theorem RowK.push {w' : World} {base : Nat} {v' : Value} {ks : List V} {k : V} (ho : w'.ownsRow base 26 6 v' (ks.length + 1) (ks.flatMap keyC ++ keyC k)) : RowK w' base v' (ks ++ [k]) := by
  unfold RowK
  rw [List.length_append, List.length_singleton, List.flatMap_append]
  simpa using ho
theorem RowK.mono {w : World} {base base' : Nat} {v : Value} {ks : List V} (h : RowK w base v ks) (hb : base' ≤ base) : RowK w base' v ks := by
  obtain ⟨h1, h2⟩ := h
  refine ⟨h1, ?_⟩
  rcases h2 with h2 | ⟨g, cap, cur, e, hg, hr⟩
  · exact .inl h2
  · exact .inr ⟨g, cap, cur, e, by omega, hr⟩
end Go.Proofs.YtjlkoekfcdpnaaaGreatDoor
