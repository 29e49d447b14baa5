/- Contract of gojq.ZzGetPath. -/
import Derived.Test.YtiphcojcdegnkaaGreatDoorM12
import Derived.Test.YtiphcojcdegnkaaGreatDoorM16
namespace Go.Proofs.YtiphcojcdegnkaaGreatDoor
open Go Go.RowKit Go.Maps Go.Deep
attribute [local go_sem] assert_jsonNumber assert_jsonNumber_nil assert_int assert_int_nil assert_float64 assert_float64_nil assert_pbigInt assert_pbigInt_nil assert_string assert_string_nil assert_sl assert_sl_nil assert_m assert_m_nil assert_bool assert_bool_nil

theorem ErrV.is {v : Value} (h : ErrV v) : ∀ w : World, (Instr.typeAssert v 20 72 true).run Tryz.prog w = .ok (.tuple #[v, .bool true]) w := by
  intro w
  cases h
  case func1TypeError => exact is_func1TypeError _ w
  case func1WrapError => exact is_func1WrapError _ w
  case func0TypeError => exact is_func0TypeError _ w
  case func2WrapError => exact is_func2WrapError _ w
  case expectedObjectError => exact is_expectedObjectError _ w
  case expectedArrayError => exact is_expectedArrayError _ w
  case arrayIndexNotNumberError => exact is_arrayIndexNotNumberError _ w
  case objectKeyNotStringError => exact is_objectKeyNotStringError _ w
  case expectedStartEndError => exact is_expectedStartEndError _ w
  case stringIndexNotNumberError => exact is_stringIndexNotNumberError _ w
  case arrayIndexNegativeError => exact is_arrayIndexNegativeError _ w
  case arrayIndexTooLargeError => exact is_arrayIndexTooLargeError _ w

def GpLoop (w : World) (B : Nat) (v : V) (p : List V) (x i : Value) (wr : World) : Prop :=
  ∃ (n : Nat) (cur : V) (u : Value), n ≤ p.length ∧ i = .int .i64 (n : Nat) ∧ x = u ∧ pathA v (p.take n) = .fine cur ∧ RepJ wr (· < B) (toJ cur) u ∧ Below w.heap.size w wr

/-- An answer of gojq. -/
def JR (w : World) (an : Ans) (v : Value) (w' : World) : Prop := Below w.heap.size w w' ∧ (∀ y, an = .fine y → RepJ w' (· < w'.heap.size) (toJ y) v) ∧ (an = .raises → ErrV v)

theorem jr_err {w w' : World} {an : Ans} (ha : an = .raises) {v : Value} (hv : ErrV v) (hb : Below w.heap.size w w') : JR w an v w' :=
  ⟨hb, fun y e => (by rw [ha] at e; cases e), fun _ => hv⟩

theorem step_scalar {cur k : V} (h : cur.kind = 1 ∨ cur.kind = 2 ∨ cur.kind = 3 ∨ cur.kind = 4) (hs : stepA cur k ≠ .silent) : stepA cur k = .raises := by
  obtain ⟨kc, hc, tc, lc, kc', vc⟩ := cur
  obtain ⟨kk, hf, t, l, ks, vs⟩ := k
  simp only [V.kind] at h
  rw [stepA_mk, indexA_mk] at hs ⊢
  by_cases q6 : kk = 6
  · subst q6
    rcases h with rfl | rfl | rfl | rfl
    · simp [cutA, V.kind]
    · simp [cutA, V.kind]
    · simp [cutA, V.kind]
    · simp at hs
  · by_cases q3 : kk = 3
    · subst q3
      rcases h with rfl | rfl | rfl | rfl
      · simp
      · simp
      · simp
      · simp at hs
    · rcases h with rfl | rfl | rfl | rfl <;> simp [q6, q3]

theorem rep_shape {w : World} {S : Nat → Prop} {v : V} {u : Value} (g : Good v) (h : RepJ w S (toJ v) u) :
    (v.kind = 0 ∧ u = .nilIface) ∨ (v.kind = 5 ∧ ∃ s, u = .iface 65 s) ∨ (v.kind = 6 ∧ ∃ m, u = .iface 68 m) ∨ ((v.kind = 1 ∨ v.kind = 2 ∨ v.kind = 3 ∨ v.kind = 4) ∧ ∃ t y, u = .iface t y ∧ t ≠ 65 ∧ t ≠ 68) := by
  have gl := g.lens
  obtain ⟨k, hf, t, l, ks, vs⟩ := v
  simp only [V.kind] at gl ⊢
  have hc : k = 0 ∨ k = 1 ∨ k = 2 ∨ k = 3 ∨ k = 4 ∨ k = 5 ∨ k = 6 := by omega
  rcases hc with rfl | rfl | rfl | rfl | rfl | rfl | rfl
  · rw [toJ_0] at h
    cases h
    exact .inl ⟨rfl, rfl⟩
  · rw [toJ_1] at h
    cases h
    exact .inr (.inr (.inr ⟨.inl rfl, _, _, rfl, by decide, by decide⟩))
  · rw [toJ_2] at h
    cases h
    exact .inr (.inr (.inr ⟨.inr (.inl rfl), _, _, rfl, by decide, by decide⟩))
  · by_cases e : hf.tmod 2 = 0
    · rw [toJ_3i _ _ _ _ e] at h
      cases h
      exact .inr (.inr (.inr ⟨.inr (.inr (.inl rfl)), _, _, rfl, by decide, by decide⟩))
    · rw [toJ_3f _ _ _ _ e] at h
      cases h
      exact .inr (.inr (.inr ⟨.inr (.inr (.inl rfl)), _, _, rfl, by decide, by decide⟩))
  · rw [toJ_4] at h
    cases h
    exact .inr (.inr (.inr ⟨.inr (.inr (.inr rfl)), _, _, rfl, by decide, by decide⟩))
  · rw [toJ_5] at h
    cases h
    exact .inr (.inl ⟨rfl, _, rfl⟩)
  · rw [toJ_6] at h
    cases h
    exact .inr (.inr (.inl ⟨rfl, _, rfl⟩))

set_option maxHeartbeats 16000000 in
set_option maxRecDepth 100000 in
theorem getpath_any {w0 : World} {B : Nat} {v : V} {p : List V} (gv : Good v) (gp : ∀ x ∈ p, Good x) {S S' : Nat → Prop} {u y : Value} (hu : RepJ w0 S (toJ v) u) (hS : ∀ q, S q → q < B) (hy : RepJ w0 S' (.arr (toJL p)) y) (hS' : ∀ q, S' q → q < B) (hns : pathA v p ≠ .silent)
    (w : World) (hbel : Below B w0 w) (hB : B ≤ w.heap.size) : Calls Tryz.prog 31 #[u, y] w (Ret (JR w (pathA v p))) := by
  have hu := (hu.under hbel hS).mono (S' := (· < B)) hS
  have hy := (hy.under hbel hS').mono (S' := (· < B)) hS'
  clear hS hS' hbel
  cases hy with
  | @arr _ _ a c f b o N F hl hc ca own sub dis ra =>
  rw [toJL_len] at hl hc ca ⊢
  have hra : ∀ i (hi : i < p.length), RepJ w (· < B) (toJ p[i]) (f (o + i)) := fun i hi => by
    have := ra i (by rw [toJL_len]; exact hi)
    rw [toJL_get p i hi] at this
    exact this.mono (fun q hq => sub i q (by rw [toJL_len]; exact hi) hq)
  have Hra := Lib.hid hra
  have Hca := Lib.hid fun h0 => (ca h0)
  have Hstart := Lib.hid (show GpLoop w B v p u (.int .i64 0) w from ⟨0, v, u, Nat.zero_le _, rfl, rfl, by rw [List.take_zero]; rfl, hu, Below.refl _ _⟩)
  have fu := hu.form
  clear ra own sub dis ca hra hu
  rcases fu with rfl | ⟨tu, u, rfl⟩
  all_goals
    go_enter Tryz.func31, Tryz.ntmps31
    go_wp2_with fail
    go_loopw [0, 27] (fun x i wr => GpLoop w B v p x i wr) (fun _ i _ => p.length - (intOf i).toNat)
    case atStart => exact Hstart.out
    case round =>
      clear Hstart
      obtain ⟨n, cur, uu, hn, rfl, rfl, hpath, hcur, hb⟩ := hrel
      by_cases hn' : n < p.length
      · obtain ⟨rfl, hbS, hrow, hN⟩ := Hca.out (by omega)
        have hx := (Hra.out n hn').under hb (fun q hq => by omega)
        have y1 := (hb.cell (p := ⟨b, o + n, none⟩) (by show b < w.heap.size; omega)).trans (hrow.cell (by omega))
        have Hend := Lib.hid (pathA_end hn' hpath)
        have Htake := Lib.hid (pathA_take hn' hpath)
        have Hs := Lib.hid (show stepA cur p[n] ≠ .silent from fun e => hns (by rw [Hend.out (fun x h => by rw [e] at h; cases h), e]))
        have fx := hx.form
        have gcur := pathA_good gv hpath
        have u1 : (n : Int) < (p.length : Int) := by omega
        have u2 : (0 : Int) ≤ (n : Int) := by omega
        have IX := Lib.hid fun hk => index2_any gcur (gp _ (List.getElem_mem hn')) hcur (fun q hq => hq) hx (fun q hq => hq) hk Hs.out wr (Below.refl _ _) (by have := hb.size; omega)
        have shp := rep_shape gcur hcur
        clear hx hcur hrow hN hbS hpath gcur
        generalize f (o + n) = xx at *
        rcases shp with ⟨k0, rfl⟩ | ⟨k5, s, rfl⟩ | ⟨k6, m, rfl⟩ | ⟨ks, tt, yy, rfl, n1, n2⟩
        · have IX := Lib.hid (IX.out (.inl k0))
          clear k0
          rcases fx with rfl | ⟨tx, yx, rfl⟩
          · skip
            go_wp2_with fail
            refine IX.out.mono ?_
            rintro e w1 ⟨r, rfl, hb1, hfine, hraise⟩
            have hbw : Below w.heap.size w w1 := hb.trans (hb1.mono hb.size)
            have fr : r = .nilIface ∨ ∃ t y, r = .iface t y := by
              cases hst : stepA cur p[n] with
              | fine y => exact (hfine y hst).form
              | raises => obtain ⟨t, a, e⟩ := (hraise hst).form; exact .inr ⟨_, _, e⟩
              | silent => exact absurd hst Hs.out
            cases hst : stepA cur p[n] with
            | fine y =>
              have hj := hfine y hst
              have NE := hj.noErr
              unfold NoErr at NE
              have Hn := Lib.hid (show GpLoop w B v p r (.int .i64 ((n : Int) + 1)) w1 from ⟨n + 1, y, r, hn', by go_num, rfl, by rw [Htake.out, hst], hj, hbw⟩)
              clear hfine hraise hj hbw hb1 IX Hs hst Htake Hend
              rcases fr with rfl | ⟨tr, yr, rfl⟩
              all_goals
                go_wp2_with fail
                go_roundw
                case rel => exact Hn.out
                case measure => simp [intOf]; omega
            | raises =>
              have hv := hraise hst
              have IS := hv.is
              have Hf := Lib.hid (Hend.out (fun x e => by rw [hst] at e; cases e))
              rw [hst] at Hf
              have Hbw := Lib.hid hbw
              clear hfine hraise hv hbw hb1 IX Hs hst Htake Hend
              rcases fr with rfl | ⟨tr, yr, rfl⟩
              all_goals
                go_wp2_with fail
                go_ret
                exact ⟨_, rfl, jr_err Hf.out (.func1WrapError _) (keep_alloc Hbw.out Hbw.out.size _)⟩
            | silent => exact absurd hst Hs.out
          · skip
            go_wp2_with fail
            refine IX.out.mono ?_
            rintro e w1 ⟨r, rfl, hb1, hfine, hraise⟩
            have hbw : Below w.heap.size w w1 := hb.trans (hb1.mono hb.size)
            have fr : r = .nilIface ∨ ∃ t y, r = .iface t y := by
              cases hst : stepA cur p[n] with
              | fine y => exact (hfine y hst).form
              | raises => obtain ⟨t, a, e⟩ := (hraise hst).form; exact .inr ⟨_, _, e⟩
              | silent => exact absurd hst Hs.out
            cases hst : stepA cur p[n] with
            | fine y =>
              have hj := hfine y hst
              have NE := hj.noErr
              unfold NoErr at NE
              have Hn := Lib.hid (show GpLoop w B v p r (.int .i64 ((n : Int) + 1)) w1 from ⟨n + 1, y, r, hn', by go_num, rfl, by rw [Htake.out, hst], hj, hbw⟩)
              clear hfine hraise hj hbw hb1 IX Hs hst Htake Hend
              rcases fr with rfl | ⟨tr, yr, rfl⟩
              all_goals
                go_wp2_with fail
                go_roundw
                case rel => exact Hn.out
                case measure => simp [intOf]; omega
            | raises =>
              have hv := hraise hst
              have IS := hv.is
              have Hf := Lib.hid (Hend.out (fun x e => by rw [hst] at e; cases e))
              rw [hst] at Hf
              have Hbw := Lib.hid hbw
              clear hfine hraise hv hbw hb1 IX Hs hst Htake Hend
              rcases fr with rfl | ⟨tr, yr, rfl⟩
              all_goals
                go_wp2_with fail
                go_ret
                exact ⟨_, rfl, jr_err Hf.out (.func1WrapError _) (keep_alloc Hbw.out Hbw.out.size _)⟩
            | silent => exact absurd hst Hs.out
        · have IX := Lib.hid (IX.out (.inr (.inl k5)))
          clear k5
          rcases fx with rfl | ⟨tx, yx, rfl⟩
          · skip
            go_wp2_with fail
            refine IX.out.mono ?_
            rintro e w1 ⟨r, rfl, hb1, hfine, hraise⟩
            have hbw : Below w.heap.size w w1 := hb.trans (hb1.mono hb.size)
            have fr : r = .nilIface ∨ ∃ t y, r = .iface t y := by
              cases hst : stepA cur p[n] with
              | fine y => exact (hfine y hst).form
              | raises => obtain ⟨t, a, e⟩ := (hraise hst).form; exact .inr ⟨_, _, e⟩
              | silent => exact absurd hst Hs.out
            cases hst : stepA cur p[n] with
            | fine y =>
              have hj := hfine y hst
              have NE := hj.noErr
              unfold NoErr at NE
              have Hn := Lib.hid (show GpLoop w B v p r (.int .i64 ((n : Int) + 1)) w1 from ⟨n + 1, y, r, hn', by go_num, rfl, by rw [Htake.out, hst], hj, hbw⟩)
              clear hfine hraise hj hbw hb1 IX Hs hst Htake Hend
              rcases fr with rfl | ⟨tr, yr, rfl⟩
              all_goals
                go_wp2_with fail
                go_roundw
                case rel => exact Hn.out
                case measure => simp [intOf]; omega
            | raises =>
              have hv := hraise hst
              have IS := hv.is
              have Hf := Lib.hid (Hend.out (fun x e => by rw [hst] at e; cases e))
              rw [hst] at Hf
              have Hbw := Lib.hid hbw
              clear hfine hraise hv hbw hb1 IX Hs hst Htake Hend
              rcases fr with rfl | ⟨tr, yr, rfl⟩
              all_goals
                go_wp2_with fail
                go_ret
                exact ⟨_, rfl, jr_err Hf.out (.func1WrapError _) (keep_alloc Hbw.out Hbw.out.size _)⟩
            | silent => exact absurd hst Hs.out
          · skip
            go_wp2_with fail
            refine IX.out.mono ?_
            rintro e w1 ⟨r, rfl, hb1, hfine, hraise⟩
            have hbw : Below w.heap.size w w1 := hb.trans (hb1.mono hb.size)
            have fr : r = .nilIface ∨ ∃ t y, r = .iface t y := by
              cases hst : stepA cur p[n] with
              | fine y => exact (hfine y hst).form
              | raises => obtain ⟨t, a, e⟩ := (hraise hst).form; exact .inr ⟨_, _, e⟩
              | silent => exact absurd hst Hs.out
            cases hst : stepA cur p[n] with
            | fine y =>
              have hj := hfine y hst
              have NE := hj.noErr
              unfold NoErr at NE
              have Hn := Lib.hid (show GpLoop w B v p r (.int .i64 ((n : Int) + 1)) w1 from ⟨n + 1, y, r, hn', by go_num, rfl, by rw [Htake.out, hst], hj, hbw⟩)
              clear hfine hraise hj hbw hb1 IX Hs hst Htake Hend
              rcases fr with rfl | ⟨tr, yr, rfl⟩
              all_goals
                go_wp2_with fail
                go_roundw
                case rel => exact Hn.out
                case measure => simp [intOf]; omega
            | raises =>
              have hv := hraise hst
              have IS := hv.is
              have Hf := Lib.hid (Hend.out (fun x e => by rw [hst] at e; cases e))
              rw [hst] at Hf
              have Hbw := Lib.hid hbw
              clear hfine hraise hv hbw hb1 IX Hs hst Htake Hend
              rcases fr with rfl | ⟨tr, yr, rfl⟩
              all_goals
                go_wp2_with fail
                go_ret
                exact ⟨_, rfl, jr_err Hf.out (.func1WrapError _) (keep_alloc Hbw.out Hbw.out.size _)⟩
            | silent => exact absurd hst Hs.out
        · have IX := Lib.hid (IX.out (.inr (.inr k6)))
          clear k6
          rcases fx with rfl | ⟨tx, yx, rfl⟩
          · skip
            go_wp2_with fail
            refine IX.out.mono ?_
            rintro e w1 ⟨r, rfl, hb1, hfine, hraise⟩
            have hbw : Below w.heap.size w w1 := hb.trans (hb1.mono hb.size)
            have fr : r = .nilIface ∨ ∃ t y, r = .iface t y := by
              cases hst : stepA cur p[n] with
              | fine y => exact (hfine y hst).form
              | raises => obtain ⟨t, a, e⟩ := (hraise hst).form; exact .inr ⟨_, _, e⟩
              | silent => exact absurd hst Hs.out
            cases hst : stepA cur p[n] with
            | fine y =>
              have hj := hfine y hst
              have NE := hj.noErr
              unfold NoErr at NE
              have Hn := Lib.hid (show GpLoop w B v p r (.int .i64 ((n : Int) + 1)) w1 from ⟨n + 1, y, r, hn', by go_num, rfl, by rw [Htake.out, hst], hj, hbw⟩)
              clear hfine hraise hj hbw hb1 IX Hs hst Htake Hend
              rcases fr with rfl | ⟨tr, yr, rfl⟩
              all_goals
                go_wp2_with fail
                go_roundw
                case rel => exact Hn.out
                case measure => simp [intOf]; omega
            | raises =>
              have hv := hraise hst
              have IS := hv.is
              have Hf := Lib.hid (Hend.out (fun x e => by rw [hst] at e; cases e))
              rw [hst] at Hf
              have Hbw := Lib.hid hbw
              clear hfine hraise hv hbw hb1 IX Hs hst Htake Hend
              rcases fr with rfl | ⟨tr, yr, rfl⟩
              all_goals
                go_wp2_with fail
                go_ret
                exact ⟨_, rfl, jr_err Hf.out (.func1WrapError _) (keep_alloc Hbw.out Hbw.out.size _)⟩
            | silent => exact absurd hst Hs.out
          · skip
            go_wp2_with fail
            refine IX.out.mono ?_
            rintro e w1 ⟨r, rfl, hb1, hfine, hraise⟩
            have hbw : Below w.heap.size w w1 := hb.trans (hb1.mono hb.size)
            have fr : r = .nilIface ∨ ∃ t y, r = .iface t y := by
              cases hst : stepA cur p[n] with
              | fine y => exact (hfine y hst).form
              | raises => obtain ⟨t, a, e⟩ := (hraise hst).form; exact .inr ⟨_, _, e⟩
              | silent => exact absurd hst Hs.out
            cases hst : stepA cur p[n] with
            | fine y =>
              have hj := hfine y hst
              have NE := hj.noErr
              unfold NoErr at NE
              have Hn := Lib.hid (show GpLoop w B v p r (.int .i64 ((n : Int) + 1)) w1 from ⟨n + 1, y, r, hn', by go_num, rfl, by rw [Htake.out, hst], hj, hbw⟩)
              clear hfine hraise hj hbw hb1 IX Hs hst Htake Hend
              rcases fr with rfl | ⟨tr, yr, rfl⟩
              all_goals
                go_wp2_with fail
                go_roundw
                case rel => exact Hn.out
                case measure => simp [intOf]; omega
            | raises =>
              have hv := hraise hst
              have IS := hv.is
              have Hf := Lib.hid (Hend.out (fun x e => by rw [hst] at e; cases e))
              rw [hst] at Hf
              have Hbw := Lib.hid hbw
              clear hfine hraise hv hbw hb1 IX Hs hst Htake Hend
              rcases fr with rfl | ⟨tr, yr, rfl⟩
              all_goals
                go_wp2_with fail
                go_ret
                exact ⟨_, rfl, jr_err Hf.out (.func1WrapError _) (keep_alloc Hbw.out Hbw.out.size _)⟩
            | silent => exact absurd hst Hs.out
        · have e := step_scalar ks Hs.out
          have Hf := Lib.hid (Hend.out (fun x h => by rw [e] at h; cases h))
          rw [e] at Hf
          have Hb := Lib.hid hb
          clear IX Hs Htake Hend e ks hb
          rcases fx with rfl | ⟨tx, yx, rfl⟩
          all_goals
            go_wp2_with fail
            go_ret
            exact ⟨_, rfl, jr_err Hf.out (.func1TypeError _) (keep_alloc Hb.out Hb.out.size _)⟩
      · have e : n = p.length := by omega
        rw [e, List.take_length] at hpath
        have fc := hcur.form
        have Hfin := Lib.hid (show JR w (pathA v p) _ wr from ⟨hb, fun y hy => by rw [hpath] at hy; cases hy; exact hcur.mono (fun q hq => by have := hb.size; omega), fun h => by rw [hpath] at h; cases h⟩)
        clear hcur hpath hb
        rcases fc with rfl | ⟨tc, yc, rfl⟩
        all_goals
          go_wp2_with fail
          go_ret
          exact ⟨_, rfl, Hfin.out⟩

set_option maxRecDepth 100000 in
theorem zzGetPath_any {w0 : World} {B : Nat} {v : V} {p : List V} (gv : Good v) (gp : ∀ x ∈ p, Good x) {S S' : Nat → Prop} {u y : Value} (hu : RepJ w0 S (toJ v) u) (hS : ∀ q, S q → q < B) (hy : RepJ w0 S' (.arr (toJL p)) y) (hS' : ∀ q, S' q → q < B) (hns : pathA v p ≠ .silent)
    (w : World) (hbel : Below B w0 w) (hB : B ≤ w.heap.size) : Calls Tryz.prog 20 #[u, y] w (Ret (JR w (pathA v p))) := by
  have H := Lib.hid (getpath_any gv gp hu hS hy hS' hns w hbel hB)
  have fu := hu.form
  have fy := hy.form
  clear hu hy hS hS' gv gp hns hbel
  generalize pathA v p = an at *
  rcases fu with rfl | ⟨tu, u, rfl⟩ <;> rcases fy with rfl | ⟨ty, y, rfl⟩
  all_goals
    go_enter Tryz.func20, Tryz.ntmps20
    go_wp2_with fail
    refine H.out.mono ?_
    rintro e w2 ⟨v, rfl, hv⟩
    have Hv := Lib.hid hv
    clear hv
    go_wp2_with fail
    go_ret
    exact ⟨_, rfl, Hv.out⟩

end Go.Proofs.YtiphcojcdegnkaaGreatDoor
