/- What impl.result returns for an answer of the reference; what laws.told says of it. -/
/- Contract of gojq.ZzGetPath. -/
/- Contracts of gojq.setpath, funcSetpath, ZzSetPath. -/
/- Contract of impl.GetPath. -/
import Derived.Test.YtiphcojcdegnkaaGreatDoorM16
import Derived.Test.YtiphcojcdegnkaaGreatDoorM08
import Derived.Test.YtiphcojcdegnkaaGreatDoorM13
import Derived.Test.YtiphcojcdegnkaaGreatDoorM06
namespace Go.Proofs.YtiphcojcdegnkaaGreatDoor
open Go Go.RowKit Go.Maps Go.Deep

/-- What impl.result returns where the answer is an. -/
def ResQ (w : World) (an : Ans) (e : Ending) (w' : World) : Prop :=
  ∃ (k h : Int) (t : ByteArray) (la ka va : Option Addr) (nl cl nk ck nv cv : Nat) (n : Int), e = .returned (.agg #[.int .i64 k, .int .i64 h, .string t, .slice la nl cl, .slice ka nk ck, .slice va nv cv, .int .i64 n]) ∧
    ((∀ v, an = .fine v → n = 0 ∧ RepS w' (FreshS w.heap.size w'.heap.size) v [.int .i64 k, .int .i64 h, .string t, .slice la nl cl, .slice ka nk ck, .slice va nv cv]) ∧ (an = .raises → n = 1)) ∧ Below w.heap.size w w'

theorem resQ_val {w : World} {x : Value} {v : V} {an : Ans} (h : Calls Tryz.prog 19 #[x] w (ResV w v)) (ha : an = .fine v ∨ an = .silent) : Calls Tryz.prog 19 #[x] w (ResQ w an) := by
  refine h.mono ?_
  rintro e w' ⟨c0, c1, c2, c3, c4, c5, rfl, hr, hb⟩
  obtain ⟨k, h, t, la, ka, va, nl, cl, nk, ck, nv, cv, e⟩ := hr.shape
  simp only [List.cons.injEq, and_true] at e
  obtain ⟨rfl, rfl, rfl, rfl, rfl, rfl⟩ := e
  refine ⟨_, _, _, _, _, _, _, _, _, _, _, _, _, rfl, ⟨fun v' hv => ?_, fun hv => ?_⟩, hb⟩
  · rcases ha with ha | ha
    · rw [ha] at hv
      cases hv
      exact ⟨rfl, hr⟩
    · rw [ha] at hv; cases hv
  · rcases ha with ha | ha <;> (rw [ha] at hv; cases hv)

theorem resQ_err {u : Value} (hu : ErrV u) (w : World) : Calls Tryz.prog 19 #[u] w (ResQ w .raises) :=
  (result_err u hu w).mono fun e w' ⟨he, hb⟩ => ⟨_, _, _, _, _, _, _, _, _, _, _, _, _, he, ⟨fun v hv => (by cases hv), fun _ => rfl⟩, hb⟩

theorem resQ_flt {x : Nat} (hx : FloatKind.f64.format.order x x = some .eq) (w : World) : Calls Tryz.prog 19 #[.iface 64 (.float .f64 x)] w (ResQ w .silent) := by
  have hm : ∃ y, FloatKind.f64.format.mul 4611686018427387904 x = some y ∧ ∀ s t, FloatKind.f64.decode y ≠ .nan s t := by
    have hn : ∀ y, Ieee.double.order y y = some .eq → ∀ s t, FloatKind.f64.decode y ≠ .nan s t := fun y hy s t e => by
      have : Ieee.double.read y = .nan s t := e
      unfold Ieee.Format.order at hy
      rw [this] at hy
      cases hy
    have h0 : Ieee.Datum.order (Ieee.double.read x) (Ieee.double.read x) = some .eq := hx
    cases hr : Ieee.double.read x with
    | nan s t => rw [hr] at h0; cases h0
    | number s m i =>
      refine ⟨Ieee.double.nearest (false ^^ s) (2 ^ 52 * m) (-51 + i), ?_, hn _ (near_ok _ _ _)⟩
      show Ieee.double.mul _ _ = _
      unfold Ieee.Format.mul
      rw [hr, two_read]
      simp only [Ieee.Datum.product, Option.map_some, Ieee.Format.write]
    | infinity s =>
      refine ⟨Ieee.double.word (false ^^ s) Ieee.double.infRung, ?_, hn _ (word_ok _ (by rw [infRung_double]; exact Nat.le_refl _))⟩
      show Ieee.double.mul _ _ = _
      unfold Ieee.Format.mul
      rw [hr, two_read]
      simp [Ieee.Datum.product, Ieee.Format.write]
  obtain ⟨y, hy, hny⟩ := hm
  refine (result_half (fun _ _ => True) (fun w => fromGo_flt x y hy (fun _ _ => True) (fun w => (half_any y hny w).mono fun e w' ⟨b, h, he, _, _, hb⟩ => ⟨b, h, trivial, he, hb⟩) w) w).mono ?_
  rintro e w' ⟨b, h, _, rfl, hb⟩
  exact ⟨_, _, _, _, _, _, _, _, _, _, _, _, _, rfl, ⟨fun v hv => (by cases hv), fun hv => (by cases hv)⟩, hb⟩

/-- What a callback leaves, for impl.result. -/
abbrev SubR (w : World) (an : Ans) (v : Value) (w' : World) : Prop := (v = .nilIface ∨ ∃ t y, v = .iface t y) ∧ Calls Tryz.prog 19 #[v] w' (ResQ w' an) ∧ Below w.heap.size w w'

theorem subR_err {w : World} {f : Nat} {args : Array Value} (h : Calls Tryz.prog f args w (RetErr w)) : Calls Tryz.prog f args w (Ret (SubR w .raises)) :=
  h.mono fun _ _ ⟨v, he, hv, hb⟩ => ⟨v, he, by obtain ⟨t, a, rfl⟩ := hv.form; exact .inr ⟨_, _, rfl⟩, resQ_err hv _, hb⟩

theorem resQ_store {w w3 w4 : World} {an : Ans} {z : Nat} {k h : Int} {t : ByteArray} {la ka va : Option Addr} {nl cl nk ck nv cv : Nat} {n : Int} (hz : w.heap.size ≤ z) (hz2 : z < w3.heap.size) (hb3 : Below w.heap.size w w3) (hb4 : Below w3.heap.size w3 w4)
    (hR : (∀ v, an = .fine v → n = 0 ∧ RepS w4 (FreshS w3.heap.size w4.heap.size) v [.int .i64 k, .int .i64 h, .string t, .slice la nl cl, .slice ka nk ck, .slice va nv cv]) ∧ (an = .raises → n = 1)) :
    ResQ w an (.returned (.agg #[.int .i64 k, .int .i64 h, .string t, .slice la nl cl, .slice ka nk ck, .slice va nv cv, .int .i64 n]))
      (((((((w4.setCell ⟨z, 0, none⟩ (.int .i64 k)).setCell ⟨z, 1, none⟩ (.int .i64 h)).setCell ⟨z, 2, none⟩ (.string t)).setCell ⟨z, 3, none⟩ (.slice la nl cl)).setCell ⟨z, 4, none⟩ (.slice ka nk ck)).setCell ⟨z, 5, none⟩ (.slice va nv cv)).setCell ⟨z, 6, none⟩ (.int .i64 n)) := by
  have h3 := hb3.size
  have h4 := hb4.size
  refine ⟨_, _, _, _, _, _, _, _, _, _, _, _, _, rfl, ⟨fun v hv => ?_, hR.2⟩, ?_⟩
  · obtain ⟨e, hr⟩ := hR.1 v hv
    refine ⟨e, hr.turn fun q hq => ⟨set7_other _ _ _ _ _ _ _ _ _ _ ?_, ?_⟩⟩
    · unfold FreshS at hq; omega
    · unfold FreshS at hq ⊢
      rw [set7_size]
      omega
  · exact (((((((hb3.trans (hb4.mono h3)).setCell (by simp; omega) _).setCell (by simp; omega) _).setCell (by simp; omega) _).setCell (by simp; omega) _).setCell (by simp; omega) _).setCell (by simp; omega) _).setCell (by simp; omega) _

/-- What a result of seven cells says, where the answer is an. -/
def Got (w : World) (an : Ans) (k h : Int) (t : ByteArray) (la ka va : Option Addr) (nl cl nk ck nv cv : Nat) (n : Int) : Prop :=
  (∀ v, an = .fine v → n = 0 ∧ RepV w w.heap.size v [.int .i64 k, .int .i64 h, .string t, .slice la nl cl, .slice ka nk ck, .slice va nv cv]) ∧ (an = .raises → n = 1)

/-- A result of seven cells; new memory alone since W. -/
def GotFrom (W : World) (an : Ans) (e : Ending) (w' : World) : Prop :=
  ∃ (k h : Int) (t : ByteArray) (la ka va : Option Addr) (nl cl nk ck nv cv : Nat) (n : Int), e = .returned (.agg #[.int .i64 k, .int .i64 h, .string t, .slice la nl cl, .slice ka nk ck, .slice va nv cv, .int .i64 n]) ∧
    Got w' an k h t la ka va nl cl nk ck nv cv n ∧ Below W.heap.size W w'

theorem ResQ.from {W w : World} {an : Ans} {e : Ending} {w' : World} (h : ResQ w an e w') (hw : Below W.heap.size W w) : GotFrom W an e w' := by
  obtain ⟨k, h, t, la, ka, va, nl, cl, nk, ck, nv, cv, n, he, hR, hb⟩ := h
  exact ⟨k, h, t, la, ka, va, nl, cl, nk, ck, nv, cv, n, he, ⟨fun v hv => ⟨(hR.1 v hv).1, (hR.1 v hv).2.toV fun q hq => hq.2⟩, hR.2⟩, hw.trans (hb.mono hw.size)⟩

theorem told_ans {w : World} {an : Ans} (hg : ∀ v, an = .fine v → Good v) {k h n k1 h1 : Int} {t t1 : ByteArray} {la ka va la1 ka1 va1 : Option Addr} {nl cl nk ck nv cv nl1 cl1 nk1 ck1 nv1 cv1 : Nat}
    (hR : Got w an k h t la ka va nl cl nk ck nv cv n) (hP : ∀ v, an = .fine v → RepV w w.heap.size v [.int .i64 k1, .int .i64 h1, .string t1, .slice la1 nl1 cl1, .slice ka1 nk1 ck1, .slice va1 nv1 cv1]) :
    Calls Tryz.prog 9 #[.agg #[.int .i64 k, .int .i64 h, .string t, .slice la nl cl, .slice ka nk ck, .slice va nv cv, .int .i64 n], .agg #[.int .i64 k1, .int .i64 h1, .string t1, .slice la1 nl1 cl1, .slice ka1 nk1 ck1, .slice va1 nv1 cv1], .int .i64 an.how] w (Yes w) := by
  cases an with
  | raises =>
    obtain rfl := hR.2 rfl
    exact told_raises _ _ _ _ _ _ _ _ _ _ _ _ _ _ _ _ _ _ _ _ _ _ _ _ w
  | silent => exact told_silent _ _ _ _ _ _ _ _ _ _ _ _ _ _ _ _ _ _ _ _ _ _ _ _ _ w
  | fine v =>
    obtain ⟨rfl, r1⟩ := hR.1 v rfl
    have := told_val w v v _ _ _ _ _ _ _ r1 (hP v rfl)
    rw [(sameB_iff (hg v rfl) (hg v rfl)).2 rfl] at this
    exact this

end Go.Proofs.YtiphcojcdegnkaaGreatDoor

namespace Go.Proofs.YtiphcojcdegnkaaGreatDoor
open Go Go.RowKit Go.Maps Go.Deep
attribute [local go_sem] assert_jsonNumber assert_jsonNumber_nil assert_int assert_int_nil assert_float64 assert_float64_nil assert_pbigInt assert_pbigInt_nil assert_string assert_string_nil assert_sl assert_sl_nil assert_m assert_m_nil assert_bool assert_bool_nil

theorem ErrV.is {v : Value} (h : ErrV v) : ∀ w : World, (Instr.typeAssert v 20 72 true).run Tryz.prog w = .ok (.tuple #[v, .bool true]) w := by
  intro w
  cases h
  case func1TypeError => exact is_func1TypeError _ w
  case func1WrapError => exact is_func1WrapError _ w
  case func0TypeError => exact is_func0TypeError _ w
  case func2WrapError => exact is_func2WrapError _ w
  case expectedObjectError => exact is_expectedObjectError _ w
  case expectedArrayError => exact is_expectedArrayError _ w
  case arrayIndexNotNumberError => exact is_arrayIndexNotNumberError _ w
  case objectKeyNotStringError => exact is_objectKeyNotStringError _ w
  case expectedStartEndError => exact is_expectedStartEndError _ w
  case stringIndexNotNumberError => exact is_stringIndexNotNumberError _ w
  case arrayIndexNegativeError => exact is_arrayIndexNegativeError _ w
  case arrayIndexTooLargeError => exact is_arrayIndexTooLargeError _ w

def GpLoop (w : World) (B : Nat) (v : V) (p : List V) (x i : Value) (wr : World) : Prop :=
  ∃ (n : Nat) (cur : V) (u : Value), n ≤ p.length ∧ i = .int .i64 (n : Nat) ∧ x = u ∧ pathA v (p.take n) = .fine cur ∧ RepJ wr (· < B) (toJ cur) u ∧ Below w.heap.size w wr

/-- An answer of gojq. -/
def JR (w : World) (an : Ans) (v : Value) (w' : World) : Prop := Below w.heap.size w w' ∧ (∀ y, an = .fine y → RepJ w' (· < w'.heap.size) (toJ y) v) ∧ (an = .raises → ErrV v)

theorem jr_err {w w' : World} {an : Ans} (ha : an = .raises) {v : Value} (hv : ErrV v) (hb : Below w.heap.size w w') : JR w an v w' :=
  ⟨hb, fun y e => (by rw [ha] at e; cases e), fun _ => hv⟩

theorem step_scalar {cur k : V} (h : cur.kind = 1 ∨ cur.kind = 2 ∨ cur.kind = 3 ∨ cur.kind = 4) (hs : stepA cur k ≠ .silent) : stepA cur k = .raises := by
  obtain ⟨kc, hc, tc, lc, kc', vc⟩ := cur
  obtain ⟨kk, hf, t, l, ks, vs⟩ := k
  simp only [V.kind] at h
  rw [stepA_mk, indexA_mk] at hs ⊢
  by_cases q6 : kk = 6
  · subst q6
    rcases h with rfl | rfl | rfl | rfl
    · simp [cutA, V.kind]
    · simp [cutA, V.kind]
    · simp [cutA, V.kind]
    · simp at hs
  · by_cases q3 : kk = 3
    · subst q3
      rcases h with rfl | rfl | rfl | rfl
      · simp
      · simp
      · simp
      · simp at hs
    · rcases h with rfl | rfl | rfl | rfl <;> simp [q6, q3]

theorem rep_shape {w : World} {S : Nat → Prop} {v : V} {u : Value} (g : Good v) (h : RepJ w S (toJ v) u) :
    (v.kind = 0 ∧ u = .nilIface) ∨ (v.kind = 5 ∧ ∃ s, u = .iface 65 s) ∨ (v.kind = 6 ∧ ∃ m, u = .iface 68 m) ∨ ((v.kind = 1 ∨ v.kind = 2 ∨ v.kind = 3 ∨ v.kind = 4) ∧ ∃ t y, u = .iface t y ∧ t ≠ 65 ∧ t ≠ 68) := by
  have gl := g.lens
  obtain ⟨k, hf, t, l, ks, vs⟩ := v
  simp only [V.kind] at gl ⊢
  have hc : k = 0 ∨ k = 1 ∨ k = 2 ∨ k = 3 ∨ k = 4 ∨ k = 5 ∨ k = 6 := by omega
  rcases hc with rfl | rfl | rfl | rfl | rfl | rfl | rfl
  · rw [toJ_0] at h
    cases h
    exact .inl ⟨rfl, rfl⟩
  · rw [toJ_1] at h
    cases h
    exact .inr (.inr (.inr ⟨.inl rfl, _, _, rfl, by decide, by decide⟩))
  · rw [toJ_2] at h
    cases h
    exact .inr (.inr (.inr ⟨.inr (.inl rfl), _, _, rfl, by decide, by decide⟩))
  · by_cases e : hf.tmod 2 = 0
    · rw [toJ_3i _ _ _ _ e] at h
      cases h
      exact .inr (.inr (.inr ⟨.inr (.inr (.inl rfl)), _, _, rfl, by decide, by decide⟩))
    · rw [toJ_3f _ _ _ _ e] at h
      cases h
      exact .inr (.inr (.inr ⟨.inr (.inr (.inl rfl)), _, _, rfl, by decide, by decide⟩))
  · rw [toJ_4] at h
    cases h
    exact .inr (.inr (.inr ⟨.inr (.inr (.inr rfl)), _, _, rfl, by decide, by decide⟩))
  · rw [toJ_5] at h
    cases h
    exact .inr (.inl ⟨rfl, _, rfl⟩)
  · rw [toJ_6] at h
    cases h
    exact .inr (.inr (.inl ⟨rfl, _, rfl⟩))

set_option maxHeartbeats 16000000 in
set_option maxRecDepth 100000 in
theorem getpath_any {w0 : World} {B : Nat} {v : V} {p : List V} (gv : Good v) (gp : ∀ x ∈ p, Good x) {S S' : Nat → Prop} {u y : Value} (hu : RepJ w0 S (toJ v) u) (hS : ∀ q, S q → q < B) (hy : RepJ w0 S' (.arr (toJL p)) y) (hS' : ∀ q, S' q → q < B) (hns : pathA v p ≠ .silent)
    (w : World) (hbel : Below B w0 w) (hB : B ≤ w.heap.size) : Calls Tryz.prog 31 #[u, y] w (Ret (JR w (pathA v p))) := by
  have hu := (hu.under hbel hS).mono (S' := (· < B)) hS
  have hy := (hy.under hbel hS').mono (S' := (· < B)) hS'
  clear hS hS' hbel
  cases hy with
  | @arr _ _ a c f b o N F hl hc ca own sub dis ra =>
  rw [toJL_len] at hl hc ca ⊢
  have hra : ∀ i (hi : i < p.length), RepJ w (· < B) (toJ p[i]) (f (o + i)) := fun i hi => by
    have := ra i (by rw [toJL_len]; exact hi)
    rw [toJL_get p i hi] at this
    exact this.mono (fun q hq => sub i q (by rw [toJL_len]; exact hi) hq)
  have Hra := Lib.hid hra
  have Hca := Lib.hid fun h0 => (ca h0)
  have Hstart := Lib.hid (show GpLoop w B v p u (.int .i64 0) w from ⟨0, v, u, Nat.zero_le _, rfl, rfl, by rw [List.take_zero]; rfl, hu, Below.refl _ _⟩)
  have fu := hu.form
  clear ra own sub dis ca hra hu
  rcases fu with rfl | ⟨tu, u, rfl⟩
  all_goals
    go_enter Tryz.func31, Tryz.ntmps31
    go_wp2_with fail
    go_loopw [0, 27] (fun x i wr => GpLoop w B v p x i wr) (fun _ i _ => p.length - (intOf i).toNat)
    case atStart => exact Hstart.out
    case round =>
      clear Hstart
      obtain ⟨n, cur, uu, hn, rfl, rfl, hpath, hcur, hb⟩ := hrel
      by_cases hn' : n < p.length
      · obtain ⟨rfl, hbS, hrow, hN⟩ := Hca.out (by omega)
        have hx := (Hra.out n hn').under hb (fun q hq => by omega)
        have y1 := (hb.cell (p := ⟨b, o + n, none⟩) (by show b < w.heap.size; omega)).trans (hrow.cell (by omega))
        have Hend := Lib.hid (pathA_end hn' hpath)
        have Htake := Lib.hid (pathA_take hn' hpath)
        have Hs := Lib.hid (show stepA cur p[n] ≠ .silent from fun e => hns (by rw [Hend.out (fun x h => by rw [e] at h; cases h), e]))
        have fx := hx.form
        have gcur := pathA_good gv hpath
        have u1 : (n : Int) < (p.length : Int) := by omega
        have u2 : (0 : Int) ≤ (n : Int) := by omega
        have IX := Lib.hid fun hk => index2_any gcur (gp _ (List.getElem_mem hn')) hcur (fun q hq => hq) hx (fun q hq => hq) hk Hs.out wr (Below.refl _ _) (by have := hb.size; omega)
        have shp := rep_shape gcur hcur
        clear hx hcur hrow hN hbS hpath gcur
        generalize f (o + n) = xx at *
        rcases shp with ⟨k0, rfl⟩ | ⟨k5, s, rfl⟩ | ⟨k6, m, rfl⟩ | ⟨ks, tt, yy, rfl, n1, n2⟩
        · have IX := Lib.hid (IX.out (.inl k0))
          clear k0
          rcases fx with rfl | ⟨tx, yx, rfl⟩
          · skip
            go_wp2_with fail
            refine IX.out.mono ?_
            rintro e w1 ⟨r, rfl, hb1, hfine, hraise⟩
            have hbw : Below w.heap.size w w1 := hb.trans (hb1.mono hb.size)
            have fr : r = .nilIface ∨ ∃ t y, r = .iface t y := by
              cases hst : stepA cur p[n] with
              | fine y => exact (hfine y hst).form
              | raises => obtain ⟨t, a, e⟩ := (hraise hst).form; exact .inr ⟨_, _, e⟩
              | silent => exact absurd hst Hs.out
            cases hst : stepA cur p[n] with
            | fine y =>
              have hj := hfine y hst
              have NE := hj.noErr
              unfold NoErr at NE
              have Hn := Lib.hid (show GpLoop w B v p r (.int .i64 ((n : Int) + 1)) w1 from ⟨n + 1, y, r, hn', by go_num, rfl, by rw [Htake.out, hst], hj, hbw⟩)
              clear hfine hraise hj hbw hb1 IX Hs hst Htake Hend
              rcases fr with rfl | ⟨tr, yr, rfl⟩
              all_goals
                go_wp2_with fail
                go_roundw
                case rel => exact Hn.out
                case measure => simp [intOf]; omega
            | raises =>
              have hv := hraise hst
              have IS := hv.is
              have Hf := Lib.hid (Hend.out (fun x e => by rw [hst] at e; cases e))
              rw [hst] at Hf
              have Hbw := Lib.hid hbw
              clear hfine hraise hv hbw hb1 IX Hs hst Htake Hend
              rcases fr with rfl | ⟨tr, yr, rfl⟩
              all_goals
                go_wp2_with fail
                go_ret
                exact ⟨_, rfl, jr_err Hf.out (.func1WrapError _) (keep_alloc Hbw.out Hbw.out.size _)⟩
            | silent => exact absurd hst Hs.out
          · skip
            go_wp2_with fail
            refine IX.out.mono ?_
            rintro e w1 ⟨r, rfl, hb1, hfine, hraise⟩
            have hbw : Below w.heap.size w w1 := hb.trans (hb1.mono hb.size)
            have fr : r = .nilIface ∨ ∃ t y, r = .iface t y := by
              cases hst : stepA cur p[n] with
              | fine y => exact (hfine y hst).form
              | raises => obtain ⟨t, a, e⟩ := (hraise hst).form; exact .inr ⟨_, _, e⟩
              | silent => exact absurd hst Hs.out
            cases hst : stepA cur p[n] with
            | fine y =>
              have hj := hfine y hst
              have NE := hj.noErr
              unfold NoErr at NE
              have Hn := Lib.hid (show GpLoop w B v p r (.int .i64 ((n : Int) + 1)) w1 from ⟨n + 1, y, r, hn', by go_num, rfl, by rw [Htake.out, hst], hj, hbw⟩)
              clear hfine hraise hj hbw hb1 IX Hs hst Htake Hend
              rcases fr with rfl | ⟨tr, yr, rfl⟩
              all_goals
                go_wp2_with fail
                go_roundw
                case rel => exact Hn.out
                case measure => simp [intOf]; omega
            | raises =>
              have hv := hraise hst
              have IS := hv.is
              have Hf := Lib.hid (Hend.out (fun x e => by rw [hst] at e; cases e))
              rw [hst] at Hf
              have Hbw := Lib.hid hbw
              clear hfine hraise hv hbw hb1 IX Hs hst Htake Hend
              rcases fr with rfl | ⟨tr, yr, rfl⟩
              all_goals
                go_wp2_with fail
                go_ret
                exact ⟨_, rfl, jr_err Hf.out (.func1WrapError _) (keep_alloc Hbw.out Hbw.out.size _)⟩
            | silent => exact absurd hst Hs.out
        · have IX := Lib.hid (IX.out (.inr (.inl k5)))
          clear k5
          rcases fx with rfl | ⟨tx, yx, rfl⟩
          · skip
            go_wp2_with fail
            refine IX.out.mono ?_
            rintro e w1 ⟨r, rfl, hb1, hfine, hraise⟩
            have hbw : Below w.heap.size w w1 := hb.trans (hb1.mono hb.size)
            have fr : r = .nilIface ∨ ∃ t y, r = .iface t y := by
              cases hst : stepA cur p[n] with
              | fine y => exact (hfine y hst).form
              | raises => obtain ⟨t, a, e⟩ := (hraise hst).form; exact .inr ⟨_, _, e⟩
              | silent => exact absurd hst Hs.out
            cases hst : stepA cur p[n] with
            | fine y =>
              have hj := hfine y hst
              have NE := hj.noErr
              unfold NoErr at NE
              have Hn := Lib.hid (show GpLoop w B v p r (.int .i64 ((n : Int) + 1)) w1 from ⟨n + 1, y, r, hn', by go_num, rfl, by rw [Htake.out, hst], hj, hbw⟩)
              clear hfine hraise hj hbw hb1 IX Hs hst Htake Hend
              rcases fr with rfl | ⟨tr, yr, rfl⟩
              all_goals
                go_wp2_with fail
                go_roundw
                case rel => exact Hn.out
                case measure => simp [intOf]; omega
            | raises =>
              have hv := hraise hst
              have IS := hv.is
              have Hf := Lib.hid (Hend.out (fun x e => by rw [hst] at e; cases e))
              rw [hst] at Hf
              have Hbw := Lib.hid hbw
              clear hfine hraise hv hbw hb1 IX Hs hst Htake Hend
              rcases fr with rfl | ⟨tr, yr, rfl⟩
              all_goals
                go_wp2_with fail
                go_ret
                exact ⟨_, rfl, jr_err Hf.out (.func1WrapError _) (keep_alloc Hbw.out Hbw.out.size _)⟩
            | silent => exact absurd hst Hs.out
          · skip
            go_wp2_with fail
            refine IX.out.mono ?_
            rintro e w1 ⟨r, rfl, hb1, hfine, hraise⟩
            have hbw : Below w.heap.size w w1 := hb.trans (hb1.mono hb.size)
            have fr : r = .nilIface ∨ ∃ t y, r = .iface t y := by
              cases hst : stepA cur p[n] with
              | fine y => exact (hfine y hst).form
              | raises => obtain ⟨t, a, e⟩ := (hraise hst).form; exact .inr ⟨_, _, e⟩
              | silent => exact absurd hst Hs.out
            cases hst : stepA cur p[n] with
            | fine y =>
              have hj := hfine y hst
              have NE := hj.noErr
              unfold NoErr at NE
              have Hn := Lib.hid (show GpLoop w B v p r (.int .i64 ((n : Int) + 1)) w1 from ⟨n + 1, y, r, hn', by go_num, rfl, by rw [Htake.out, hst], hj, hbw⟩)
              clear hfine hraise hj hbw hb1 IX Hs hst Htake Hend
              rcases fr with rfl | ⟨tr, yr, rfl⟩
              all_goals
                go_wp2_with fail
                go_roundw
                case rel => exact Hn.out
                case measure => simp [intOf]; omega
            | raises =>
              have hv := hraise hst
              have IS := hv.is
              have Hf := Lib.hid (Hend.out (fun x e => by rw [hst] at e; cases e))
              rw [hst] at Hf
              have Hbw := Lib.hid hbw
              clear hfine hraise hv hbw hb1 IX Hs hst Htake Hend
              rcases fr with rfl | ⟨tr, yr, rfl⟩
              all_goals
                go_wp2_with fail
                go_ret
                exact ⟨_, rfl, jr_err Hf.out (.func1WrapError _) (keep_alloc Hbw.out Hbw.out.size _)⟩
            | silent => exact absurd hst Hs.out
        · have IX := Lib.hid (IX.out (.inr (.inr k6)))
          clear k6
          rcases fx with rfl | ⟨tx, yx, rfl⟩
          · skip
            go_wp2_with fail
            refine IX.out.mono ?_
            rintro e w1 ⟨r, rfl, hb1, hfine, hraise⟩
            have hbw : Below w.heap.size w w1 := hb.trans (hb1.mono hb.size)
            have fr : r = .nilIface ∨ ∃ t y, r = .iface t y := by
              cases hst : stepA cur p[n] with
              | fine y => exact (hfine y hst).form
              | raises => obtain ⟨t, a, e⟩ := (hraise hst).form; exact .inr ⟨_, _, e⟩
              | silent => exact absurd hst Hs.out
            cases hst : stepA cur p[n] with
            | fine y =>
              have hj := hfine y hst
              have NE := hj.noErr
              unfold NoErr at NE
              have Hn := Lib.hid (show GpLoop w B v p r (.int .i64 ((n : Int) + 1)) w1 from ⟨n + 1, y, r, hn', by go_num, rfl, by rw [Htake.out, hst], hj, hbw⟩)
              clear hfine hraise hj hbw hb1 IX Hs hst Htake Hend
              rcases fr with rfl | ⟨tr, yr, rfl⟩
              all_goals
                go_wp2_with fail
                go_roundw
                case rel => exact Hn.out
                case measure => simp [intOf]; omega
            | raises =>
              have hv := hraise hst
              have IS := hv.is
              have Hf := Lib.hid (Hend.out (fun x e => by rw [hst] at e; cases e))
              rw [hst] at Hf
              have Hbw := Lib.hid hbw
              clear hfine hraise hv hbw hb1 IX Hs hst Htake Hend
              rcases fr with rfl | ⟨tr, yr, rfl⟩
              all_goals
                go_wp2_with fail
                go_ret
                exact ⟨_, rfl, jr_err Hf.out (.func1WrapError _) (keep_alloc Hbw.out Hbw.out.size _)⟩
            | silent => exact absurd hst Hs.out
          · skip
            go_wp2_with fail
            refine IX.out.mono ?_
            rintro e w1 ⟨r, rfl, hb1, hfine, hraise⟩
            have hbw : Below w.heap.size w w1 := hb.trans (hb1.mono hb.size)
            have fr : r = .nilIface ∨ ∃ t y, r = .iface t y := by
              cases hst : stepA cur p[n] with
              | fine y => exact (hfine y hst).form
              | raises => obtain ⟨t, a, e⟩ := (hraise hst).form; exact .inr ⟨_, _, e⟩
              | silent => exact absurd hst Hs.out
            cases hst : stepA cur p[n] with
            | fine y =>
              have hj := hfine y hst
              have NE := hj.noErr
              unfold NoErr at NE
              have Hn := Lib.hid (show GpLoop w B v p r (.int .i64 ((n : Int) + 1)) w1 from ⟨n + 1, y, r, hn', by go_num, rfl, by rw [Htake.out, hst], hj, hbw⟩)
              clear hfine hraise hj hbw hb1 IX Hs hst Htake Hend
              rcases fr with rfl | ⟨tr, yr, rfl⟩
              all_goals
                go_wp2_with fail
                go_roundw
                case rel => exact Hn.out
                case measure => simp [intOf]; omega
            | raises =>
              have hv := hraise hst
              have IS := hv.is
              have Hf := Lib.hid (Hend.out (fun x e => by rw [hst] at e; cases e))
              rw [hst] at Hf
              have Hbw := Lib.hid hbw
              clear hfine hraise hv hbw hb1 IX Hs hst Htake Hend
              rcases fr with rfl | ⟨tr, yr, rfl⟩
              all_goals
                go_wp2_with fail
                go_ret
                exact ⟨_, rfl, jr_err Hf.out (.func1WrapError _) (keep_alloc Hbw.out Hbw.out.size _)⟩
            | silent => exact absurd hst Hs.out
        · have e := step_scalar ks Hs.out
          have Hf := Lib.hid (Hend.out (fun x h => by rw [e] at h; cases h))
          rw [e] at Hf
          have Hb := Lib.hid hb
          clear IX Hs Htake Hend e ks hb
          rcases fx with rfl | ⟨tx, yx, rfl⟩
          all_goals
            go_wp2_with fail
            go_ret
            exact ⟨_, rfl, jr_err Hf.out (.func1TypeError _) (keep_alloc Hb.out Hb.out.size _)⟩
      · have e : n = p.length := by omega
        rw [e, List.take_length] at hpath
        have fc := hcur.form
        have Hfin := Lib.hid (show JR w (pathA v p) _ wr from ⟨hb, fun y hy => by rw [hpath] at hy; cases hy; exact hcur.mono (fun q hq => by have := hb.size; omega), fun h => by rw [hpath] at h; cases h⟩)
        clear hcur hpath hb
        rcases fc with rfl | ⟨tc, yc, rfl⟩
        all_goals
          go_wp2_with fail
          go_ret
          exact ⟨_, rfl, Hfin.out⟩

set_option maxRecDepth 100000 in
theorem zzGetPath_any {w0 : World} {B : Nat} {v : V} {p : List V} (gv : Good v) (gp : ∀ x ∈ p, Good x) {S S' : Nat → Prop} {u y : Value} (hu : RepJ w0 S (toJ v) u) (hS : ∀ q, S q → q < B) (hy : RepJ w0 S' (.arr (toJL p)) y) (hS' : ∀ q, S' q → q < B) (hns : pathA v p ≠ .silent)
    (w : World) (hbel : Below B w0 w) (hB : B ≤ w.heap.size) : Calls Tryz.prog 20 #[u, y] w (Ret (JR w (pathA v p))) := by
  have H := Lib.hid (getpath_any gv gp hu hS hy hS' hns w hbel hB)
  have fu := hu.form
  have fy := hy.form
  clear hu hy hS hS' gv gp hns hbel
  generalize pathA v p = an at *
  rcases fu with rfl | ⟨tu, u, rfl⟩ <;> rcases fy with rfl | ⟨ty, y, rfl⟩
  all_goals
    go_enter Tryz.func20, Tryz.ntmps20
    go_wp2_with fail
    refine H.out.mono ?_
    rintro e w2 ⟨v, rfl, hv⟩
    have Hv := Lib.hid hv
    clear hv
    go_wp2_with fail
    go_ret
    exact ⟨_, rfl, Hv.out⟩

end Go.Proofs.YtiphcojcdegnkaaGreatDoor

namespace Go.Proofs.YtiphcojcdegnkaaGreatDoor
open Go Go.RowKit Go.Maps Go.Deep Go.WideMaps
attribute [local go_sem] assert_sl assert_sl_nil

def SetR (w : World) (S T : Nat → Prop) (o : Option J) (u : Value) (w' : World) : Prop := Below w.heap.size w w' ∧ (∀ z, o = some z → RepJ w' (NewS S T w w') z u) ∧ (o = none → ErrV u)
theorem SetR.form {w w' : World} {S T : Nat → Prop} {o : Option J} {u : Value} (h : SetR w S T o u w') : IsI u := by
  obtain ⟨_, h1, h2⟩ := h
  cases o with
  | some z => exact (h1 z rfl).form
  | none => obtain ⟨t, a, e⟩ := (h2 rfl).form; exact .inr ⟨_, _, e⟩

theorem setR_some {w w' : World} {S T : Nat → Prop} {o : Option J} {z : J} {u : Value} (ho : o = some z) (hb : Below w.heap.size w w') (h : RepJ w' (NewS S T w w') z u) : SetR w S T o u w' := by
  subst ho
  exact ⟨hb, fun z' e => by cases e; exact h, fun e => by cases e⟩
theorem setR_none {w w' : World} {S T : Nat → Prop} {o : Option J} {u : Value} (ho : o = none) (hb : Below w.heap.size w w') (h : ErrV u) : SetR w S T o u w' := by
  subst ho
  exact ⟨hb, fun z' e => (by cases e), fun _ => h⟩

set_option maxHeartbeats 2000000 in
set_option maxRecDepth 100000 in
theorem setpath_any {o : Option J} {x y : Value} {pa : Option Addr} {pn pc : Nat} {S T : Nat → Prop} {w : World} (fx : IsI x) (fy : IsI y) (H : Calls Tryz.prog 65 #[x, .slice pa pn pc, y, .map none] w (UpdR w S T o)) :
    Calls Tryz.prog 53 #[x, .iface 65 (.slice pa pn pc), y, .map none] w (Ret (SetR w S T o)) := by
  have HH := Lib.hid H
  clear H
  rcases fx with rfl | ⟨tx, x, rfl⟩ <;> rcases fy with rfl | ⟨ty, y, rfl⟩
  all_goals
    go_enter Tryz.func53, Tryz.ntmps53
    go_wp2_with fail
    refine HH.out.mono ?_
    rintro e w1 ⟨u, er, rfl, fu, fe, hb, hs, hn⟩
    cases ho : o with
    | none =>
      have he := hn ho
      obtain ⟨te, ae, rfl⟩ := he.form
      have Hb := Lib.hid hb
      clear hn hs fe he hb HH
      rcases fu with rfl | ⟨tu, u, rfl⟩
      all_goals
        go_wp2_with fail
        go_ret
        exact ⟨_, rfl, setR_none ho (keep_alloc Hb.out Hb.out.size _) (.func2WrapError _)⟩
    | some z =>
      obtain ⟨rfl, hr⟩ := hs z ho
      have Hr := Lib.hid hr
      have Hb := Lib.hid hb
      clear hn hs fe hr hb HH
      rcases fu with rfl | ⟨tu, u, rfl⟩
      all_goals
        go_wp2_with fail
        go_ret
        exact ⟨_, rfl, setR_some ho Hb.out Hr.out⟩

set_option maxHeartbeats 2000000 in
set_option maxRecDepth 100000 in
theorem zzSet_walk {R : Value → World → Prop} {x p y : Value} {w : World} (fx : IsI x) (fp : IsI p) (fy : IsI y) (H : Calls Tryz.prog 53 #[x, p, y, .map none] w (Ret R)) (hR : ∀ u w', R u w' → IsI u) : Calls Tryz.prog 22 #[x, p, y] w (Ret R) := by
  have F : Calls Tryz.prog 33 #[x, p, y] w (Ret R) := by
    have HH := Lib.hid H
    have HR := Lib.hid hR
    clear H hR
    rcases fx with rfl | ⟨tx, x, rfl⟩ <;> rcases fp with rfl | ⟨tp, p, rfl⟩ <;> rcases fy with rfl | ⟨ty, y, rfl⟩
    all_goals
      go_enter Tryz.func33, Tryz.ntmps33
      go_wp2_with fail
      refine HH.out.mono ?_
      rintro e w1 ⟨u, rfl, hr⟩
      have fu := HR.out u w1 hr
      have Hr := Lib.hid hr
      clear hr HH
      rcases fu with rfl | ⟨tu, u, rfl⟩
      all_goals
        go_wp2_with fail
        go_ret
        exact ⟨_, rfl, Hr.out⟩
  have HH := Lib.hid F
  have HR := Lib.hid hR
  clear H hR F
  rcases fx with rfl | ⟨tx, x, rfl⟩ <;> rcases fp with rfl | ⟨tp, p, rfl⟩ <;> rcases fy with rfl | ⟨ty, y, rfl⟩
  all_goals
    go_enter Tryz.func22, Tryz.ntmps22
    go_wp2_with fail
    refine HH.out.mono ?_
    rintro e w1 ⟨u, rfl, hr⟩
    have fu := HR.out u w1 hr
    have Hr := Lib.hid hr
    clear hr HH
    rcases fu with rfl | ⟨tu, u, rfl⟩
    all_goals
      go_wp2_with fail
      go_ret
      exact ⟨_, rfl, Hr.out⟩

theorem toJ_num (n : Nat) : toJ (numV n) = .int n := by
  unfold numV
  have e : (2 * (n : Int)).tmod 2 = 0 := by simp
  rw [toJ_3i _ _ _ _ e]
  simp
theorem toJ_str (s : ByteArray) : toJ (strV s) = .str s := toJ_4 _ _ _ _ _
/-- A tree of keys and places is a path. -/
theorem stps_rep {w : World} {S : Nat → Prop} {s : List Stp} {v : Value} (h : RepJ w S (.arr (toJL (s.map Stp.v))) v) (hS : ∀ k, S k → k < w.heap.size) : ∃ pa pn pc, v = .iface 65 (.slice pa pn pc) ∧ StpsAt w (.slice pa pn pc) s := by
  obtain ⟨a, c, t, rfl, hj, _, hc, hcb, hcel, hx, _⟩ := arr_open h
  have hlen : s.length = t.length := by
    have := congrArg List.length hj
    simpa [toJL_eq] using this
  refine ⟨a, t.length, c, rfl, a, c, by rw [hlen], by omega, by unfold capMax at hcb; omega, fun h0 => ?_⟩
  obtain ⟨b, o, e, hb, hce, _⟩ := hcel (by omega)
  refine ⟨b, o, e, hS _ hb, fun i hi => ?_⟩
  have hit : i < t.length := by omega
  rw [hce i hit]
  have hr := (hx _ (List.getElem_mem hit)).2
  have ej : t[i].j = toJ (s[i]).v := by
    have h1 : (t.map (·.j))[i]? = some t[i].j := by simp [hit]
    rw [← hj, toJL_eq] at h1
    simpa [hi] using h1.symm
  rw [ej] at hr
  generalize t[i].v = x at *
  cases hs : s[i] with
  | key k =>
    rw [hs, show Stp.v (.key k) = strV k from rfl, toJ_str] at hr
    cases hr
    rfl
  | idx n =>
    rw [hs, show Stp.v (.idx n) = numV n from rfl, toJ_num] at hr
    cases hr
    rfl

theorem toJ_slim {v : V} (g : Good v) (s : Small v) : Slim (toJ v) := by
  induction g with
  | @mk k h t l ks vs shape half valid list rise vkeys vals ihl ihv =>
    have gl : ks.length = vs.length ∧ 0 ≤ k ∧ k ≤ 6 := by
      simp only [shapeB, Bool.and_eq_true, decide_eq_true_eq, beq_iff_eq] at shape
      exact ⟨shape.2, shape.1.1.1.1.1.1, shape.1.1.1.1.1.2⟩
    cases s with
    | mk hl hks hvs sl sv =>
    have hc : k = 0 ∨ k = 1 ∨ k = 2 ∨ k = 3 ∨ k = 4 ∨ k = 5 ∨ k = 6 := by omega
    rcases hc with rfl | rfl | rfl | rfl | rfl | rfl | rfl
    · rw [toJ_0]; exact .null
    · rw [toJ_1]; exact .bool _
    · rw [toJ_2]; exact .bool _
    · by_cases e : h.tmod 2 = 0
      · rw [toJ_3i _ _ _ _ e]; exact .int _
      · rw [toJ_3f _ _ _ _ e]; exact .flt _
    · rw [toJ_4]; exact .str _
    · rw [toJ_5]
      refine .arr (by rw [toJL_len]; omega) fun x hx => ?_
      rw [toJL_eq] at hx
      obtain ⟨y, hy, rfl⟩ := List.mem_map.1 hx
      obtain ⟨i, hi, rfl⟩ := List.mem_iff_getElem.1 hy
      exact ihl i hi (sl i hi)
    · rw [toJ_6]
      refine .obj (by rw [toJM_len _ _ gl.1]; omega) fun p hp => ?_
      rw [toJM_eq] at hp
      have := (List.of_mem_zip hp).2
      obtain ⟨y, hy, e⟩ := List.mem_map.1 this
      rw [← e]
      obtain ⟨i, hi, rfl⟩ := List.mem_iff_getElem.1 hy
      exact ihv i hi (sv i hi)

/-- ZzSetPath at keys and places. -/
theorem zzSet_any {j n : J} {s : List Stp} (hs : ∀ x ∈ s, x.small) (hsl : Slim j) (hfi : Fine j s n) {S T U : Nat → Prop} {x p y : Value} {w : World} (hx : RepJ w S j x) (hp : RepJ w U (.arr (toJL (s.map Stp.v))) p) (hy : RepJ w T n y) (hd : ∀ k, S k → T k → False)
    (hS : ∀ k, S k → k < w.heap.size) (hU : ∀ k, U k → k < w.heap.size) (hT : ∀ k, T k → k < w.heap.size) : Calls Tryz.prog 22 #[x, p, y] w (Ret (SetR w S T (updJ j s n))) := by
  obtain ⟨pa, pn, pc, rfl, hst⟩ := stps_rep hp hU
  exact zzSet_walk hx.form (.inr ⟨_, _, rfl⟩) hy.form (setpath_any hx.form hy.form (update_any n y s hs j x _ S T w hsl hfi hx hy hd hS hT hst)) fun u w' h => h.form

end Go.Proofs.YtiphcojcdegnkaaGreatDoor

namespace Go.Proofs.YtiphcojcdegnkaaGreatDoor
open Go Go.RowKit Go.Deep

set_option maxHeartbeats 1000000 in
set_option maxRecDepth 100000 in
theorem implGet_walk {w0 : World} {B : Nat} {a b : V} {ca cb : List Value} (ha : RepV w0 B a ca) (hb : RepV w0 B b cb) (an : Ans)
    (ta : ToGoOK w0 B a ca) (tb : ToGoOK w0 B b cb)
    (hz : ∀ w x y, RepJ w (fun k => k < w.heap.size) (toJ a) x → RepJ w (fun k => k < w.heap.size) (toJ b) y → Calls Tryz.prog 20 #[x, y] w (Ret (SubR w an)))
    (w : World) (hbel : Below B w0 w) (hB : B ≤ w.heap.size) : Calls Tryz.prog 10 #[.agg ca.toArray, .agg cb.toArray] w (ResQ w an) := by
  have Ta := Lib.hid ta; clear ta
  have Tb := Lib.hid tb; clear tb
  have Hz := Lib.hid hz; clear hz
  have Hbel := Lib.hid hbel; clear hbel
  obtain ⟨k, h, t, la, ka, va, nl, cl, nk, ck, nv, cv, rfl⟩ := ha.shape
  obtain ⟨k', h', t', la', ka', va', nl', cl', nk', ck', nv', cv', rfl⟩ := hb.shape
  clear ha hb
  go_enter Tryz.func10, Tryz.ntmps10
  go_wp2_with fail
  have h0 := at_alloc3 w (.cells #[.int .i64 k, .int .i64 h, .string t, .slice la nl cl, .slice ka nk ck, .slice va nv cv] 26)
    (.cells #[.int .i64 k', .int .i64 h', .string t', .slice la' nl' cl', .slice ka' nk' ck', .slice va' nv' cv'] 26)
    (.cells #[.int .i64 0, .int .i64 0, .string ⟨#[]⟩, .slice none 0 0, .slice none 0 0, .slice none 0 0, .int .i64 0] 35)
  obtain ⟨hbW, hsW, hx1, hx2⟩ := h0
  refine (Ta.out _ (Hbel.out.trans (hbW.mono hB)) (by rw [hsW]; omega)).mono ?_
  generalize ((w.alloc _).alloc _).alloc _ = W at *
  rintro e w1 ⟨x, rfl, jx, hw1⟩
  have hs1 : w.heap.size + 3 ≤ w1.heap.size := by have := hw1.size; omega
  have y1 := (hw1.block (w.heap.size + 1) (by omega)).trans hx1
  have y2 := (hw1.block (w.heap.size + 1 + 1) (by omega)).trans hx2
  have hb1 : Below w.heap.size w w1 := hbW.trans (hw1.mono (by omega))
  obtain ⟨e0, e1, e2, e3, e4, e5⟩ := of_block6 y1
  have fx := jx.form
  have Jx := Lib.hid jx; clear jx
  have Hw1 := Lib.hid hw1; clear hw1
  go_wp2_with fail
  refine (Tb.out _ (Hbel.out.trans (hb1.mono hB)) (by omega)).mono ?_
  rintro e w2 ⟨y, rfl, jy, hw2⟩
  have hs2 : w.heap.size + 3 ≤ w2.heap.size := by have := hw2.size; omega
  have z2 := (hw2.block (w.heap.size + 1 + 1) (by omega)).trans y2
  have hb2 : Below w.heap.size w w2 := hb1.trans (hw2.mono (by omega))
  have jx2 := Jx.out.under hw2 (fun k hk => hk.2)
  have fy := jy.form
  have Z := Lib.hid (Hz.out _ _ _ (jx2.mono (fun k hk => by have := hk.2; have := hw2.size; omega)) (jy.mono (fun k hk => hk.2)))
  clear jx2 jy Jx
  rcases fx with rfl | ⟨tx, x, rfl⟩ <;> rcases fy with rfl | ⟨ty, y, rfl⟩
  all_goals
    go_wp2_with fail
    refine Z.out.mono ?_
    rintro e w3 ⟨u, rfl, hfu, hu, hw3⟩
    have hs3 : w.heap.size + 3 ≤ w3.heap.size := by have := hw3.size; omega
    have z3 := (hw3.block (w.heap.size + 1 + 1) (by omega)).trans z2
    have hb3 : Below w.heap.size w w3 := hb2.trans (hw3.mono (by omega))
    have U := Lib.hid hu
    clear hu
    rcases hfu with rfl | ⟨tu, u, rfl⟩
    all_goals
      go_wp2_with fail
      refine U.out.mono ?_
      rintro e w4 ⟨k, h, t, la, ka, va, nl, cl, nk, ck, nv, cv, n, rfl, hR, hw4⟩
      have hs4 : w.heap.size + 3 ≤ w4.heap.size := by have := hw4.size; omega
      have z4 := (hw4.block (w.heap.size + 1 + 1) (by omega)).trans z3
      obtain ⟨e0, e1, e2, e3, e4, e5, e6⟩ := of_block7 z4
      obtain ⟨f0, f1, f2, f3, f4, f5, f6⟩ := free_block7 z4
      have Hst := Lib.hid (resQ_store (z := w.heap.size + 1 + 1) (by omega) (by omega) hb3 hw4 hR)
      clear hR
      go_wp2_with fail
      refine bodyPost_ret (v := .agg #[.int .i64 k, .int .i64 h, .string t, .slice la nl cl, .slice ka nk ck, .slice va nv cv, .int .i64 n]) ?_ rfl Hst.out
      exact results_cell_row (p := 4) (ty := 35) rfl _ _ (w.heap.size + 1 + 1) 35 _ (0, 0) _ rfl (set_row7 z4 _ _ _ _ _ _ _) Tryz.underlying35 rfl (by kernel_rfl)

theorem small_row {l : List V} (hl : l.length * 104 ≤ 140737488351232) (h : ∀ x ∈ l, Small x) : Small (.mk 5 0 ⟨#[]⟩ l [] []) :=
  .mk hl (by simp) (by simp) (fun i hi => h _ (List.getElem_mem hi)) (fun i hi => by simp at hi)
theorem small_null : Small nullV := .mk (by simp) (by simp) (by simp) (fun i hi => by simp at hi) (fun i hi => by simp at hi)
theorem Small.parts {v : V} (h : Small v) : v.list.length * 104 ≤ 140737488351232 ∧ (∀ x ∈ v.list, Small x) ∧ ∀ x ∈ v.vals, Small x := by
  cases h with
  | mk hl hks hvs sl sv =>
    refine ⟨hl, fun x hx => ?_, fun x hx => ?_⟩
    · obtain ⟨i, hi, rfl⟩ := List.mem_iff_getElem.1 hx
      exact sl i hi
    · obtain ⟨i, hi, rfl⟩ := List.mem_iff_getElem.1 hx
      exact sv i hi
theorem stepA_small {v k x : V} (s : Small v) (h : stepA v k = .fine x) : Small x := by
  obtain ⟨hl, sl, sv⟩ := s.parts
  refine stepA_own (P := Small) small_null s sl sv (fun a n => small_row ?_ fun y hy => sl y (List.mem_of_mem_drop (List.mem_of_mem_take hy))) h
  have : ((v.list.drop a).take n).length ≤ v.list.length := by simp; omega
  omega
theorem pathA_small : ∀ {p : List V} {v x : V}, Small v → pathA v p = .fine x → Small x
  | [], v, x, g, h => by cases h; exact g
  | k :: p, v, x, g, h => by
    simp only [pathA] at h
    cases hs : stepA v k with
    | fine y => rw [hs] at h; exact pathA_small (stepA_small g hs) h
    | raises => rw [hs] at h; cases h
    | silent => rw [hs] at h; cases h

theorem subR_of {w w' : World} {an : Ans} {v : Value} (hg : ∀ y, an = .fine y → Good y ∧ Small y) (hns : an ≠ .silent) (h : JR w an v w') : SubR w an v w' := by
  obtain ⟨hb, hf, hr⟩ := h
  cases an with
  | fine y =>
    have hj := hf y rfl
    obtain ⟨gy, sy⟩ := hg y rfl
    exact ⟨hj.form, resQ_val (result_val hj.noErr hj.form w' w'.heap.size (fromGo_any gy sy w' w'.heap.size _ _ hj (fun k hk => hk)) w' (Below.refl _ _) (Nat.le_refl _)) (.inl rfl), hb⟩
  | raises =>
    have hv := hr rfl
    exact ⟨by obtain ⟨t, a, rfl⟩ := hv.form; exact .inr ⟨_, _, rfl⟩, resQ_err hv _, hb⟩
  | silent => exact absurd rfl hns

theorem implGet_any {w0 : World} {B : Nat} {v : V} {p : List V} {cv cb : List Value} (hv : RepV w0 B v cv) (hp : RepV w0 B (.mk 5 0 ⟨#[]⟩ p [] []) cb) (gv : Good v) (gp : ∀ x ∈ p, Good x) (hns : pathA v p ≠ .silent)
    (w : World) (hbel : Below B w0 w) (hB : B ≤ w.heap.size) : Calls Tryz.prog 10 #[.agg cv.toArray, .agg cb.toArray] w (ResQ w (pathA v p)) :=
  implGet_walk hv hp _ (toGo_any w0 B v cv hv gv) (toGo_any w0 B _ cb hp (good_row gp))
    (fun w x y jx jy => (zzGetPath_any gv gp jx (fun _ h => h) (by rw [toJ_5] at jy; exact jy) (fun _ h => h) hns w (Below.refl _ _) (Nat.le_refl _)).mono fun e w' ⟨r, he, hr⟩ => ⟨r, he, subR_of (fun y hy => ⟨pathA_good gv hy, pathA_small hv.small hy⟩) hns hr⟩) w hbel hB

end Go.Proofs.YtiphcojcdegnkaaGreatDoor
