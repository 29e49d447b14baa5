/- What impl.result returns for an answer of the reference; what laws.told says of it. -/
import Derived.Test.YtiphcojcdegnkaaGreatDoorM15
import Derived.Test.YtiphcojcdegnkaaGreatDoorM06
namespace Go.Proofs.YtiphcojcdegnkaaGreatDoor
open Go Go.RowKit Go.Maps Go.Deep

/-- What impl.result returns where the answer is an. -/
def ResQ (w : World) (an : Ans) (e : Ending) (w' : World) : Prop :=
  ∃ (k h : Int) (t : ByteArray) (la ka va : Option Addr) (nl cl nk ck nv cv : Nat) (n : Int), e = .returned (.agg #[.int .i64 k, .int .i64 h, .string t, .slice la nl cl, .slice ka nk ck, .slice va nv cv, .int .i64 n]) ∧
    ((∀ v, an = .fine v → n = 0 ∧ RepS w' (FreshS w.heap.size w'.heap.size) v [.int .i64 k, .int .i64 h, .string t, .slice la nl cl, .slice ka nk ck, .slice va nv cv]) ∧ (an = .raises → n = 1)) ∧ Below w.heap.size w w'

theorem resQ_val {w : World} {x : Value} {v : V} {an : Ans} (h : Calls Tryz.prog 19 #[x] w (ResV w v)) (ha : an = .fine v ∨ an = .silent) : Calls Tryz.prog 19 #[x] w (ResQ w an) := by
  refine h.mono ?_
  rintro e w' ⟨c0, c1, c2, c3, c4, c5, rfl, hr, hb⟩
  obtain ⟨k, h, t, la, ka, va, nl, cl, nk, ck, nv, cv, e⟩ := hr.shape
  simp only [List.cons.injEq, and_true] at e
  obtain ⟨rfl, rfl, rfl, rfl, rfl, rfl⟩ := e
  refine ⟨_, _, _, _, _, _, _, _, _, _, _, _, _, rfl, ⟨fun v' hv => ?_, fun hv => ?_⟩, hb⟩
  · rcases ha with ha | ha
    · rw [ha] at hv
      cases hv
      exact ⟨rfl, hr⟩
    · rw [ha] at hv; cases hv
  · rcases ha with ha | ha <;> (rw [ha] at hv; cases hv)

theorem resQ_err {u : Value} (hu : ErrV u) (w : World) : Calls Tryz.prog 19 #[u] w (ResQ w .raises) :=
  (result_err u hu w).mono fun e w' ⟨he, hb⟩ => ⟨_, _, _, _, _, _, _, _, _, _, _, _, _, he, ⟨fun v hv => (by cases hv), fun _ => rfl⟩, hb⟩

theorem resQ_flt {x : Nat} (hx : FloatKind.f64.format.order x x = some .eq) (w : World) : Calls Tryz.prog 19 #[.iface 64 (.float .f64 x)] w (ResQ w .silent) := by
  have hm : ∃ y, FloatKind.f64.format.mul 4611686018427387904 x = some y ∧ ∀ s t, FloatKind.f64.decode y ≠ .nan s t := by
    have hn : ∀ y, Ieee.double.order y y = some .eq → ∀ s t, FloatKind.f64.decode y ≠ .nan s t := fun y hy s t e => by
      have : Ieee.double.read y = .nan s t := e
      unfold Ieee.Format.order at hy
      rw [this] at hy
      cases hy
    have h0 : Ieee.Datum.order (Ieee.double.read x) (Ieee.double.read x) = some .eq := hx
    cases hr : Ieee.double.read x with
    | nan s t => rw [hr] at h0; cases h0
    | number s m i =>
      refine ⟨Ieee.double.nearest (false ^^ s) (2 ^ 52 * m) (-51 + i), ?_, hn _ (near_ok _ _ _)⟩
      show Ieee.double.mul _ _ = _
      unfold Ieee.Format.mul
      rw [hr, two_read]
      simp only [Ieee.Datum.product, Option.map_some, Ieee.Format.write]
    | infinity s =>
      refine ⟨Ieee.double.word (false ^^ s) Ieee.double.infRung, ?_, hn _ (word_ok _ (by rw [infRung_double]; exact Nat.le_refl _))⟩
      show Ieee.double.mul _ _ = _
      unfold Ieee.Format.mul
      rw [hr, two_read]
      simp [Ieee.Datum.product, Ieee.Format.write]
  obtain ⟨y, hy, hny⟩ := hm
  refine (result_half (fun _ _ => True) (fun w => fromGo_flt x y hy (fun _ _ => True) (fun w => (half_any y hny w).mono fun e w' ⟨b, h, he, _, _, hb⟩ => ⟨b, h, trivial, he, hb⟩) w) w).mono ?_
  rintro e w' ⟨b, h, _, rfl, hb⟩
  exact ⟨_, _, _, _, _, _, _, _, _, _, _, _, _, rfl, ⟨fun v hv => (by cases hv), fun hv => (by cases hv)⟩, hb⟩

/-- What a callback leaves, for impl.result. -/
abbrev SubR (w : World) (an : Ans) (v : Value) (w' : World) : Prop := (v = .nilIface ∨ ∃ t y, v = .iface t y) ∧ Calls Tryz.prog 19 #[v] w' (ResQ w' an) ∧ Below w.heap.size w w'

theorem subR_err {w : World} {f : Nat} {args : Array Value} (h : Calls Tryz.prog f args w (RetErr w)) : Calls Tryz.prog f args w (Ret (SubR w .raises)) :=
  h.mono fun _ _ ⟨v, he, hv, hb⟩ => ⟨v, he, by obtain ⟨t, a, rfl⟩ := hv.form; exact .inr ⟨_, _, rfl⟩, resQ_err hv _, hb⟩

theorem resQ_store {w w3 w4 : World} {an : Ans} {z : Nat} {k h : Int} {t : ByteArray} {la ka va : Option Addr} {nl cl nk ck nv cv : Nat} {n : Int} (hz : w.heap.size ≤ z) (hz2 : z < w3.heap.size) (hb3 : Below w.heap.size w w3) (hb4 : Below w3.heap.size w3 w4)
    (hR : (∀ v, an = .fine v → n = 0 ∧ RepS w4 (FreshS w3.heap.size w4.heap.size) v [.int .i64 k, .int .i64 h, .string t, .slice la nl cl, .slice ka nk ck, .slice va nv cv]) ∧ (an = .raises → n = 1)) :
    ResQ w an (.returned (.agg #[.int .i64 k, .int .i64 h, .string t, .slice la nl cl, .slice ka nk ck, .slice va nv cv, .int .i64 n]))
      (((((((w4.setCell ⟨z, 0, none⟩ (.int .i64 k)).setCell ⟨z, 1, none⟩ (.int .i64 h)).setCell ⟨z, 2, none⟩ (.string t)).setCell ⟨z, 3, none⟩ (.slice la nl cl)).setCell ⟨z, 4, none⟩ (.slice ka nk ck)).setCell ⟨z, 5, none⟩ (.slice va nv cv)).setCell ⟨z, 6, none⟩ (.int .i64 n)) := by
  have h3 := hb3.size
  have h4 := hb4.size
  refine ⟨_, _, _, _, _, _, _, _, _, _, _, _, _, rfl, ⟨fun v hv => ?_, hR.2⟩, ?_⟩
  · obtain ⟨e, hr⟩ := hR.1 v hv
    refine ⟨e, hr.turn fun q hq => ⟨set7_other _ _ _ _ _ _ _ _ _ _ ?_, ?_⟩⟩
    · unfold FreshS at hq; omega
    · unfold FreshS at hq ⊢
      rw [set7_size]
      omega
  · exact (((((((hb3.trans (hb4.mono h3)).setCell (by simp; omega) _).setCell (by simp; omega) _).setCell (by simp; omega) _).setCell (by simp; omega) _).setCell (by simp; omega) _).setCell (by simp; omega) _).setCell (by simp; omega) _

/-- What a result of seven cells says, where the answer is an. -/
def Got (w : World) (an : Ans) (k h : Int) (t : ByteArray) (la ka va : Option Addr) (nl cl nk ck nv cv : Nat) (n : Int) : Prop :=
  (∀ v, an = .fine v → n = 0 ∧ RepV w w.heap.size v [.int .i64 k, .int .i64 h, .string t, .slice la nl cl, .slice ka nk ck, .slice va nv cv]) ∧ (an = .raises → n = 1)

/-- A result of seven cells; new memory alone since W. -/
def GotFrom (W : World) (an : Ans) (e : Ending) (w' : World) : Prop :=
  ∃ (k h : Int) (t : ByteArray) (la ka va : Option Addr) (nl cl nk ck nv cv : Nat) (n : Int), e = .returned (.agg #[.int .i64 k, .int .i64 h, .string t, .slice la nl cl, .slice ka nk ck, .slice va nv cv, .int .i64 n]) ∧
    Got w' an k h t la ka va nl cl nk ck nv cv n ∧ Below W.heap.size W w'

theorem ResQ.from {W w : World} {an : Ans} {e : Ending} {w' : World} (h : ResQ w an e w') (hw : Below W.heap.size W w) : GotFrom W an e w' := by
  obtain ⟨k, h, t, la, ka, va, nl, cl, nk, ck, nv, cv, n, he, hR, hb⟩ := h
  exact ⟨k, h, t, la, ka, va, nl, cl, nk, ck, nv, cv, n, he, ⟨fun v hv => ⟨(hR.1 v hv).1, (hR.1 v hv).2.toV fun q hq => hq.2⟩, hR.2⟩, hw.trans (hb.mono hw.size)⟩

theorem told_ans {w : World} {an : Ans} (hg : ∀ v, an = .fine v → Good v) {k h n k1 h1 : Int} {t t1 : ByteArray} {la ka va la1 ka1 va1 : Option Addr} {nl cl nk ck nv cv nl1 cl1 nk1 ck1 nv1 cv1 : Nat}
    (hR : Got w an k h t la ka va nl cl nk ck nv cv n) (hP : ∀ v, an = .fine v → RepV w w.heap.size v [.int .i64 k1, .int .i64 h1, .string t1, .slice la1 nl1 cl1, .slice ka1 nk1 ck1, .slice va1 nv1 cv1]) :
    Calls Tryz.prog 9 #[.agg #[.int .i64 k, .int .i64 h, .string t, .slice la nl cl, .slice ka nk ck, .slice va nv cv, .int .i64 n], .agg #[.int .i64 k1, .int .i64 h1, .string t1, .slice la1 nl1 cl1, .slice ka1 nk1 ck1, .slice va1 nv1 cv1], .int .i64 an.how] w (Yes w) := by
  cases an with
  | raises =>
    obtain rfl := hR.2 rfl
    exact told_raises _ _ _ _ _ _ _ _ _ _ _ _ _ _ _ _ _ _ _ _ _ _ _ _ w
  | silent => exact told_silent _ _ _ _ _ _ _ _ _ _ _ _ _ _ _ _ _ _ _ _ _ _ _ _ _ w
  | fine v =>
    obtain ⟨rfl, r1⟩ := hR.1 v rfl
    have := told_val w v v _ _ _ _ _ _ _ r1 (hP v rfl)
    rw [(sameB_iff (hg v rfl) (hg v rfl)).2 rfl] at this
    exact this

end Go.Proofs.YtiphcojcdegnkaaGreatDoor
