/- What impl.OpMod answers is what spec.rest says. -/
import Derived.Test.YtmcahfcihhddjaaGreatDoorTold
import Derived.Test.YtmcahfcihhddjaaGreatDoorFit
namespace Go.Proofs.YtmcahfcihhddjaaGreatDoor
open Go Go.RowKit

/-- What laws.told lets by. -/
def ToldOK (r v : Value) (n : Int) : Prop :=
  (n = 1 ∧ r = resEnd 1) ∨ n = 2 ∨ (n = 0 ∧ ∃ h, r = resNum h ∧ v = numV 3 h)

theorem toJ_num (h : Int) (t : ByteArray) (l : List V) (ks : List ByteArray) (vs : List V) : toJ (.mk 3 h t l ks vs) = if h.tmod 2 = 0 then .int (h.tdiv 2) else .flt (halfBits h) := by
  unfold toJ
  rw [if_neg (by omega), if_neg (by omega), if_neg (by omega), if_pos rfl]

theorem toJ_other {k h : Int} {t : ByteArray} {l : List V} {ks : List ByteArray} {vs : List V} (hk : k ≠ 3) : (∀ n, toJ (.mk k h t l ks vs) ≠ .int n) ∧ ∀ n, toJ (.mk k h t l ks vs) ≠ .flt n := by
  unfold toJ
  constructor <;> intro n <;> (repeat' split) <;> first | (intro e; cases e; done) | (exact absurd (by assumption) hk)

theorem modR_other {j k : J} {v : Value} (h : ((∀ n, j ≠ .int n) ∧ ∀ n, j ≠ .flt n) ∨ ((∀ n, k ≠ .int n) ∧ ∀ n, k ≠ .flt n)) (m : ModR j k v) : v = resEnd 1 := by
  rcases h with ⟨h1, h2⟩ | ⟨h1, h2⟩ <;> cases j <;> cases k <;> first | exact m | exact absurd rfl (h1 _) | exact absurd rfl (h2 _)

theorem mod_law {a b : V} (ga : Good a) (gb : Good b) {v r : Value} {n : Int} (hP : RestP a.kind a.half b.kind b.half v n) (hR : ModR (toJ a) (toJ b) r) : ToldOK r v n := by
  obtain ⟨k, h, t, l, ks, vs⟩ := a
  obtain ⟨k', h', t', l', ks', vs'⟩ := b
  simp only [V.kind, V.half] at hP
  unfold RestP at hP
  by_cases c : k ≠ 3 ∨ k' ≠ 3
  · rw [if_pos c] at hP
    exact .inl ⟨hP, modR_other (c.imp toJ_other toJ_other) hR⟩
  · rw [if_neg c] at hP
    have k3 : k = 3 := Decidable.byContradiction fun e => c (.inl e)
    have k4 : k' = 3 := Decidable.byContradiction fun e => c (.inr e)
    subst k3 k4
    rw [toJ_num, toJ_num] at hR
    by_cases z : h' = 0
    · rw [if_pos z] at hP
      subst z
      refine .inl ⟨hP, ?_⟩
      rw [if_pos (show (0 : Int).tmod 2 = 0 from rfl)] at hR
      split at hR
      · exact hR
      · exact hR rfl
    · rw [if_neg z] at hP
      by_cases q : h.tmod 2 ≠ 0 ∨ h'.tmod 2 ≠ 0 ∨ h < 0 ∨ h' < 0
      · rw [if_pos q] at hP
        exact .inr (.inl hP)
      · rw [if_neg q] at hP
        obtain ⟨hn, hv⟩ := hP
        have e1 : h.tmod 2 = 0 := Decidable.byContradiction fun e => q (.inl e)
        have e2 : h'.tmod 2 = 0 := Decidable.byContradiction fun e => q (.inr (.inl e))
        have n1 : 0 ≤ h := by omega
        have n2 : 0 ≤ h' := by omega
        rw [if_pos e1, if_pos e2] at hR
        have ma := Int.mul_tdiv_add_tmod h 2
        have mb := Int.mul_tdiv_add_tmod h' 2
        have hh : h ≤ 18014398509481984 := by
          have := ga.parts.2.1
          simp only [halfB, Bool.and_eq_true, decide_eq_true_eq] at this
          exact this.1.2
        have r0 : h'.tdiv 2 ≠ 0 := by omega
        have r1 : h'.tdiv 2 ≠ -1 := by omega
        have hR : r = intRes (if h'.tdiv 2 = -1 then 0 else (h.tdiv 2).tmod (h'.tdiv 2)) := by
          have : (if h'.tdiv 2 = 0 then r = resEnd 1 else r = intRes (if h'.tdiv 2 = -1 then 0 else (h.tdiv 2).tmod (h'.tdiv 2))) := hR
          rw [if_neg r0] at this
          exact this
        rw [if_neg r1] at hR
        have rg := (tmod_range (h.tdiv 2) (h'.tdiv 2)).1 (by omega)
        generalize (h.tdiv 2).tmod (h'.tdiv 2) = x at *
        unfold intRes at hR
        rw [if_pos (by omega)] at hR
        have hw : wrap64 (2 * x) = 2 * x := by unfold wrap64; omega
        rw [hw] at hv
        exact .inr (.inr ⟨hn, _, hR, hv⟩)

theorem told_any {k h k' h' n m : Int} {t t' : ByteArray} {la ka va la' ka' va' : Option Addr} {nl cl nk ck nv cv nl' cl' nk' ck' nv' cv' : Nat} (w : World)
    (h0 : ToldOK (.agg #[.int .i64 k, .int .i64 h, .string t, .slice la nl cl, .slice ka nk ck, .slice va nv cv, .int .i64 n]) (.agg #[.int .i64 k', .int .i64 h', .string t', .slice la' nl' cl', .slice ka' nk' ck', .slice va' nv' cv']) m) :
    Calls Tryz.prog 8 #[.agg #[.int .i64 k, .int .i64 h, .string t, .slice la nl cl, .slice ka nk ck, .slice va nv cv, .int .i64 n], .agg #[.int .i64 k', .int .i64 h', .string t', .slice la' nl' cl', .slice ka' nk' ck', .slice va' nv' cv'], .int .i64 m] w (Yes w) := by
  rcases h0 with ⟨rfl, e⟩ | rfl | ⟨rfl, x, e, e'⟩
  · have e1 : n = 1 := by
      simp [resEnd] at e
      exact e.2.2.2.2.2.2
    subst e1
    exact told_raises _ _ _ _ _ _ _ _ _ _ _ _ _ _ _ _ _ _ _ _ _ _ _ _ w
  · exact told_silent _ _ _ _ _ _ _ _ _ _ _ _ _ _ _ _ _ _ _ _ _ _ _ _ _ w
  · rw [e, e']
    exact told_num x w

end Go.Proofs.YtmcahfcihhddjaaGreatDoor
