/- impl.OpMod of two values that are good. -/
import Derived.Test.YtmcahfcihhddjaaGreatDoorMod5
namespace Go.Proofs.YtmcahfcihhddjaaGreatDoor
open Go Go.RowKit

open Ieee in
theorem half_ok (h : Int) (h1 : -9007199254740992 < h) (h2 : h < 9007199254740992) (h0 : h ≠ 0) : FltOK (halfBits h) := by
  have e : halfBits h = (double.div (double.nearest (decide (h < 0)) h.natAbs 0) 4611686018427387904).getD 0 := rfl
  have q : ∃ n m p, double.div (double.nearest (decide (h < 0)) h.natAbs 0) 4611686018427387904 = some (double.nearest n m p) := by
    unfold Format.div
    rw [near_read (decide (h < 0)) (by omega) (by omega) (by omega) (by omega), two_read]
    exact ⟨_, _, _, rfl⟩
  obtain ⟨n, m, p, q⟩ := q
  rw [e, q]
  exact near_ok _ _ _

theorem half_odd {h : Int} (g : halfB h = true) (o : h.tmod 2 ≠ 0) : -9007199254740992 < h ∧ h < 9007199254740992 ∧ h ≠ 0 := by
  simp only [halfB, Bool.and_eq_true, decide_eq_true_eq, Bool.or_eq_true, beq_iff_eq] at g
  refine ⟨by omega, by omega, ?_⟩
  intro e
  rw [e] at o
  exact o rfl

theorem numOK_toJ {v : V} (g : Good v) : NumOK (toJ v) := by
  obtain ⟨k, h, t, l, ks, vs⟩ := v
  obtain ⟨_, hhalf, _⟩ := g.parts
  unfold toJ
  split
  · trivial
  · split
    · trivial
    · split
      · trivial
      · split
        · split
          · trivial
          · rename_i o
            obtain ⟨a, b, c⟩ := half_odd hhalf o
            exact half_ok h a b c
        · split
          · trivial
          · split <;> trivial

/-- impl.Res of an integer. -/
def intRes (n : Int) : Value := if -4611686018427387904 ≤ n ∧ n ≤ 4611686018427387903 then resNum (2 * n) else resEnd 3

/-- What impl.OpMod gives. -/
def ModR (j k : J) (v : Value) : Prop :=
  match j, k with
  | .int l, .int r => if r = 0 then v = resEnd 1 else v = intRes (if r = -1 then 0 else l.tmod r)
  | .int _, .flt _ => True
  | .flt _, .flt _ => True
  | .flt _, .int r => r = 0 → v = resEnd 1
  | _, _ => v = resEnd 1

def ModQ (j k : J) (v : Value) : Prop :=
  match j, k with
  | .flt _, .int r => ModFF v ∧ (r = 0 → ErrV v)
  | .int l, .int r => ModII l r v ∧ (-9223372036854775808 ≤ l ∧ l ≤ 9223372036854775807)
  | j, k => ModJ j k v

theorem zzMod_all {w : World} {S S' : Nat → Prop} {j k : J} {x y : Value} (hx : RepJ w S j x) (hy : RepJ w S' k y) (nx : NumOK j) (ny : NumOK k) :
    Calls Tryz.prog 24 #[x, y] w (ModRes w (ModQ j k)) := by
  have h := zzMod_any hx hy nx ny
  by_cases c : ∃ b, j = .flt b ∧ k = .int 0
  · obtain ⟨b, rfl, rfl⟩ := c
    cases hx
    cases hy
    refine (zzMod_f0 b nx).mono ?_
    rintro e w' ⟨v, rfl, hv, hw⟩
    exact ⟨v, rfl, ⟨.inl hv, fun _ => hv⟩, hw⟩
  · refine h.mono ?_
    rintro e w' ⟨v, rfl, hv, hw⟩
    refine ⟨v, rfl, ?_, hw⟩
    cases j <;> cases k <;> first | exact hv | skip
    · cases hx with
      | int _ _ hl => exact ⟨hv, hl⟩
    · rename_i b r
      exact ⟨hv, fun e => absurd ⟨b, rfl, by rw [e]⟩ c⟩

theorem resAt_end {w w' : World} {R : Value → Prop} (n : Int) (hR : R (resEnd n)) (hw : Below w.heap.size w w') : ResAt w R (.returned (resEnd n)) w' :=
  ⟨_, _, _, _, _, _, _, _, _, _, _, _, _, rfl, hR, hw⟩
theorem resAt_num {w w' : World} {R : Value → Prop} (n : Int) (hR : R (resNum n)) (hw : Below w.heap.size w w') : ResAt w R (.returned (resNum n)) w' :=
  ⟨_, _, _, _, _, _, _, _, _, _, _, _, _, rfl, hR, hw⟩

theorem res_err {u : Value} (hu : ErrV u) {R : Value → Prop} (hR : R (resEnd 1)) (w : World) : Calls Tryz.prog 23 #[u] w (ResAt w R) :=
  (result_err u hu w).mono fun e w' h => by obtain ⟨rfl, h⟩ := h; exact resAt_end 1 hR h

theorem res_int {n : Int} {R : Value → Prop} (hR : R (intRes n)) (w : World) : Calls Tryz.prog 23 #[.iface 3 (.int .i64 n)] w (ResAt w R) := by
  unfold intRes at hR
  by_cases h : -4611686018427387904 ≤ n ∧ n ≤ 4611686018427387903
  · rw [if_pos h] at hR
    exact (result_int n w h).mono fun e w' k => by obtain ⟨rfl, k⟩ := k; exact resAt_num _ hR k
  · rw [if_neg h] at hR
    exact (result_out n w (by omega)).mono fun e w' k => by obtain ⟨rfl, k⟩ := k; exact resAt_end _ hR k

theorem res_ff {u : Value} (hu : ModFF u) {R : Value → Prop} (hR : ∀ v, R v) (w : World) : Calls Tryz.prog 23 #[u] w (ResAt w R) := by
  rcases hu with hu | ⟨n, rfl, _⟩
  · exact res_err hu (hR _) w
  · exact res_int (hR _) w

theorem modQ_res {j k : J} {u : Value} (hu : ModQ j k u) (w : World) : Calls Tryz.prog 23 #[u] w (ResAt w (ModR j k)) := by
  cases j <;> cases k
  case int.int l r =>
    obtain ⟨hu, _⟩ := hu
    unfold ModII at hu
    by_cases h0 : r = 0
    · rw [if_pos h0] at hu
      exact res_err hu (by show (if r = 0 then _ else _); rw [if_pos h0]) w
    · rw [if_neg h0] at hu
      subst hu
      exact res_int (by show (if r = 0 then _ else _); rw [if_neg h0]) w
  case int.flt => exact res_ff hu (fun _ => trivial) w
  case flt.flt => exact res_ff hu (fun _ => trivial) w
  case flt.int b r =>
    obtain ⟨hu, h0⟩ := hu
    by_cases c : r = 0
    · exact res_err (h0 c) (fun _ => rfl) w
    · exact res_ff hu (fun _ e => absurd e c) w
  all_goals (refine res_err hu ?_ w; exact (rfl : resEnd 1 = resEnd 1))

theorem opMod_any {w0 : World} {B : Nat} {a b : V} {ca cb : List Value} (ha : RepV w0 B a ca) (hb : RepV w0 B b cb) (ga : Good a) (gb : Good b)
    (w : World) (hbel : Below B w0 w) (hB : B ≤ w.heap.size) : Calls Tryz.prog 9 #[.agg ca.toArray, .agg cb.toArray] w (ResAt w (ModR (toJ a) (toJ b))) :=
  opMod_walk ha hb (ModQ (toJ a) (toJ b)) _ (toGo_any w0 B a ca ha ga) (toGo_any w0 B b cb hb gb)
    (fun _ _ _ _ _ jx jy => zzMod_all jx jy (numOK_toJ ga) (numOK_toJ gb)) (fun _ hu w => modQ_res hu w) w hbel hB

end Go.Proofs.YtmcahfcihhddjaaGreatDoor
