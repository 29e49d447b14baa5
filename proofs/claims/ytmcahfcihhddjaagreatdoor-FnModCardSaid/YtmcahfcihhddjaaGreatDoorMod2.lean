/- Contracts of the callbacks of gojq.funcOpMod. -/
import Derived.Test.YtmcahfcihhddjaaGreatDoorMod1
import Derived.Test.YtmcahfcihhddjaaGreatDoorErr
namespace Go.Proofs.YtmcahfcihhddjaaGreatDoor
open Go Go.RowKit

def ModRes (w : World) (P : Value → Prop) : Ending → World → Prop := Ret fun v w' => P v ∧ Below w.heap.size w w'

def ModII (l r : Int) (v : Value) : Prop := if r = 0 then ErrV v else v = .iface 3 (.int .i64 (if r = -1 then 0 else l.tmod r))

set_option maxRecDepth 100000 in
theorem mod_ii (l r : Int) (w : World) (_hl : -9223372036854775808 ≤ l ∧ l ≤ 9223372036854775807) (hr : -9223372036854775808 ≤ r ∧ r ≤ 9223372036854775807) :
    Calls Tryz.prog 56 #[.int .i64 l, .int .i64 r] w (ModRes w (ModII l r)) := by
  by_cases h0 : r = 0
  · subst h0
    go_enter Tryz.func56, Tryz.ntmps56
    go_wp2_with fail
    go_ret
    exact ⟨_, rfl, by unfold ModII; rw [if_pos rfl]; exact .zeroModuloError _, below_alloc1 _ _⟩
  · by_cases h1 : r = -1
    · subst h1
      go_enter Tryz.func56, Tryz.ntmps56
      go_wp2_with fail
      go_ret
      exact ⟨_, rfl, by unfold ModII; rw [if_neg h0, if_pos rfl]; rfl, Below.refl _ _⟩
    · have t0 : (r == 0) = false := by simpa using h0
      have t1 : (r == -1) = false := by simpa using h1
      have H0 := Lib.hid h0; clear h0
      have H1 := Lib.hid h1; clear h1
      go_enter Tryz.func56, Tryz.ntmps56
      go_wp2_with fail
      go_ret
      exact ⟨_, rfl, by unfold ModII; rw [if_neg H0.out, if_neg H1.out]; rfl, Below.refl _ _⟩

theorem tmod_range (m n : Int) : (0 ≤ m → 0 ≤ m.tmod n ∧ m.tmod n ≤ m) ∧ (m ≤ 0 → m ≤ m.tmod n ∧ m.tmod n ≤ 0) := by
  have h : (m.tmod n).natAbs ≤ m.natAbs := by rw [Int.natAbs_tmod]; exact Nat.mod_le _ _
  constructor
  · intro h0
    have := Int.tmod_nonneg n h0
    omega
  · intro h0
    have h1 := Int.tmod_nonneg n (show 0 ≤ -m by omega)
    rw [Int.neg_tmod] at h1
    omega

def ModFF (v : Value) : Prop := ErrV v ∨ ∃ n : Int, v = .iface 3 (.int .i64 n) ∧ -9223372036854775808 ≤ n ∧ n ≤ 9223372036854775807

set_option maxRecDepth 100000 in
theorem mod_ff (l r : Nat) (w : World) (hl : FloatKind.f64.format.order l l = some .eq) (hr : FloatKind.f64.format.order r r = some .eq) :
    Calls Tryz.prog 57 #[.float .f64 l, .float .f64 r] w (ModRes w ModFF) := by
  have cl : Calls Tryz.prog 58 #[.float .f64 l] w fun e w' => e = .returned (.bool false) ∧ w' = w := by have := isNaN_any l w; rw [hl] at this; exact this
  have cr : Calls Tryz.prog 58 #[.float .f64 r] w fun e w' => e = .returned (.bool false) ∧ w' = w := by have := isNaN_any r w; rw [hr] at this; exact this
  have Cl := Lib.hid cl; clear cl
  have Cr := Lib.hid cr; clear cr
  clear hl hr
  go_enter Tryz.func57, Tryz.ntmps57
  go_wp2_with fail
  refine Cl.out.mono ?_
  rintro e w1 ⟨rfl, rfl⟩
  go_wp2_with fail
  refine Cr.out.mono ?_
  rintro e w2 ⟨rfl, rfl⟩
  clear Cl Cr
  go_wp2_with fail
  refine (floatToInt_any r _).mono ?_
  rintro e w3 ⟨n, rfl, hn1, hn2, hb3⟩
  by_cases h0 : n = 0
  · subst h0
    go_wp2_with fail
    go_ret
    exact ⟨_, rfl, .inl (.zeroModuloError _), hb3.alloc hb3.size _⟩
  · have t0 : (n == 0) = false := by simpa using h0
    have H0 := Lib.hid h0; clear h0
    go_wp2_with fail
    refine (floatToInt_any l _).mono ?_
    rintro e w4 ⟨m, rfl, hm1, hm2, hb4⟩
    go_wp2_with fail
    go_ret
    have := tmod_range m n
    exact ⟨_, rfl, .inr ⟨_, rfl, by omega, by omega⟩, hb3.trans (hb4.mono hb3.size)⟩

set_option maxRecDepth 100000 in
theorem mod_ss (l r : ByteArray) (w : World) : Calls Tryz.prog 64 #[.string l, .string r] w (RetErr w) := by
  go_enter Tryz.func64, Tryz.ntmps64
  go_wp2_with fail
  go_ret
  exact ⟨_, rfl, .binopTypeError _, below_alloc1 _ _⟩

set_option maxRecDepth 100000 in
theorem mod_aa (a a' : Option Addr) (n n' c c' : Nat) (w : World) : Calls Tryz.prog 65 #[.slice a n c, .slice a' n' c'] w (RetErr w) := by
  go_enter Tryz.func65, Tryz.ntmps65
  go_wp2_with fail
  go_ret
  exact ⟨_, rfl, .binopTypeError _, below_alloc1 _ _⟩

set_option maxRecDepth 100000 in
theorem mod_mm (r r' : Option Nat) (w : World) : Calls Tryz.prog 66 #[.map r, .map r'] w (RetErr w) := by
  go_enter Tryz.func66, Tryz.ntmps66
  go_wp2_with fail
  go_ret
  exact ⟨_, rfl, .binopTypeError _, below_alloc1 _ _⟩

def AnyForm (x : Value) : Prop := x = .nilIface ∨ ∃ t y, x = .iface t y
set_option maxRecDepth 100000 in
theorem mod_else (x y : Value) (hx : AnyForm x) (hy : AnyForm y) (w : World) : Calls Tryz.prog 67 #[x, y] w (RetErr w) := by
  rcases hx with rfl | ⟨t, x, rfl⟩ <;> rcases hy with rfl | ⟨t', y, rfl⟩
  all_goals
    go_enter Tryz.func67, Tryz.ntmps67
    go_wp2_with fail
    go_ret
    exact ⟨_, rfl, .binopTypeError _, below_alloc1 _ _⟩

end Go.Proofs.YtmcahfcihhddjaaGreatDoor
