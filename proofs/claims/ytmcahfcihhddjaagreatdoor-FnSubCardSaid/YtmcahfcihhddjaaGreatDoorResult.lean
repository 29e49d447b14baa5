/- Contracts of impl.result at what is no error; spec.Same and laws.told at good values. -/
import Derived.Test.YtmcahfcihhddjaaGreatDoorFromGo5
import Derived.Test.YtmcahfcihhddjaaGreatDoorCmpW
namespace Go.Proofs.YtmcahfcihhddjaaGreatDoor
open Go Go.RowKit Go.Maps Go.Deep

/-- x is no error. -/
def NoErr (x : Value) : Prop := ∀ w : World, (Instr.typeAssert x 20 71 true).run Tryz.prog w = .ok (.tuple #[.nilIface, .bool false]) w

theorem RepJ.noErr {w : World} {S : Nat → Prop} {j : J} {x : Value} (h : RepJ w S j x) : NoErr x := by
  intro w
  cases h with
  | null => exact isnt_nil w
  | bool => exact isnt_bool _ w
  | int => exact isnt_int _ w
  | flt => exact isnt_float _ w
  | str => exact isnt_string _ w
  | arr => exact isnt_slice _ w
  | obj => exact isnt_map _ w

/-- What impl gives where it gives v. -/
def ResV (w : World) (v : V) (e : Ending) (w' : World) : Prop :=
  ∃ c0 c1 c2 c3 c4 c5, e = .returned (.agg #[c0, c1, c2, c3, c4, c5, .int .i64 0]) ∧ RepS w' (FreshS w.heap.size w'.heap.size) v [c0, c1, c2, c3, c4, c5] ∧ Below w.heap.size w w'

theorem set7_other (w : World) (b k : Nat) (v0 v1 v2 v3 v4 v5 v6 : Value) (h : k ≠ b) :
    (((((((w.setCell ⟨b, 0, none⟩ v0).setCell ⟨b, 1, none⟩ v1).setCell ⟨b, 2, none⟩ v2).setCell ⟨b, 3, none⟩ v3).setCell ⟨b, 4, none⟩ v4).setCell ⟨b, 5, none⟩ v5).setCell ⟨b, 6, none⟩ v6).heap[k]? = w.heap[k]? := by
  rw [Below.heap_setCell _ _ _ _ h, set6_other _ _ _ _ _ _ _ _ _ h]
theorem set7_size (w : World) (b : Nat) (v0 v1 v2 v3 v4 v5 v6 : Value) :
    (((((((w.setCell ⟨b, 0, none⟩ v0).setCell ⟨b, 1, none⟩ v1).setCell ⟨b, 2, none⟩ v2).setCell ⟨b, 3, none⟩ v3).setCell ⟨b, 4, none⟩ v4).setCell ⟨b, 5, none⟩ v5).setCell ⟨b, 6, none⟩ v6).heap.size = w.heap.size := by simp [World.setCell]

set_option maxHeartbeats 4000000 in
set_option maxRecDepth 100000 in
theorem result_val {x : Value} {v : V} (ht : NoErr x) (hf : x = .nilIface ∨ ∃ t y, x = .iface t y) (w0 : World) (B : Nat) (H : FromOK w0 B v x) (w : World) (hbel : Below B w0 w) (hB : B ≤ w.heap.size) : Calls Tryz.prog 23 #[x] w (ResV w v) := by
  have h := ht
  unfold NoErr at h
  have HH := Lib.hid (H _ (hbel.trans ((below_alloc1 w (.cells #[.int .i64 0, .int .i64 0, .string ⟨#[]⟩, .slice none 0 0, .slice none 0 0, .slice none 0 0, .int .i64 0] 34)).mono hB)) (by simp; omega))
  clear H hbel ht
  rcases hf with rfl | ⟨ty, y, rfl⟩
  all_goals
    go_enter Tryz.func23, Tryz.ntmps23
    go_wp2_with fail
    refine HH.out.mono ?_
    rintro e w2 ⟨cs, rfl, hx, hw2⟩
    have hat := (hw2.block w.heap.size (by simp)).trans (at_alloc w _)
    obtain ⟨e0, e1, e2, e3, e4, e5, e6⟩ := of_block7 hat
    obtain ⟨z0, z1, z2, z3, z4, z5, z6⟩ := free_block7 hat
    have hlt : w.heap.size < w2.heap.size := by have := hw2.size; simp at this; omega
    have hne : ¬ (w.heap.size = w2.heap.size) := by omega
    obtain ⟨k, hh, t, la', ka', va', nl, cl, nk, ck, nv, cv, hcs⟩ := hx.shape
    have Hx := Lib.hid hx
    have Hat := Lib.hid hat
    have Hw2 := Lib.hid hw2
    clear hat hw2 hx
    subst hcs
    go_wp2_with fail
    refine bodyPost_ret (v := .agg #[.int .i64 k, .int .i64 hh, .string t, .slice la' nl cl, .slice ka' nk ck, .slice va' nv cv, .int .i64 0]) ?_ rfl ⟨_, _, _, _, _, _, rfl, ?_, ?_⟩
    · refine results_cell_row (p := 2) (ty := 34) rfl _ _ w.heap.size 34 _ (0, 0) _ rfl ?_ Tryz.underlying34 rfl (by kernel_rfl)
      rw [heap_alloc_old _ _ (by rw [set7_size]; exact hlt)]
      exact set_row7 Hat.out _ _ _ _ _ _ _
    · refine Hx.out.turn fun q hq => ⟨?_, ?_⟩
      · have := hq.1
        simp at this
        rw [heap_alloc_old _ _ (by rw [set7_size]; exact hq.2), set7_other _ _ _ _ _ _ _ _ _ _ (by omega)]
      · have h1 := hq.1
        have h2 := hq.2
        simp only [World.size_alloc] at h1
        refine ⟨by omega, ?_⟩
        rw [size_alloc1, set7_size]
        omega
    · have hb : Below w.heap.size w w2 := below_next (below_alloc1 w _) Hw2.out
      refine Below.alloc ?_ (by rw [set7_size]; omega) _
      exact ((((((hb.setCell (Nat.le_refl _) _).setCell (Nat.le_refl _) _).setCell (Nat.le_refl _) _).setCell (Nat.le_refl _) _).setCell (Nat.le_refl _) _).setCell (Nat.le_refl _) _).setCell (Nat.le_refl _) _

/-- impl.Res of a float: its Half, or that it cannot be said. -/
def resHalf (b : Bool) (h : Int) : Value := .agg #[.int .i64 (if b then 3 else 0), .int .i64 (if b then h else 0), .string ⟨#[]⟩, .slice none 0 0, .slice none 0 0, .slice none 0 0, .int .i64 (if b then 0 else 3)]

set_option maxHeartbeats 4000000 in
set_option maxRecDepth 100000 in
theorem result_half {x : Nat} (P : Bool → Int → Prop) (H : ∀ w : World, Calls Tryz.prog 43 #[.iface 63 (.float .f64 x)] w fun e w' => ∃ b h, P b h ∧ e = .returned (HalfV b h) ∧ Below w.heap.size w w') (w : World) :
    Calls Tryz.prog 23 #[.iface 63 (.float .f64 x)] w fun e w' => ∃ b h, P b h ∧ e = .returned (resHalf b h) ∧ Below w.heap.size w w' := by
  have h := isnt_float (.float .f64 x)
  have HH := Lib.hid H; clear H
  go_enter Tryz.func23, Tryz.ntmps23
  go_wp2_with fail
  refine (HH.out _).mono ?_
  rintro e w2 ⟨b, hh, hP, rfl, hw2⟩
  have hat := (hw2.block w.heap.size (by simp)).trans (at_alloc w _)
  obtain ⟨e0, e1, e2, e3, e4, e5, e6⟩ := of_block7 hat
  obtain ⟨z0, z1, z2, z3, z4, z5, z6⟩ := free_block7 hat
  have hlt : w.heap.size < w2.heap.size := by have := hw2.size; simp at this; omega
  have hne : ¬ (w.heap.size = w2.heap.size) := by omega
  have HP := Lib.hid hP
  have Hat := Lib.hid hat
  have Hw2 := Lib.hid hw2
  clear hat hw2 hP
  cases b
  all_goals
    simp only [HalfV, Bool.false_eq_true, if_false, if_true]
    go_wp2_with fail
    refine bodyPost_ret (v := resHalf _ hh) ?_ rfl ⟨_, hh, HP.out, rfl, ?_⟩
    · refine results_cell_row (p := 2) (ty := 34) rfl _ _ w.heap.size 34 _ (0, 0) _ rfl ?_ Tryz.underlying34 rfl (by kernel_rfl)
      rw [heap_alloc_old _ _ (by rw [set7_size]; exact hlt)]
      exact set_row7 Hat.out _ _ _ _ _ _ _
    · have hb : Below w.heap.size w w2 := below_next (below_alloc1 w _) Hw2.out
      refine Below.alloc ?_ (by rw [set7_size]; omega) _
      exact ((((((hb.setCell (Nat.le_refl _) _).setCell (Nat.le_refl _) _).setCell (Nat.le_refl _) _).setCell (Nat.le_refl _) _).setCell (Nat.le_refl _) _).setCell (Nat.le_refl _) _).setCell (Nat.le_refl _) _

end Go.Proofs.YtmcahfcihhddjaaGreatDoor
