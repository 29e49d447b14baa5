/- Contract of package big's nat.div. -/
/- A region that draws its order: an operation that only reads may be taken first, where what it reads stands behind each operation that may come before it. (Beside the library's OrdersHeld: the condition may differ from operation to operation.) No program in sight. -/
import Derived.Test.YtfgjaoejcbldoaaGreatDoorM10
import Derived.OrdersHeld
namespace Go.Proofs.YtfgjaoejcbldoaaGreatDoor
open Go Go.RowKit Go.Deep
theorem div_any (w : World) (x y : Nat) (vx vy : Value) (h : NatAt w w.heap.size x vx) (h' : NatAt w w.heap.size y vy) (hxx : x < xMax) (hy0 : y ≠ 0) : Calls Tryz.prog 125 #[vx, vy] w (DivP w x y) := by
  rcases Nat.lt_or_ge x y with hxy | hxy
  · exact div_small w x y vx vy h h' hxy
  · obtain ⟨Y, n, hy, h0, hyy, _⟩ := h'.open (Nat.lt_of_le_of_lt hxy hxx)
    match n, hy, h0, hyy with
    | 0, _, _, hyy => exact absurd hyy hy0
    | 1, hy, h0, hyy =>
      have e : y = Y 0 := by rw [hyy]; simp [sumD]
      subst e
      exact div_one w x Y vx vy h hxx hy (h0 (by decide)) hxy
    | n + 2, hy, h0, hyy => exact div_long w x y Y (n + 2) vx vy h hxx hy (h0 (by omega)) hyy (by omega) hxy
end Go.Proofs.YtfgjaoejcbldoaaGreatDoor

namespace Go.Proofs.YtfgjaoejcbldoaaGreatDoor
open Go
theorem set_cs {α : Type} : (∀ (a v : α) (l : List α), (a :: l).set 0 v = v :: l) ∧ ∀ (a v : α) (l : List α) (n : Nat), (a :: l).set (n + 1) v = a :: l.set n v :=
  ⟨fun _ _ _ => List.set_cons_zero, fun _ _ _ _ => List.set_cons_succ⟩
section
variable {P : Program} {ops : Array Oper} {Q : Exit → Act → World → Prop} {md : Region.Mode} {S : Nat → World → Prop} {T : World → Prop}
end
end Go.Proofs.YtfgjaoejcbldoaaGreatDoor
