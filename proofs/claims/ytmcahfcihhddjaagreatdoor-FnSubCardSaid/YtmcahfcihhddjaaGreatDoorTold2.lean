/- laws.told at an error, at what the reference leaves open, and at values. -/
import Derived.Test.YtmcahfcihhddjaaGreatDoorCmpW
import Derived.Test.YtmcahfcihhddjaaGreatDoorVrow
namespace Go.Proofs.YtmcahfcihhddjaaGreatDoor
open Go Go.RowKit

def Yes (w : World) (e : Ending) (w' : World) : Prop := e = .returned (.bool true) ∧ Below w.heap.size w w'

set_option maxRecDepth 100000 in
theorem told_raises (k h k' h' : Int) (t t' : ByteArray) (la ka va la' ka' va' : Option Addr) (nl cl nk ck nv cv nl' cl' nk' ck' nv' cv' : Nat) (w : World) :
    Calls Tryz.prog 8 #[.agg #[.int .i64 k, .int .i64 h, .string t, .slice la nl cl, .slice ka nk ck, .slice va nv cv, .int .i64 1], .agg #[.int .i64 k', .int .i64 h', .string t', .slice la' nl' cl', .slice ka' nk' ck', .slice va' nv' cv'], .int .i64 1] w (Yes w) := by
  go_enter Tryz.func8, Tryz.ntmps8
  go_wp2_with fail
  go_ret
  exact ⟨rfl, below_alloc2 _ _ _⟩

set_option maxRecDepth 100000 in
theorem told_silent (k h k' h' n : Int) (t t' : ByteArray) (la ka va la' ka' va' : Option Addr) (nl cl nk ck nv cv nl' cl' nk' ck' nv' cv' : Nat) (w : World) :
    Calls Tryz.prog 8 #[.agg #[.int .i64 k, .int .i64 h, .string t, .slice la nl cl, .slice ka nk ck, .slice va nv cv, .int .i64 n], .agg #[.int .i64 k', .int .i64 h', .string t', .slice la' nl' cl', .slice ka' nk' ck', .slice va' nv' cv'], .int .i64 2] w (Yes w) := by
  go_enter Tryz.func8, Tryz.ntmps8
  go_wp2_with fail
  go_ret
  exact ⟨rfl, below_alloc2 _ _ _⟩

set_option maxRecDepth 100000 in
theorem told_val (w : World) (a b : V) (c0 c1 c2 c3 c4 c5 : Value) (cb : List Value) (ha : RepV w w.heap.size a [c0, c1, c2, c3, c4, c5]) (hb : RepV w w.heap.size b cb) :
    Calls Tryz.prog 8 #[.agg #[c0, c1, c2, c3, c4, c5, .int .i64 0], .agg cb.toArray, .int .i64 0] w (BoolP w (sameB a b)) := by
  have H := Lib.hid (same_any w w.heap.size a b _ _ ha hb)
  obtain ⟨k, h, t, la, ka, va, nl, cl, nk, ck, nv, cv, e⟩ := ha.shape
  obtain ⟨k', h', t', la', ka', va', nl', cl', nk', ck', nv', cv', rfl⟩ := hb.shape
  simp only [List.cons.injEq, and_true] at e
  obtain ⟨rfl, rfl, rfl, rfl, rfl, rfl⟩ := e
  clear ha hb
  have hbW := below_alloc2 w (.cells #[.int .i64 k, .int .i64 h, .string t, .slice la nl cl, .slice ka nk ck, .slice va nv cv, .int .i64 0] 34)
    (.cells #[.int .i64 k', .int .i64 h', .string t', .slice la' nl' cl', .slice ka' nk' ck', .slice va' nv' cv'] 26)
  go_enter Tryz.func8, Tryz.ntmps8
  go_wp2_with fail
  refine (H.out _ hbW (by simp; omega)).mono ?_
  rintro e w2 ⟨rfl, hw⟩
  go_wp2_with fail
  go_ret
  exact ⟨rfl, below_next hbW hw⟩

end Go.Proofs.YtmcahfcihhddjaaGreatDoor
