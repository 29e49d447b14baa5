/- spec.Operate at "%". -/
import Derived.Test.YtmcahfcihhddjaaGreatDoorSpec3
import Derived.WalkLawsBesides
namespace Go.Proofs.YtmcahfcihhddjaaGreatDoor
open Go Go.RowKit

set_option maxHeartbeats 1000000 in
set_option maxRecDepth 100000 in
theorem operate_mod {w0 : World} {B : Nat} {a b : V} {ca cb : List Value} (ha : RepV w0 B a ca) (hb : RepV w0 B b cb) (ga : Good a) (gb : Good b)
    (w : World) (hbel : Below B w0 w) (hB : B ≤ w.heap.size) :
    Calls Tryz.prog 7 #[.string ⟨#[37]⟩, .agg ca.toArray, .agg cb.toArray] w (HowAt w (RestP a.kind a.half b.kind b.half)) := by
  have VA := Lib.hid (vague_any w0 B a ca ha ga); clear ga
  have VB := Lib.hid (vague_any w0 B b cb hb gb); clear gb
  have Hbel := Lib.hid hbel; clear hbel
  cases ha with
  | @mk k h t l ks vs la ka va lc kc vc C D hk hh ht hl hks hvs hs cl rl ck cv rv =>
  cases hb with
  | @mk k' h' t' l' ks' vs' la' ka' va' lc' kc' vc' C' D' hk' hh' ht' hl' hks' hvs' hs' cl' rl' ck' cv' rv' =>
  have R := Lib.hid (rest_any k h k' h' t t' la ka va la' ka' va' l.length lc ks.length kc vs.length vc l'.length lc' ks'.length kc' vs'.length vc' hh hh')
  clear hk hh ht hl hks hvs hs cl rl ck cv rv hk' hh' ht' hl' hks' hvs' hs' cl' rl' ck' cv' rv'
  show Calls _ _ _ _ (HowAt w (RestP k h k' h'))
  go_enter Tryz.func7, Tryz.ntmps7
  go_wp2_with fail
  obtain ⟨hbW, hsW, hx1, hx2⟩ := at_alloc3 w (.cells #[.int .i64 k, .int .i64 h, .string t, .slice la l.length lc, .slice ka ks.length kc, .slice va vs.length vc] 26)
    (.cells #[.int .i64 k', .int .i64 h', .string t', .slice la' l'.length lc', .slice ka' ks'.length kc', .slice va' vs'.length vc'] 26)
    (.cells #[.int .i64 0, .int .i64 0, .string ⟨#[]⟩, .slice none 0 0, .slice none 0 0, .slice none 0 0] 26)
  have hx0 : (((w.alloc (.cells #[.int .i64 k, .int .i64 h, .string t, .slice la l.length lc, .slice ka ks.length kc, .slice va vs.length vc] 26)).alloc
    (.cells #[.int .i64 k', .int .i64 h', .string t', .slice la' l'.length lc', .slice ka' ks'.length kc', .slice va' vs'.length vc'] 26)).alloc
    (.cells #[.int .i64 0, .int .i64 0, .string ⟨#[]⟩, .slice none 0 0, .slice none 0 0, .slice none 0 0] 26)).heap[w.heap.size]? = some (.cells #[.int .i64 k, .int .i64 h, .string t, .slice la l.length lc, .slice ka ks.length kc, .slice va vs.length vc] 26) := at_alloc30 _ _ _ _
  refine (VA.out _ (Hbel.out.trans (hbW.mono hB)) (by rw [hsW]; omega)).mono ?_
  generalize ((w.alloc _).alloc _).alloc _ = W at *
  rintro e w1 ⟨rfl, hw1⟩
  have hs1 : w.heap.size + 3 ≤ w1.heap.size := by have := hw1.size; omega
  have y0 := (hw1.block w.heap.size (by omega)).trans hx0
  have y1 := (hw1.block (w.heap.size + 1) (by omega)).trans hx1
  have y2 := (hw1.block (w.heap.size + 1 + 1) (by omega)).trans hx2
  have hb1 : Below w.heap.size w w1 := hbW.trans (hw1.mono (by omega))
  obtain ⟨e0, e1, e2, e3, e4, e5⟩ := of_block6 y1
  have Hw1 := Lib.hid hw1; clear hw1
  go_wp2_with fail
  refine (VB.out _ (Hbel.out.trans (hb1.mono hB)) (by omega)).mono ?_
  rintro e w2 ⟨rfl, hw2⟩
  have hs2 : w.heap.size + 3 ≤ w2.heap.size := by have := hw2.size; omega
  have z0 := (hw2.block w.heap.size (by omega)).trans y0
  have z1 := (hw2.block (w.heap.size + 1) (by omega)).trans y1
  have z2 := (hw2.block (w.heap.size + 1 + 1) (by omega)).trans y2
  have hb2 : Below w.heap.size w w2 := hb1.trans (hw2.mono (by omega))
  obtain ⟨a0, a1, a2, a3, a4, a5⟩ := of_block6 z0
  obtain ⟨e0, e1, e2, e3, e4, e5⟩ := of_block6 z1
  have Hw2 := Lib.hid hw2; clear hw2
  go_wp2_with fail
  refine (R.out _).mono ?_
  rintro e w3 ⟨k, h, t, la, ka, va, nl, cl, nk, ck, nv, cv, n, rfl, hP, hw3⟩
  have z3 := (hw3.block (w.heap.size + 1 + 1) (by omega)).trans z2
  have hb3 : Below w.heap.size w w3 := hb2.trans (hw3.mono (by omega))
  have hs3 : w.heap.size + 3 ≤ w3.heap.size := by have := hw3.size; omega
  obtain ⟨e0, e1, e2, e3, e4, e5⟩ := of_block6 z3
  obtain ⟨f0, f1, f2, f3, f4, f5⟩ := free_block6 z3
  have HP := Lib.hid hP; clear hP
  have Hw3 := Lib.hid hw3; clear hw3
  go_wp2_with fail
  refine bodyPost_ret (results_row_tmp (p := 6) (u := 7) (ty := 26) rfl _ _ (w.heap.size + 1 + 1) 26 _ (0, 0) _ rfl (set_row6 z3 _ _ _ _ _ _) Tryz.underlying26 rfl (by kernel_rfl)) rfl
    ⟨_, _, _, _, _, _, _, _, _, _, _, _, _, rfl, HP.out, below_set6 hb3 (by omega) _ _ _ _ _ _⟩

end Go.Proofs.YtmcahfcihhddjaaGreatDoor
