/- Contract of impl.fromGo at the tree of a good value: it gives the value back; of impl.result there. -/
import Derived.Test.YtmcahfcihhddjaaGreatDoorFromGo4
import Derived.Test.YtmcahfcihhddjaaGreatDoorToGo3
import Derived.Test.YtmcahfcihhddjaaGreatDoorRes
namespace Go.Proofs.YtmcahfcihhddjaaGreatDoor
open Go Go.RowKit Go.Maps Go.Deep
attribute [local go_sem] assert_int assert_int_nil assert_float64 assert_float64_nil assert_string assert_string_nil assert_sl assert_sl_nil assert_m assert_m_nil assert_bool assert_bool_nil

set_option maxHeartbeats 1000000 in
set_option maxRecDepth 100000 in
theorem fromGo_list (a : Option Addr) (n c : Nat) (v : V) (w : World) (H : Calls Tryz.prog 53 #[.slice a n c] (w.alloc (.cells #[.int .i64 0, .int .i64 0, .string ⟨#[]⟩, .slice none 0 0, .slice none 0 0, .slice none 0 0] 26)) (FromP (w.alloc (.cells #[.int .i64 0, .int .i64 0, .string ⟨#[]⟩, .slice none 0 0, .slice none 0 0, .slice none 0 0] 26)) v)) :
    Calls Tryz.prog 43 #[.iface 64 (.slice a n c)] w (FromP w v) := by
  have HH := Lib.hid H; clear H
  go_enter Tryz.func43, Tryz.ntmps43
  go_wp2_with fail
  refine HH.out.mono ?_
  rintro e w2 ⟨cs, rfl, hx, hb⟩
  have hat := (hb.block w.heap.size (by simp)).trans (at_alloc w _)
  have hb2 := below_next (below_alloc1 w _) hb
  obtain ⟨e0, e1, e2, e3, e4, e5⟩ := of_block6 hat
  obtain ⟨f0, f1, f2, f3, f4, f5⟩ := free_block6 hat
  obtain ⟨k, h, t, la', ka', va', nl, cl, nk, ck, nv, cv, hcs⟩ := hx.shape
  have hx2 := Lib.hid hx
  have Hat := Lib.hid hat; clear hat
  have Hb2 := Lib.hid hb2; clear hb2 hb hx
  subst hcs
  go_wp2_with fail
  refine bodyPost_ret (results_row_tmp (p := 2) (u := 3) (ty := 26) rfl _ _ w.heap.size 26 _ (0, 0) _ rfl (set_row6 Hat.out _ _ _ _ _ _) Tryz.underlying26 rfl (by kernel_rfl)) rfl
    ⟨_, rfl, hx2.out.turn (fun q hq => ⟨set6_other _ _ _ _ _ _ _ _ _ (by have := hq.1; simp at this; omega), ?_⟩), below_set6 Hb2.out (Nat.le_refl _) _ _ _ _ _ _⟩
  rw [set6_size]
  exact ⟨by have := hq.1; simp at this; omega, hq.2⟩

set_option maxHeartbeats 1000000 in
set_option maxRecDepth 100000 in
theorem fromGo_map (r : Nat) (v : V) (w : World) (H : Calls Tryz.prog 54 #[.map (some r)] (w.alloc (.cells #[.int .i64 0, .int .i64 0, .string ⟨#[]⟩, .slice none 0 0, .slice none 0 0, .slice none 0 0] 26)) (FromP (w.alloc (.cells #[.int .i64 0, .int .i64 0, .string ⟨#[]⟩, .slice none 0 0, .slice none 0 0, .slice none 0 0] 26)) v)) :
    Calls Tryz.prog 43 #[.iface 67 (.map (some r))] w (FromP w v) := by
  have HH := Lib.hid H; clear H
  go_enter Tryz.func43, Tryz.ntmps43
  go_wp2_with fail
  refine HH.out.mono ?_
  rintro e w2 ⟨cs, rfl, hx, hb⟩
  have hat := (hb.block w.heap.size (by simp)).trans (at_alloc w _)
  have hb2 := below_next (below_alloc1 w _) hb
  obtain ⟨e0, e1, e2, e3, e4, e5⟩ := of_block6 hat
  obtain ⟨f0, f1, f2, f3, f4, f5⟩ := free_block6 hat
  obtain ⟨k, h, t, la', ka', va', nl, cl, nk, ck, nv, cv, hcs⟩ := hx.shape
  have hx2 := Lib.hid hx
  have Hat := Lib.hid hat; clear hat
  have Hb2 := Lib.hid hb2; clear hb2 hb hx
  subst hcs
  go_wp2_with fail
  refine bodyPost_ret (results_row_tmp (p := 2) (u := 3) (ty := 26) rfl _ _ w.heap.size 26 _ (0, 0) _ rfl (set_row6 Hat.out _ _ _ _ _ _) Tryz.underlying26 rfl (by kernel_rfl)) rfl
    ⟨_, rfl, hx2.out.turn (fun q hq => ⟨set6_other _ _ _ _ _ _ _ _ _ (by have := hq.1; simp at this; omega), ?_⟩), below_set6 Hb2.out (Nat.le_refl _) _ _ _ _ _ _⟩
  rw [set6_size]
  exact ⟨by have := hq.1; simp at this; omega, hq.2⟩

theorem Good.plain {k h : Int} {t : ByteArray} {l : List V} {ks : List ByteArray} {vs : List V} (g : Good (.mk k h t l ks vs)) :
    0 ≤ k ∧ k ≤ 6 ∧ (k ≠ 3 → h = 0) ∧ (k ≠ 4 → t = ⟨#[]⟩) ∧ (k ≠ 5 → l = []) ∧ (k ≠ 6 → ks = []) ∧ (k ≠ 6 → vs = []) ∧ ks.length = vs.length := shape_plain g.all.1

/-- Sizes within the reach. -/
inductive Small : V → Prop
  | mk {k h : Int} {t : ByteArray} {l : List V} {ks : List ByteArray} {vs : List V} (hl : l.length * 104 ≤ 140737488351232) (hks : ks.length * 16 ≤ 140737488351232) (hvs : vs.length * 104 ≤ 140737488351232)
    (sl : ∀ i (hi : i < l.length), Small l[i]) (sv : ∀ i (hi : i < vs.length), Small vs[i]) : Small (.mk k h t l ks vs)

theorem RepV.small {w : World} {B : Nat} {v : V} {cs : List Value} (h : RepV w B v cs) : Small v := by
  induction h with
  | mk C D hk hh ht hl hks hvs hs cl rl ck cv rv ihl ihv => exact .mk hl hks hvs ihl ihv

theorem fitsH_of {h : Int} (g : halfB h = true) (o : h.tmod 2 ≠ 0) : FitsH h := by
  obtain ⟨h1, h2, h3⟩ := half_bounds g
  exact ⟨h1, h2, fun _ => h3 o⟩

set_option maxHeartbeats 1000000 in
theorem fromGo_any {v : V} (g : Good v) : ∀ (_ : Small v) (w0 : World) (B : Nat) (S : Nat → Prop) (x : Value), RepJ w0 S (toJ v) x → (∀ k, S k → k < B) → FromOK w0 B v x := by
  induction g with
  | @mk k h t l ks vs shape half valid list rise vkeys vals ihl ihv =>
  intro sm w0 B S x hx hS w hbel hB
  have g0 : Good (.mk k h t l ks vs) := .mk shape half valid list rise vkeys vals
  obtain ⟨p1, p2, p3, p4, p5, p6, p7, p8⟩ := g0.plain
  cases sm with
  | mk hl hks hvs sl sv =>
  unfold toJ at hx
  rcases (show k = 0 ∨ k = 1 ∨ k = 2 ∨ k = 3 ∨ k = 4 ∨ k = 5 ∨ k = 6 by omega) with rfl | rfl | rfl | rfl | rfl | rfl | rfl
  · rw [p3 (by decide), p4 (by decide), p5 (by decide), p6 (by decide), p7 (by decide)]
    simp only [if_true] at hx
    cases hx
    exact fromGo_null w
  · rw [p3 (by decide), p4 (by decide), p5 (by decide), p6 (by decide), p7 (by decide)]
    simp only [show ¬ ((1 : Int) = 0) by decide, if_false, if_true] at hx
    cases hx
    exact fromGo_bool false w
  · rw [p3 (by decide), p4 (by decide), p5 (by decide), p6 (by decide), p7 (by decide)]
    simp only [show ¬ ((2 : Int) = 0) by decide, show ¬ ((2 : Int) = 1) by decide, if_false, if_true] at hx
    cases hx
    exact fromGo_bool true w
  · rw [p4 (by decide), p5 (by decide), p6 (by decide), p7 (by decide)]
    simp only [show ¬ ((3 : Int) = 0) by decide, show ¬ ((3 : Int) = 1) by decide, show ¬ ((3 : Int) = 2) by decide, if_false, if_true] at hx
    obtain ⟨h1, h2, h3⟩ := half_bounds half
    by_cases o : h.tmod 2 = 0
    · rw [if_pos o] at hx
      cases hx
      have e : 2 * h.tdiv 2 = h := by have := Int.mul_tdiv_add_tmod h 2; omega
      have := fromGo_small (h.tdiv 2) w (by omega) (by omega)
      rw [e] at this
      exact this
    · rw [if_neg o] at hx
      cases hx
      rw [halfBits_hb (h3 o).1 (h3 o).2 (by rintro rfl; exact o rfl)]
      exact fromGo_half (fitsH_of half o) w
  · rw [p3 (by decide), p5 (by decide), p6 (by decide), p7 (by decide)]
    simp only [show ¬ ((4 : Int) = 0) by decide, show ¬ ((4 : Int) = 1) by decide, show ¬ ((4 : Int) = 2) by decide, show ¬ ((4 : Int) = 3) by decide, if_false, if_true] at hx
    cases hx
    exact fromGo_str t (by assumption) w
  · rw [p3 (by decide), p4 (by decide), p6 (by decide), p7 (by decide)]
    simp only [show ¬ ((5 : Int) = 0) by decide, show ¬ ((5 : Int) = 1) by decide, show ¬ ((5 : Int) = 2) by decide, show ¬ ((5 : Int) = 3) by decide, show ¬ ((5 : Int) = 4) by decide, if_false, if_true] at hx
    generalize hm : toJL l = m at hx
    have hml : m.length = l.length := by rw [← hm]; exact toJL_len l
    cases hx with
    | @arr _ _ a c f b o N F hlm hc ca own sub dis ra =>
    rw [hml]
    refine fromGo_list _ _ _ _ w (listFrom_of w0 B l a c f b o N hl (fun h0 => ?_) (fun i hi => ?_) _ (hbel.trans ((below_alloc1 w _).mono hB)) (by simp; omega))
    · obtain ⟨e1, e2, e3, e4⟩ := ca (by omega)
      exact ⟨e1, hS b e2, e3, by omega⟩
    · refine ihl i hi (sl i hi) w0 B (F i) _ ?_ (fun q hq => hS q (sub i q (by omega) hq))
      have := ra i (by omega)
      subst hm
      rw [toJL_get l i hi] at this
      exact this
  · rw [p3 (by decide), p4 (by decide), p5 (by decide)]
    simp only [show ¬ ((6 : Int) = 0) by decide, show ¬ ((6 : Int) = 1) by decide, show ¬ ((6 : Int) = 2) by decide, show ¬ ((6 : Int) = 3) by decide, show ¬ ((6 : Int) = 4) by decide, show ¬ ((6 : Int) = 5) by decide, if_false] at hx
    generalize hm : toJM ks vs = m at hx
    have hml : m.length = ks.length := by rw [← hm]; exact toJM_len ks vs p8
    cases hx with
    | @obj _ _ r E F hr hmm hs own sub dis rm =>
    refine fromGo_map _ _ w (mapFrom_of w0 B ks rise vs r E (hS r hr) (by rw [hm]; exact hmm) p8 hks hvs (fun s hs' => ?_) (fun i hi => ?_) _ (hbel.trans ((below_alloc1 w _).mono hB)) (by simp; omega))
    · obtain ⟨i, hi, rfl⟩ := List.mem_iff_getElem.1 hs'
      have := hs _ (List.getElem_mem (show i < m.length by omega))
      subst hm
      rw [toJM_get ks vs p8 i hi] at this
      exact this
    · refine ihv i hi (sv i hi) w0 B (F i) _ ?_ (fun q hq => hS q (sub i q (by omega) hq))
      have := rm i (by omega)
      subst hm
      rw [toJM_get ks vs p8 i (by omega)] at this
      exact this

end Go.Proofs.YtmcahfcihhddjaaGreatDoor
