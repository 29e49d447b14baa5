/- Small facts on worlds: blocks of twelve cells. No program in sight. -/
/- Contract of gojq.update. -/
/- Contracts of gojq.slice, funcSlice. -/
/- Contract of gojq.funcIndex2, case by case. -/
/- utf8.ValidString, by the library's contract laid at this program; the two tables of package unicode/utf8 that it reads. -/
import Derived.Test.YtiphcojcdegnkaaGreatDoorM02
import Derived.Test.YtiphcojcdegnkaaGreatDoorM05
import Derived.Test.YtiphcojcdegnkaaGreatDoorM04
import Derived.Shelf.Unicode.ValidAny
import Derived.Ground.NamesProg
namespace Go.Proofs.YtiphcojcdegnkaaGreatDoor
open Go Go.RowKit Go.Deep

theorem of_block12 {w : World} {b : Nat} {c0 c1 c2 c3 c4 c5 c6 c7 c8 c9 c10 c11 : Value} {t : TypeId} (h : w.heap[b]? = some (.cells #[c0, c1, c2, c3, c4, c5, c6, c7, c8, c9, c10, c11] t)) :
    w.cell? ⟨b, 0, none⟩ = some c0 ∧ w.cell? ⟨b, 1, none⟩ = some c1 ∧ w.cell? ⟨b, 2, none⟩ = some c2 ∧ w.cell? ⟨b, 3, none⟩ = some c3 ∧ w.cell? ⟨b, 4, none⟩ = some c4 ∧ w.cell? ⟨b, 5, none⟩ = some c5 ∧ w.cell? ⟨b, 6, none⟩ = some c6 ∧ w.cell? ⟨b, 7, none⟩ = some c7 ∧ w.cell? ⟨b, 8, none⟩ = some c8 ∧ w.cell? ⟨b, 9, none⟩ = some c9 ∧ w.cell? ⟨b, 10, none⟩ = some c10 ∧ w.cell? ⟨b, 11, none⟩ = some c11 := by
  simp [World.cell?, h]
theorem free_block12 {w : World} {b : Nat} {c0 c1 c2 c3 c4 c5 c6 c7 c8 c9 c10 c11 : Value} {t : TypeId} (h : w.heap[b]? = some (.cells #[c0, c1, c2, c3, c4, c5, c6, c7, c8, c9, c10, c11] t)) :
    w.frozen? ⟨b, 0, none⟩ = false ∧ w.frozen? ⟨b, 1, none⟩ = false ∧ w.frozen? ⟨b, 2, none⟩ = false ∧ w.frozen? ⟨b, 3, none⟩ = false ∧ w.frozen? ⟨b, 4, none⟩ = false ∧ w.frozen? ⟨b, 5, none⟩ = false ∧ w.frozen? ⟨b, 6, none⟩ = false ∧ w.frozen? ⟨b, 7, none⟩ = false ∧ w.frozen? ⟨b, 8, none⟩ = false ∧ w.frozen? ⟨b, 9, none⟩ = false ∧ w.frozen? ⟨b, 10, none⟩ = false ∧ w.frozen? ⟨b, 11, none⟩ = false := by
  simp [World.frozen?, h]
theorem set_row12 {w : World} {b : Nat} {c0 c1 c2 c3 c4 c5 c6 c7 c8 c9 c10 c11 : Value} {t : TypeId} (h : w.heap[b]? = some (.cells #[c0, c1, c2, c3, c4, c5, c6, c7, c8, c9, c10, c11] t)) (v0 v1 v2 v3 v4 v5 v6 v7 v8 v9 v10 v11 : Value) :
    ((((((((((((w.setCell ⟨b, 0, none⟩ v0).setCell ⟨b, 1, none⟩ v1).setCell ⟨b, 2, none⟩ v2).setCell ⟨b, 3, none⟩ v3).setCell ⟨b, 4, none⟩ v4).setCell ⟨b, 5, none⟩ v5).setCell ⟨b, 6, none⟩ v6).setCell ⟨b, 7, none⟩ v7).setCell ⟨b, 8, none⟩ v8).setCell ⟨b, 9, none⟩ v9).setCell ⟨b, 10, none⟩ v10).setCell ⟨b, 11, none⟩ v11).heap[b]? = some (.cells #[v0, v1, v2, v3, v4, v5, v6, v7, v8, v9, v10, v11] t) := by
  have h0 := heap_setCell_same _ b 0 _ t v0 h
  have h1 := heap_setCell_same _ b 1 _ t v1 h0
  have h2 := heap_setCell_same _ b 2 _ t v2 h1
  have h3 := heap_setCell_same _ b 3 _ t v3 h2
  have h4 := heap_setCell_same _ b 4 _ t v4 h3
  have h5 := heap_setCell_same _ b 5 _ t v5 h4
  have h6 := heap_setCell_same _ b 6 _ t v6 h5
  have h7 := heap_setCell_same _ b 7 _ t v7 h6
  have h8 := heap_setCell_same _ b 8 _ t v8 h7
  have h9 := heap_setCell_same _ b 9 _ t v9 h8
  have h10 := heap_setCell_same _ b 10 _ t v10 h9
  have h11 := heap_setCell_same _ b 11 _ t v11 h10
  simpa using h11
theorem below_set12 {a w : World} {B b : Nat} (h : Below B a w) (hb : B ≤ b) (v0 v1 v2 v3 v4 v5 v6 v7 v8 v9 v10 v11 : Value) :
    Below B a ((((((((((((w.setCell ⟨b, 0, none⟩ v0).setCell ⟨b, 1, none⟩ v1).setCell ⟨b, 2, none⟩ v2).setCell ⟨b, 3, none⟩ v3).setCell ⟨b, 4, none⟩ v4).setCell ⟨b, 5, none⟩ v5).setCell ⟨b, 6, none⟩ v6).setCell ⟨b, 7, none⟩ v7).setCell ⟨b, 8, none⟩ v8).setCell ⟨b, 9, none⟩ v9).setCell ⟨b, 10, none⟩ v10).setCell ⟨b, 11, none⟩ v11) :=
  (((((((((((h.setCell hb _).setCell hb _).setCell hb _).setCell hb _).setCell hb _).setCell hb _).setCell hb _).setCell hb _).setCell hb _).setCell hb _).setCell hb _).setCell hb _
theorem free_block2 {w : World} {b : Nat} {c0 c1 : Value} {t : TypeId} (h : w.heap[b]? = some (.cells #[c0, c1] t)) :
    w.cell? ⟨b, 0, none⟩ = some c0 ∧ w.cell? ⟨b, 1, none⟩ = some c1 ∧ w.frozen? ⟨b, 0, none⟩ = false ∧ w.frozen? ⟨b, 1, none⟩ = false := by
  simp [World.cell?, World.frozen?, h]
theorem keep_alloc {a w : World} {B : Nat} (h : Below B a w) (hB : B ≤ w.heap.size) (o : Obj) : Below B a (w.alloc o) := h.alloc hB o

end Go.Proofs.YtiphcojcdegnkaaGreatDoor

namespace Go.Proofs.YtiphcojcdegnkaaGreatDoor
open Go Go.RowKit Go.Maps Go.Deep Go.WideMaps

theorem assert_st (t : TypeId) (v : Value) (w : World) : (Instr.typeAssert (.iface t v) 20 158 true).run Tryz.prog w = .ok (if t = 158 then .tuple #[v, .bool true] else .tuple #[.agg #[], .bool false]) w :=
  run_assert Tryz.underlying158 (fun _ h => by cases h) (fun _ => by kernel_rfl) t v w
theorem assert_st_nil (w : World) : (Instr.typeAssert .nilIface 20 158 true).run Tryz.prog w = .ok (.tuple #[.agg #[], .bool false]) w :=
  run_assert_nil Tryz.underlying158 (fun _ h => by cases h) (fun _ => by kernel_rfl) w
attribute [local go_sem] assert_jsonNumber assert_jsonNumber_nil assert_int assert_int_nil assert_float64 assert_float64_nil assert_pbigInt assert_pbigInt_nil assert_string assert_string_nil assert_sl assert_sl_nil assert_m assert_m_nil assert_bool assert_bool_nil assert_st assert_st_nil

theorem toInt_same (n : Int) (w : World) : Calls Tryz.prog 59 #[.iface 3 (.int .i64 n)] w fun e w' => e = .returned (.tuple #[.int .i64 n, .bool true]) ∧ w' = w := by
  go_enter Tryz.func59, Tryz.ntmps59
  go_wp2_with fail
  go_ret2
  exact ⟨rfl, rfl⟩

theorem upd_nil (n : J) (y : Value) : UpdOK [] n y := by
  intro v x pv S T w _ _ hx hy hd hS hT hp
  obtain ⟨pa, pc, rfl, _⟩ := hp
  have hr : UpdR w S T (updJ v [] n) (.returned (.tuple #[y, .nilIface])) w := updR_some (Below.refl _ _) (hy.mono fun q h => .inr (.inl h))
  have fx := hx.form
  have fy := hy.form
  have Hr := Lib.hid hr
  clear hx hy hr
  simp only [List.length_nil]
  rcases fx with rfl | ⟨tx, x, rfl⟩ <;> rcases fy with rfl | ⟨ty, y, rfl⟩
  all_goals
    go_enter Tryz.func65, Tryz.ntmps65
    go_wp2_with fail
    go_ret2
    exact Hr.out

/-- The rest of a path. -/
theorem stps_tail {w : World} {a : Option Addr} {c : Nat} {s : Stp} {p : List Stp} (h : StpsAt w (.slice a (p.length + 1) c) (s :: p)) :
    ∃ b o, a = some ⟨b, o, none⟩ ∧ w.cell? ⟨b, o, none⟩ = some (stpVal s) ∧ b < w.heap.size ∧ p.length + 1 ≤ c ∧ c ≤ 140737488355328 ∧ StpsAt w (.slice (if c = 1 then some ⟨b, o, none⟩ else some ⟨b, o + 1, none⟩) p.length (c - 1)) p := by
  obtain ⟨a', c', e, hc, hc2, hcel⟩ := h
  injection e with e1 e2 e3
  subst e1 e3
  obtain ⟨b, o, rfl, hb, hce⟩ := hcel (by simp)
  refine ⟨b, o, rfl, hce 0 (by simp), hb, hc, hc2, ⟨_, _, rfl, by simp at hc; omega, by omega, fun h0 => ?_⟩⟩
  simp only [List.length_cons] at hc
  rw [if_neg (by omega)]
  refine ⟨b, o + 1, rfl, hb, fun i hi => ?_⟩
  have := hce (i + 1) (by simpa using hi)
  rw [show o + 1 + i = o + (i + 1) by omega]
  exact this

set_option maxRecDepth 100000 in
theorem upd_key_other {k : ByteArray} {b o m c : Nat} {t : TypeId} {z y : Value} {w : World} {S T : Nat → Prop} (h1 : w.cell? ⟨b, o, none⟩ = some (stpVal (.key k))) (ht : t ≠ 68) (ht2 : t ≠ 158) (fy : IsI y) :
    Calls Tryz.prog 65 #[.iface t z, .slice (some ⟨b, o, none⟩) (m + 1) c, y, .map none] w (UpdR w S T none) := by
  unfold stpVal at h1
  rcases fy with rfl | ⟨ty, y, rfl⟩
  all_goals
    go_enter Tryz.func65, Tryz.ntmps65
    go_wp2_with fail
    go_ret2
    exact updR_none (below_alloc1 _ _) (.expectedObjectError _)
set_option maxRecDepth 100000 in
theorem upd_idx_other {i : Nat} {b o m c : Nat} {t : TypeId} {z y : Value} {w : World} {S T : Nat → Prop} (h1 : w.cell? ⟨b, o, none⟩ = some (stpVal (.idx i))) (ht : t ≠ 65) (ht2 : t ≠ 158) (fy : IsI y) :
    Calls Tryz.prog 65 #[.iface t z, .slice (some ⟨b, o, none⟩) (m + 1) c, y, .map none] w (UpdR w S T none) := by
  unfold stpVal at h1
  rcases fy with rfl | ⟨ty, y, rfl⟩
  all_goals
    go_enter Tryz.func65, Tryz.ntmps65
    go_wp2_with fail
    refine (toInt_int _ _).mono ?_
    rintro e w1 ⟨rfl, hw1⟩
    have hb : Below w.heap.size w w1 := hw1
    go_wp2_with fail
    go_ret2
    exact updR_none (keep_alloc hb hb.size _) (.expectedArrayError _)
set_option maxRecDepth 100000 in
theorem upd_hole {s : Stp} {b o m c : Nat} {y : Value} {w : World} {S T : Nat → Prop} (h1 : w.cell? ⟨b, o, none⟩ = some (stpVal s)) (fy : IsI y) :
    Calls Tryz.prog 65 #[.iface 158 (.agg #[]), .slice (some ⟨b, o, none⟩) (m + 1) c, y, .map none] w (UpdR w S T (some .hole)) := by
  cases s with
  | key k =>
    unfold stpVal at h1
    rcases fy with rfl | ⟨ty, y, rfl⟩
    all_goals
      go_enter Tryz.func65, Tryz.ntmps65
      go_wp2_with fail
      go_ret2
      exact updR_some (below_alloc1 _ _) (.hole _)
  | idx i =>
    unfold stpVal at h1
    rcases fy with rfl | ⟨ty, y, rfl⟩
    all_goals
      go_enter Tryz.func65, Tryz.ntmps65
      go_wp2_with fail
      refine (toInt_int _ _).mono ?_
      rintro e w1 ⟨rfl, hw1⟩
      have hb : Below w.heap.size w w1 := hw1
      go_wp2_with fail
      go_ret2
      exact updR_some (keep_alloc hb hb.size _) (.hole _)

set_option maxHeartbeats 1000000 in
set_option maxRecDepth 100000 in
theorem upd_key_go {k : ByteArray} {b o m c : Nat} {x y : Value} {mv : Option Nat} {w : World} {R : Ending → World → Prop} (hx : (x = .nilIface ∧ mv = none) ∨ x = .iface 68 (.map mv)) (h1 : w.cell? ⟨b, o, none⟩ = some (stpVal (.key k))) (hc : m + 1 ≤ c) (fy : IsI y) (hR : ∀ e w', R e w' → ∃ u er, e = .returned (.tuple #[u, er]) ∧ IsI u ∧ IsI er)
    (H : Calls Tryz.prog 81 #[.map mv, .string k, .slice (if c = 1 then some ⟨b, o, none⟩ else some ⟨b, o + 1, none⟩) m (c - 1), y, .map none] w R) :
    Calls Tryz.prog 65 #[x, .slice (some ⟨b, o, none⟩) (m + 1) c, y, .map none] w R := by
  unfold stpVal at h1
  have HR := Lib.hid hR
  clear hR
  by_cases hc1 : c = 1
  · subst hc1
    obtain rfl : m = 0 := by omega
    rw [if_pos rfl, Nat.sub_self] at H
    have HH := Lib.hid H
    clear H
    rcases hx with ⟨rfl, rfl⟩ | rfl <;> rcases fy with rfl | ⟨ty, y, rfl⟩
    all_goals
      go_enter Tryz.func65, Tryz.ntmps65
      go_wp2_with fail
      refine HH.out.mono ?_
      rintro e w1 hr
      obtain ⟨u, er, rfl, fu, fe⟩ := HR.out e w1 hr
      have Hr := Lib.hid hr
      clear hr h1
      rcases fu with rfl | ⟨tu, u, rfl⟩ <;> rcases fe with rfl | ⟨te, er, rfl⟩
      all_goals
        go_wp2_with fail
        exact Hr.out
  · rw [if_neg hc1] at H
    have HH := Lib.hid H
    clear H
    rcases hx with ⟨rfl, rfl⟩ | rfl <;> rcases fy with rfl | ⟨ty, y, rfl⟩
    all_goals
      go_enter Tryz.func65, Tryz.ntmps65
      go_wp2_with fail
      refine HH.out.mono ?_
      rintro e w1 hr
      obtain ⟨u, er, rfl, fu, fe⟩ := HR.out e w1 hr
      have Hr := Lib.hid hr
      clear hr h1
      rcases fu with rfl | ⟨tu, u, rfl⟩ <;> rcases fe with rfl | ⟨te, er, rfl⟩
      all_goals
        go_wp2_with fail
        exact Hr.out

set_option maxHeartbeats 1000000 in
set_option maxRecDepth 100000 in
theorem upd_idx_go {i : Nat} {b o m c : Nat} {x y : Value} {v : Value} {w : World} {R : Ending → World → Prop} (hx : (x = .nilIface ∧ v = .slice none 0 0) ∨ (x = .iface 65 v ∧ ∃ a n c, v = .slice a n c)) (h1 : w.cell? ⟨b, o, none⟩ = some (stpVal (.idx i))) (hc : m + 1 ≤ c) (fy : IsI y) (hR : ∀ e w', R e w' → ∃ u er, e = .returned (.tuple #[u, er]) ∧ IsI u ∧ IsI er)
    (H : Calls Tryz.prog 82 #[v, .int .i64 i, .slice (if c = 1 then some ⟨b, o, none⟩ else some ⟨b, o + 1, none⟩) m (c - 1), y, .map none] w R) :
    Calls Tryz.prog 65 #[x, .slice (some ⟨b, o, none⟩) (m + 1) c, y, .map none] w R := by
  unfold stpVal at h1
  have HR := Lib.hid hR
  clear hR
  by_cases hc1 : c = 1
  · subst hc1
    obtain rfl : m = 0 := by omega
    rw [if_pos rfl, Nat.sub_self] at H
    have HH := Lib.hid H
    clear H
    rcases hx with ⟨rfl, rfl⟩ | ⟨rfl, va, vn, vc, rfl⟩ <;> rcases fy with rfl | ⟨ty, y, rfl⟩
    all_goals
      go_enter Tryz.func65, Tryz.ntmps65
      go_wp2_with fail
      refine (toInt_same _ _).mono ?_
      rintro e w0 ⟨rfl, rfl⟩
      go_wp2_with fail
      refine HH.out.mono ?_
      rintro e w1 hr
      obtain ⟨u, er, rfl, fu, fe⟩ := HR.out e w1 hr
      have Hr := Lib.hid hr
      clear hr h1
      rcases fu with rfl | ⟨tu, u, rfl⟩ <;> rcases fe with rfl | ⟨te, er, rfl⟩
      all_goals
        go_wp2_with fail
        exact Hr.out
  · rw [if_neg hc1] at H
    have HH := Lib.hid H
    clear H
    rcases hx with ⟨rfl, rfl⟩ | ⟨rfl, va, vn, vc, rfl⟩ <;> rcases fy with rfl | ⟨ty, y, rfl⟩
    all_goals
      go_enter Tryz.func65, Tryz.ntmps65
      go_wp2_with fail
      refine (toInt_same _ _).mono ?_
      rintro e w0 ⟨rfl, rfl⟩
      go_wp2_with fail
      refine HH.out.mono ?_
      rintro e w1 hr
      obtain ⟨u, er, rfl, fu, fe⟩ := HR.out e w1 hr
      have Hr := Lib.hid hr
      clear hr h1
      rcases fu with rfl | ⟨tu, u, rfl⟩ <;> rcases fe with rfl | ⟨te, er, rfl⟩
      all_goals
        go_wp2_with fail
        exact Hr.out


theorem updR_form {w w' : World} {S T : Nat → Prop} {o : Option J} {e : Ending} (h : UpdR w S T o e w') : ∃ u er, e = .returned (.tuple #[u, er]) ∧ IsI u ∧ IsI er := by
  obtain ⟨u, er, he, fu, fe, _⟩ := h
  exact ⟨u, er, he, fu, fe⟩

/-- gojq.update, at keys and places. -/
theorem update_any (n : J) (y : Value) : ∀ (p : List Stp), (∀ s ∈ p, s.small) → UpdOK p n y
  | [], _ => upd_nil n y
  | s :: p, hs => by
    have IH := update_any n y p fun s h => hs s (List.mem_cons_of_mem _ h)
    have hss := hs s (List.mem_cons_self ..)
    intro v x pv S T w hsl hfi hx hy hd hS hT hp
    obtain ⟨pa, pc, rfl, hlc, _⟩ := id hp
    obtain ⟨b, o, rfl, h1, hb, hc, hc2, htl⟩ := stps_tail hp
    have fy : IsI y := hy.form
    cases s with
    | key k =>
      have other : ∀ (t : TypeId) (z : Value), x = .iface t z → t ≠ 68 → t ≠ 158 → updJ v (.key k :: p) n = none → Calls Tryz.prog 65 #[x, .slice (some ⟨b, o, none⟩) (p.length + 1) pc, y, .map none] w (UpdR w S T (updJ v (.key k :: p) n)) := by
        intro t z e h2 h3 h4
        rw [e, h4]
        exact upd_key_other h1 h2 h3 fy
      cases hx with
      | null => exact upd_key_go (.inl ⟨rfl, rfl⟩) h1 hc fy (fun e w' h => updR_form h) (updObj_nil hss hy hd hS hT htl IH)
      | bool => exact other _ _ rfl (by decide) (by decide) rfl
      | int => exact other _ _ rfl (by decide) (by decide) rfl
      | flt => exact other _ _ rfl (by decide) (by decide) rfl
      | str => exact other _ _ rfl (by decide) (by decide) rfl
      | arr => exact other _ _ rfl (by decide) (by decide) rfl
      | hole => exact upd_hole h1 fy
      | obj E F hr hm hsz own sub dis rm => exact upd_key_go (.inr rfl) h1 hc fy (fun e w' h => updR_form h) (updObj_map hss hfi hsl (.obj E F hr hm hsz own sub dis rm) hy hd hS hT htl IH)
    | idx i =>
      have other : ∀ (t : TypeId) (z : Value), x = .iface t z → t ≠ 65 → t ≠ 158 → updJ v (.idx i :: p) n = none → Calls Tryz.prog 65 #[x, .slice (some ⟨b, o, none⟩) (p.length + 1) pc, y, .map none] w (UpdR w S T (updJ v (.idx i :: p) n)) := by
        intro t z e h2 h3 h4
        rw [e, h4]
        exact upd_idx_other h1 h2 h3 fy
      cases hx with
      | null => exact upd_idx_go (.inl ⟨rfl, rfl⟩) h1 hc fy (fun e w' h => updR_form h) (updArr_nil hss hy hd hS hT htl IH)
      | bool => exact other _ _ rfl (by decide) (by decide) rfl
      | int => exact other _ _ rfl (by decide) (by decide) rfl
      | flt => exact other _ _ rfl (by decide) (by decide) rfl
      | str => exact other _ _ rfl (by decide) (by decide) rfl
      | obj => exact other _ _ rfl (by decide) (by decide) rfl
      | hole => exact upd_hole h1 fy
      | arr f b' o' N F hl hcc ca own sub dis ra hcb => exact upd_idx_go (.inr ⟨rfl, _, _, _, rfl⟩) h1 hc fy (fun e w' h => updR_form h) (updArr_list hss hfi hsl (.arr f b' o' N F hl hcc ca own sub dis ra hcb) hy hd hS hT htl IH)

end Go.Proofs.YtiphcojcdegnkaaGreatDoor

namespace Go.Proofs.YtiphcojcdegnkaaGreatDoor
open Go Go.RowKit Go.Maps Go.Deep
attribute [local go_sem] assert_jsonNumber assert_jsonNumber_nil assert_int assert_int_nil assert_float64 assert_float64_nil assert_pbigInt assert_pbigInt_nil assert_string assert_string_nil assert_sl assert_sl_nil assert_m assert_m_nil assert_bool assert_bool_nil

/-- No bound, or an integer. -/
inductive BndV : Value → Option Int → Prop
  | none : BndV .nilIface none
  | some (x : Int) (h : -9223372036854775808 ≤ x ∧ x ≤ 9223372036854775807) : BndV (.iface 3 (.int .i64 x)) (some x)

def endI (x : Option Int) (lo n : Int) (d : Int) : Int := match x with | none => d | some x => clampI x lo n

/-- A slice cut. -/
def CutV (a : Option Addr) (p q c : Nat) (v : Value) : Prop := ∃ a' c', v = .iface 65 (.slice a' (q - p) c') ∧ q - p ≤ c' ∧ (p < q → ∀ b o, a = some ⟨b, o, none⟩ → a' = some ⟨b, o + p, none⟩) ∧ c' ≤ c
theorem cut_all {a : Option Addr} {q c : Nat} (h : q ≤ c) : CutV a 0 q c (.iface 65 (.slice a q c)) := ⟨a, c, by rw [Nat.sub_zero], by omega, fun _ b o e => by rw [e, Nat.add_zero], Nat.le_refl _⟩
theorem cut_none {a : Option Addr} {p c : Nat} : CutV a p p c (.iface 65 (.slice a 0 0)) := ⟨a, 0, by rw [Nat.sub_self], by omega, fun h => by omega, Nat.zero_le _⟩
theorem cut_some {a : Option Addr} {p q c : Nat} (h : q ≤ c) : CutV a p q c (.iface 65 (.slice (a.map fun x => x.add p) (q - p) (c - p))) :=
  ⟨_, _, rfl, by omega, (fun _ b o e => by subst e; simp only [Option.map_some]; unfold Addr.add; split <;> simp_all), by omega⟩

theorem clampI_in (x lo hi : Int) (h : lo ≤ hi) : lo ≤ clampI x lo hi ∧ clampI x lo hi ≤ hi := by
  unfold clampI
  simp only
  generalize (if x < 0 then x + hi else x) = m
  split <;> (try split) <;> omega

set_option maxHeartbeats 4000000 in
set_option maxRecDepth 100000 in
theorem slice_fine (a : Option Addr) (n c : Nat) (hnc : n ≤ c) (hn : n ≤ 140737488355328) (e s : Value) (xe xs : Option Int) (he : BndV e xe) (hs : BndV s xs) (p q : Nat) (hp : endI xs 0 n 0 = p) (hq : endI xe p n n = q) (w : World) :
    Calls Tryz.prog 79 #[.slice a n c, e, s] w fun e w' => ∃ v, e = .returned v ∧ CutV a p q c v ∧ Below w.heap.size w w' := by
  have hpn : p ≤ n := by
    cases xs with
    | none => simp only [endI] at hp; omega
    | some x => have := clampI_in x 0 n (by omega); simp only [endI] at hp; omega
  have hpq : p ≤ q ∧ q ≤ n := by
    cases xe with
    | none => simp only [endI] at hq; omega
    | some x => have := clampI_in x p n (by omega); simp only [endI] at hq; omega
  have q1 : (0 : Int) ≤ (p : Int) := by omega
  have q2 : (p : Int) ≤ (q : Int) := by omega
  have q3 : (q : Int) ≤ (c : Int) := by omega
  cases hs with
  | none =>
    cases he with
    | none =>
      obtain rfl : q = n := by simp only [endI] at hq; omega
      obtain rfl : p = 0 := by simp only [endI] at hp; omega
      have Hfin := Lib.hid (cut_all (a := a) (q := q) (c := c) hnc)
      clear hp hq
      go_enter Tryz.func79, Tryz.ntmps79
      go_wp2_with fail
      go_ret
      exact ⟨_, rfl, Hfin.out, Below.refl _ _⟩
    | some x hx =>
      obtain rfl : p = 0 := by simp only [endI] at hp; omega
      have CE := Lib.hid fun w => clamp_any x 0 n hx (by omega) w
      rw [show clampI x 0 (n : Int) = (q : Int) from hq] at CE
      have Hfin := Lib.hid (cut_all (a := a) (q := q) (c := c) (by omega))
      clear hp hq
      go_enter Tryz.func79, Tryz.ntmps79
      go_wp2_with fail
      refine (toIntCeil_int _ _).mono ?_
      rintro e w3 ⟨rfl, hw3⟩
      have hb3 : Below w.heap.size w w3 := hw3
      go_wp2_with fail
      refine (CE.out _).mono ?_
      rintro e w4 ⟨rfl, rfl⟩
      go_wp2_with fail
      go_ret
      exact ⟨_, rfl, Hfin.out, hb3⟩
  | some y hy =>
    cases he with
    | none =>
      obtain rfl : q = n := by simp only [endI] at hq; omega
      have CS := Lib.hid fun w => clamp_any y 0 q hy (by omega) w
      rw [show clampI y 0 (q : Int) = (p : Int) from hp] at CS
      clear hp hq
      by_cases p0 : p = 0
      · subst p0
        have Hfin := Lib.hid (cut_all (a := a) (q := q) (c := c) (by omega))
        go_enter Tryz.func79, Tryz.ntmps79
        go_wp2_with fail
        refine (toInt_int _ _).mono ?_
        rintro e w1 ⟨rfl, hw1⟩
        have hb1 : Below w.heap.size w w1 := hw1
        go_wp2_with fail
        refine (CS.out _).mono ?_
        rintro e w2 ⟨rfl, rfl⟩
        go_wp2_with fail
        go_ret
        exact ⟨_, rfl, Hfin.out, hb1⟩
      · by_cases pc : c = p
        · have hqp : q = p := by omega
          subst hqp
          have Hfin := Lib.hid (cut_none (a := a) (p := q) (c := c))
          go_enter Tryz.func79, Tryz.ntmps79
          go_wp2_with fail
          refine (toInt_int _ _).mono ?_
          rintro e w1 ⟨rfl, hw1⟩
          have hb1 : Below w.heap.size w w1 := hw1
          go_wp2_with fail
          refine (CS.out _).mono ?_
          rintro e w2 ⟨rfl, rfl⟩
          go_wp2_with fail
          go_ret
          exact ⟨_, rfl, Hfin.out, hb1⟩
        · skip
          have Hfin := Lib.hid (cut_some (a := a) (p := p) (q := q) (c := c) (by omega))
          go_enter Tryz.func79, Tryz.ntmps79
          go_wp2_with fail
          refine (toInt_int _ _).mono ?_
          rintro e w1 ⟨rfl, hw1⟩
          have hb1 : Below w.heap.size w w1 := hw1
          go_wp2_with fail
          refine (CS.out _).mono ?_
          rintro e w2 ⟨rfl, rfl⟩
          go_wp2_with fail
          go_ret
          exact ⟨_, rfl, Hfin.out, hb1⟩
    | some x hx =>
      have CS := Lib.hid fun w => clamp_any y 0 n hy (by omega) w
      rw [show clampI y 0 (n : Int) = (p : Int) from hp] at CS
      have CE := Lib.hid fun w => clamp_any x p n hx (by omega) w
      rw [show clampI x (p : Int) (n : Int) = (q : Int) from hq] at CE
      clear hp hq
      by_cases p0 : p = 0
      · subst p0
        have Hfin := Lib.hid (cut_all (a := a) (q := q) (c := c) (by omega))
        go_enter Tryz.func79, Tryz.ntmps79
        go_wp2_with fail
        refine (toInt_int _ _).mono ?_
        rintro e w1 ⟨rfl, hw1⟩
        have hb1 : Below w.heap.size w w1 := hw1
        go_wp2_with fail
        refine (CS.out _).mono ?_
        rintro e w2 ⟨rfl, rfl⟩
        go_wp2_with fail
        refine (toIntCeil_int _ _).mono ?_
        rintro e w3 ⟨rfl, hw3⟩
        have hb3 : Below w.heap.size w w3 := below_next hb1 hw3
        go_wp2_with fail
        refine (CE.out _).mono ?_
        rintro e w4 ⟨rfl, rfl⟩
        go_wp2_with fail
        go_ret
        exact ⟨_, rfl, Hfin.out, hb3⟩
      · by_cases pc : c = p
        · have hqp : q = p := by omega
          subst hqp
          have Hfin := Lib.hid (cut_none (a := a) (p := q) (c := c))
          go_enter Tryz.func79, Tryz.ntmps79
          go_wp2_with fail
          refine (toInt_int _ _).mono ?_
          rintro e w1 ⟨rfl, hw1⟩
          have hb1 : Below w.heap.size w w1 := hw1
          go_wp2_with fail
          refine (CS.out _).mono ?_
          rintro e w2 ⟨rfl, rfl⟩
          go_wp2_with fail
          refine (toIntCeil_int _ _).mono ?_
          rintro e w3 ⟨rfl, hw3⟩
          have hb3 : Below w.heap.size w w3 := below_next hb1 hw3
          go_wp2_with fail
          refine (CE.out _).mono ?_
          rintro e w4 ⟨rfl, rfl⟩
          go_wp2_with fail
          go_ret
          exact ⟨_, rfl, Hfin.out, hb3⟩
        · skip
          have Hfin := Lib.hid (cut_some (a := a) (p := p) (q := q) (c := c) (by omega))
          go_enter Tryz.func79, Tryz.ntmps79
          go_wp2_with fail
          refine (toInt_int _ _).mono ?_
          rintro e w1 ⟨rfl, hw1⟩
          have hb1 : Below w.heap.size w w1 := hw1
          go_wp2_with fail
          refine (CS.out _).mono ?_
          rintro e w2 ⟨rfl, rfl⟩
          go_wp2_with fail
          refine (toIntCeil_int _ _).mono ?_
          rintro e w3 ⟨rfl, hw3⟩
          have hb3 : Below w.heap.size w w3 := below_next hb1 hw3
          go_wp2_with fail
          refine (CE.out _).mono ?_
          rintro e w4 ⟨rfl, rfl⟩
          go_wp2_with fail
          go_ret
          exact ⟨_, rfl, Hfin.out, hb3⟩

/-- An error of the bounds. -/
theorem slice_bad_start (a : Option Addr) (n c : Nat) (e s : Value) (hs : NoNum s) (w : World) : Calls Tryz.prog 79 #[.slice a n c, e, s] w (RetErr w) := by
  have TI := Lib.hid fun w => toInt_no hs w
  obtain ⟨t, y, rfl, _⟩ := hs
  go_enter Tryz.func79, Tryz.ntmps79
  go_wp2_with fail
  refine (TI.out _).mono ?_
  rintro e w1 ⟨rfl, hw1⟩
  have hb1 : Below w.heap.size w w1 := hw1
  go_wp2_with fail
  go_ret
  exact ⟨_, rfl, .arrayIndexNotNumberError _, keep_alloc hb1 hb1.size _⟩
theorem slice_bad_end (a : Option Addr) (n c : Nat) (hn : n ≤ 140737488355328) (e s : Value) (xs : Option Int) (he : NoNum e) (hs : BndV s xs) (w : World) : Calls Tryz.prog 79 #[.slice a n c, e, s] w (RetErr w) := by
  have TI := Lib.hid fun w => toIntCeil_no he w
  obtain ⟨t, y, rfl, _⟩ := he
  cases hs with
  | none =>
    go_enter Tryz.func79, Tryz.ntmps79
    go_wp2_with fail
    refine (TI.out _).mono ?_
    rintro e w1 ⟨rfl, hw1⟩
    have hb1 : Below w.heap.size w w1 := hw1
    go_wp2_with fail
    go_ret
    exact ⟨_, rfl, .arrayIndexNotNumberError _, keep_alloc hb1 hb1.size _⟩
  | some x hx =>
    have CS := Lib.hid fun w => clamp_any x 0 n hx (by omega) w
    go_enter Tryz.func79, Tryz.ntmps79
    go_wp2_with fail
    refine (toInt_int _ _).mono ?_
    rintro e w0 ⟨rfl, hw0⟩
    go_wp2_with fail
    refine (CS.out _).mono ?_
    rintro e w5 ⟨rfl, rfl⟩
    go_wp2_with fail
    refine (TI.out _).mono ?_
    rintro e w1 ⟨rfl, hw1⟩
    have hb1 : Below w.heap.size w w1 := below_next hw0 hw1
    go_wp2_with fail
    go_ret
    exact ⟨_, rfl, .arrayIndexNotNumberError _, keep_alloc hb1 hb1.size _⟩

/-- funcSlice at an array is slice. -/
theorem funcSlice_any (a : Option Addr) (n c : Nat) (e s : Value) (fe : e = .nilIface ∨ ∃ t y, e = .iface t y) (fs : s = .nilIface ∨ ∃ t y, s = .iface t y) (w : World) (R : Value → World → Prop) (H : Calls Tryz.prog 79 #[.slice a n c, e, s] w (Ret R)) :
    Calls Tryz.prog 63 #[.nilIface, .iface 65 (.slice a n c), e, s] w (Ret R) := by
  have HH := Lib.hid H
  clear H
  rcases fe with rfl | ⟨te, ye, rfl⟩ <;> rcases fs with rfl | ⟨ts, ys, rfl⟩
  all_goals
    go_enter Tryz.func63, Tryz.ntmps63
    go_wp2_with fail
    refine HH.out.mono ?_
    rintro e w1 ⟨v, rfl, hv⟩
    have Hv := Lib.hid hv
    clear hv
    go_wp2_with fail
    go_ret
    exact ⟨_, rfl, Hv.out⟩

end Go.Proofs.YtiphcojcdegnkaaGreatDoor

namespace Go.Proofs.YtiphcojcdegnkaaGreatDoor
open Go Go.RowKit Go.Maps Go.Deep
attribute [local go_sem] assert_jsonNumber assert_jsonNumber_nil assert_int assert_int_nil assert_float64 assert_float64_nil assert_pbigInt assert_pbigInt_nil assert_string assert_string_nil assert_sl assert_sl_nil assert_m assert_m_nil assert_bool assert_bool_nil

def RetNil (w : World) : Ending → World → Prop := Ret fun v w' => v = .nilIface ∧ Below w.heap.size w w'

set_option maxRecDepth 100000 in
theorem i2_nil_str (s : ByteArray) (w : World) : Calls Tryz.prog 49 #[.nilIface, .nilIface, .iface 9 (.string s)] w (RetNil w) := by
  go_enter Tryz.func49, Tryz.ntmps49
  go_wp2_with fail
  go_ret
  exact ⟨_, rfl, rfl, Below.refl _ _⟩
set_option maxRecDepth 100000 in
theorem i2_nil_int (n : Int) (w : World) : Calls Tryz.prog 49 #[.nilIface, .nilIface, .iface 3 (.int .i64 n)] w (RetNil w) := by
  go_enter Tryz.func49, Tryz.ntmps49
  go_wp2_with fail
  refine (toInt_int _ _).mono ?_
  rintro e w1 ⟨rfl, hw1⟩
  go_wp2_with fail
  go_ret
  exact ⟨_, rfl, rfl, hw1⟩
set_option maxRecDepth 100000 in
theorem i2_nil_flt (x : Nat) (w : World) : Calls Tryz.prog 49 #[.nilIface, .nilIface, .iface 64 (.float .f64 x)] w (RetNil w) := by
  go_enter Tryz.func49, Tryz.ntmps49
  go_wp2_with fail
  refine (toInt_flt _ _).mono ?_
  rintro e w1 ⟨n, rfl, h1, h2, hw1⟩
  clear h1 h2
  go_wp2_with fail
  go_ret
  exact ⟨_, rfl, rfl, hw1⟩
set_option maxRecDepth 100000 in
theorem i2_nil_map (r : Option Nat) (w : World) : Calls Tryz.prog 49 #[.nilIface, .nilIface, .iface 68 (.map r)] w (RetNil w) := by
  go_enter Tryz.func49, Tryz.ntmps49
  go_wp2_with fail
  go_ret
  exact ⟨_, rfl, rfl, Below.refl _ _⟩

set_option maxRecDepth 100000 in
theorem i2_map_str (r : Nat) (s : ByteArray) (w : World) (z : Value) (fz : z = .nilIface ∨ ∃ t y, z = .iface t y) (hl : (Instr.lookup 68 (.map (some r)) (.string s) false).run Tryz.prog w = .ok z w) :
    Calls Tryz.prog 49 #[.nilIface, .iface 68 (.map (some r)), .iface 9 (.string s)] w (Ret fun v w' => v = z ∧ w' = w) := by
  rcases fz with rfl | ⟨tz, yz, rfl⟩
  all_goals
    go_enter Tryz.func49, Tryz.ntmps49
    go_wp2_with fail
    go_ret
    exact ⟨_, rfl, rfl, rfl⟩

set_option maxRecDepth 100000 in
theorem i2_arr_int (a : Option Addr) (n c : Nat) (i : Int) (w : World) (z : Value) (fz : z = .nilIface ∨ ∃ t y, z = .iface t y) (H : ∀ w1, Below w.heap.size w w1 → Calls Tryz.prog 60 #[.slice a n c, .int .i64 i] w1 fun e w' => e = .returned z ∧ w' = w1) :
    Calls Tryz.prog 49 #[.nilIface, .iface 65 (.slice a n c), .iface 3 (.int .i64 i)] w (Ret fun v w' => v = z ∧ Below w.heap.size w w') := by
  have HH := Lib.hid H; clear H
  rcases fz with rfl | ⟨tz, yz, rfl⟩
  all_goals
    go_enter Tryz.func49, Tryz.ntmps49
    go_wp2_with fail
    refine (toInt_int _ _).mono ?_
    rintro e w1 ⟨rfl, hw1⟩
    have hb : Below w.heap.size w w1 := hw1
    go_wp2_with fail
    refine (HH.out w1 hb).mono ?_
    rintro e w2 ⟨rfl, rfl⟩
    go_wp2_with fail
    go_ret
    exact ⟨_, rfl, rfl, hb⟩

set_option maxRecDepth 100000 in
theorem i2_arr_map (a : Option Addr) (n c r : Nat) (w : World) (s e : Value) (fs : s = .nilIface ∨ ∃ t y, s = .iface t y) (fe : e = .nilIface ∨ ∃ t y, e = .iface t y) (hs : (Instr.lookup 68 (.map (some r)) (.string ⟨#[115, 116, 97, 114, 116]⟩) true).run Tryz.prog w = .ok (.tuple #[s, .bool true]) w)
    (he : (Instr.lookup 68 (.map (some r)) (.string ⟨#[101, 110, 100]⟩) true).run Tryz.prog w = .ok (.tuple #[e, .bool true]) w) (R : Value → World → Prop) (H : Calls Tryz.prog 63 #[.nilIface, .iface 65 (.slice a n c), e, s] w (Ret R)) :
    Calls Tryz.prog 49 #[.nilIface, .iface 65 (.slice a n c), .iface 68 (.map (some r))] w (Ret R) := by
  have HH := Lib.hid H; clear H
  rcases fe with rfl | ⟨te, ye, rfl⟩ <;> rcases fs with rfl | ⟨ts, ys, rfl⟩
  all_goals
    go_enter Tryz.func49, Tryz.ntmps49
    go_wp2_with fail
    refine HH.out.mono ?_
    rintro e w1 ⟨v, rfl, hv⟩
    have Hv := Lib.hid hv
    clear hv
    go_wp2_with fail
    go_ret
    exact ⟨_, rfl, Hv.out⟩

set_option maxRecDepth 100000 in
theorem i2_arr_str (y : Value) (s : ByteArray) (w : World) : Calls Tryz.prog 49 #[.nilIface, .iface 65 y, .iface 9 (.string s)] w (RetErr w) := by
  go_enter Tryz.func49, Tryz.ntmps49
  go_wp2_with fail
  go_ret
  exact ⟨_, rfl, .expectedObjectError _, below_alloc1 _ _⟩
set_option maxRecDepth 100000 in
theorem i2_arr_nil (y : Value) (w : World) : Calls Tryz.prog 49 #[.nilIface, .iface 65 y, .nilIface] w (RetErr w) := by
  go_enter Tryz.func49, Tryz.ntmps49
  go_wp2_with fail
  go_ret
  exact ⟨_, rfl, .arrayIndexNotNumberError _, below_alloc1 _ _⟩
set_option maxRecDepth 100000 in
theorem i2_arr_bool (y : Value) (b : Bool) (w : World) : Calls Tryz.prog 49 #[.nilIface, .iface 65 y, .iface 4 (.bool b)] w (RetErr w) := by
  go_enter Tryz.func49, Tryz.ntmps49
  go_wp2_with fail
  go_ret
  exact ⟨_, rfl, .arrayIndexNotNumberError _, below_alloc1 _ _⟩
set_option maxRecDepth 100000 in
theorem i2_map_nil (y : Value) (w : World) : Calls Tryz.prog 49 #[.nilIface, .iface 68 y, .nilIface] w (RetErr w) := by
  go_enter Tryz.func49, Tryz.ntmps49
  go_wp2_with fail
  go_ret
  exact ⟨_, rfl, .objectKeyNotStringError _, below_alloc1 _ _⟩
set_option maxRecDepth 100000 in
theorem i2_map_bool (y : Value) (b : Bool) (w : World) : Calls Tryz.prog 49 #[.nilIface, .iface 68 y, .iface 4 (.bool b)] w (RetErr w) := by
  go_enter Tryz.func49, Tryz.ntmps49
  go_wp2_with fail
  go_ret
  exact ⟨_, rfl, .objectKeyNotStringError _, below_alloc1 _ _⟩
set_option maxRecDepth 100000 in
theorem i2_map_int (y : Value) (n : Int) (w : World) : Calls Tryz.prog 49 #[.nilIface, .iface 68 y, .iface 3 (.int .i64 n)] w (RetErr w) := by
  go_enter Tryz.func49, Tryz.ntmps49
  go_wp2_with fail
  refine (toInt_int _ _).mono ?_
  rintro e w1 ⟨rfl, hw1⟩
  have hb : Below w.heap.size w w1 := hw1
  go_wp2_with fail
  go_ret
  exact ⟨_, rfl, .expectedArrayError _, keep_alloc hb hb.size _⟩
set_option maxRecDepth 100000 in
theorem i2_map_flt (y : Value) (n : Nat) (w : World) : Calls Tryz.prog 49 #[.nilIface, .iface 68 y, .iface 64 (.float .f64 n)] w (RetErr w) := by
  go_enter Tryz.func49, Tryz.ntmps49
  go_wp2_with fail
  refine (toInt_flt _ _).mono ?_
  rintro e w1 ⟨n, rfl, h1, h2, hw1⟩
  have hb : Below w.heap.size w w1 := hw1
  clear h1 h2
  go_wp2_with fail
  go_ret
  exact ⟨_, rfl, .expectedArrayError _, keep_alloc hb hb.size _⟩
set_option maxRecDepth 100000 in
theorem i2_map_arr (y z : Value) (w : World) (hz : ∃ a n c, z = .slice a n c) : Calls Tryz.prog 49 #[.nilIface, .iface 68 y, .iface 65 z] w (RetErr w) := by
  obtain ⟨a, n, c, rfl⟩ := hz
  go_enter Tryz.func49, Tryz.ntmps49
  go_wp2_with fail
  go_ret
  exact ⟨_, rfl, .expectedArrayError _, below_alloc1 _ _⟩

end Go.Proofs.YtiphcojcdegnkaaGreatDoor

namespace Go.Proofs.YtiphcojcdegnkaaGreatDoor
open Go Go.RowKit Go.Shelf

def valid_ren : Go.Shelf.Ren := ⟨fun | 196 => 54 | 259 => 66 | n => n, fun | 0 => 0 | 3 => 3 | 4 => 4 | 5 => 5 | 9 => 9 | 12 => 12 | 46 => 146 | 53 => 161 | 119 => 142 | 138 => 144 | 139 => 145 | n => n, fun | 3 => 0 | 4 => 1 | n => n⟩
theorem valid_lays : Go.Proofs.Lays.n196 Tryz.prog valid_ren := {
  mixed := by kernel_rfl
  f196 := Tryz.func54.trans (congrArg some (by kernel_rfl))
  f259 := Tryz.func66.trans (congrArg some (by kernel_rfl))
  t0 := Tryz.underlying0
  a0 := Tryz.isAgg0
  z0 := Tryz.sizeOf0
  v0 := Tryz.zeroValue0
  t3 := Tryz.underlying3
  a3 := Tryz.isAgg3
  z3 := Tryz.sizeOf3
  v3 := Tryz.zeroValue3
  t4 := Tryz.underlying4
  a4 := Tryz.isAgg4
  z4 := Tryz.sizeOf4
  v4 := Tryz.zeroValue4
  t5 := Tryz.underlying5
  a5 := Tryz.isAgg5
  z5 := Tryz.sizeOf5
  v5 := Tryz.zeroValue5
  t9 := Tryz.underlying9
  a9 := Tryz.isAgg9
  z9 := Tryz.sizeOf9
  v9 := Tryz.zeroValue9
  t12 := Tryz.underlying12
  a12 := Tryz.isAgg12
  z12 := Tryz.sizeOf12
  v12 := Tryz.zeroValue12
  t46 := Tryz.underlying146
  a46 := Tryz.isAgg146
  z46 := Tryz.sizeOf146
  v46 := Tryz.zeroValue146
  t53 := Tryz.underlying161
  a53 := Tryz.isAgg161
  z53 := Tryz.sizeOf161
  v53 := Tryz.zeroValue161
  t119 := Tryz.underlying142
  a119 := Tryz.isAgg142
  z119 := Tryz.sizeOf142
  t138 := Tryz.underlying144
  a138 := Tryz.isAgg144
  z138 := Tryz.sizeOf144
  v138 := Tryz.zeroValue144
  t139 := Tryz.underlying145
  a139 := Tryz.isAgg145
  z139 := Tryz.sizeOf145
  v139 := Tryz.zeroValue145
  g3 := by kernel_rfl
  g4 := by kernel_rfl }

/-- The two tables of package unicode/utf8 lie in w. -/
def Tabs (w : World) : Prop := Lib.Utf8Tabs 0 1 w

theorem Tabs.carry {B : Nat} {w w' : World} (h : Tabs w) (hb : Below B w w') (h1 : 0 < B) (h2 : 1 < B) : Tabs w' := by
  refine ⟨fun c hc => (hb.cell (p := ⟨_, c, none⟩) h1).trans (h.1 c hc), fun i hi => ⟨(hb.cell (p := ⟨_, _, none⟩) h2).trans (h.2 i hi).1, (hb.cell (p := ⟨_, _, none⟩) h2).trans (h.2 i hi).2⟩⟩

theorem Tabs.setCell {w : World} (h : Tabs w) (b i : Nat) (u : Value) (h1 : 0 < b) (h2 : 1 < b) : Tabs (w.setCell ⟨b, i, none⟩ u) :=
  h.carry (B := b) (⟨rfl, rfl, rfl, by simp [World.setCell], fun k hk => Below.heap_setCell _ _ _ _ (by simp; omega)⟩) h1 h2

theorem valid_any (s : ByteArray) (w : World) (hs : s.size ≤ 9223372036854775807) (hT : Tabs w) :
    Calls Tryz.prog 54 #[.string s] w fun e w' => e = .returned (.bool (Lib.validD s.data.toList)) ∧ Below w.heap.size w w' :=
  Any.utf8_ValidString valid_lays s w hs hT

end Go.Proofs.YtiphcojcdegnkaaGreatDoor
