/- Contract of gojq.update. -/
/- Contract of gojq.deleteEmpty: what is left of a tree with holes. -/
/- What a value is as a tree of Go's, kind by kind. -/
/- Contract of gojq.deleteEmpty at arrays, and at every tree with holes. -/
import Derived.Test.YtpoibibbkjogpaaGreatDoorM17
import Derived.Test.YtpoibibbkjogpaaGreatDoorM05
import Derived.Test.YtpoibibbkjogpaaGreatDoorM18
import Derived.Sort.KeysCollected
import Derived.Maps.RangeWalk
import Derived.Test.YtpoibibbkjogpaaGreatDoorM02
namespace Go.Proofs.YtpoibibbkjogpaaGreatDoor
open Go Go.RowKit Go.Maps Go.Deep Go.WideMaps

theorem assert_st (t : TypeId) (v : Value) (w : World) : (Instr.typeAssert (.iface t v) 20 108 true).run Tryz.prog w = .ok (if t = 108 then .tuple #[v, .bool true] else .tuple #[.agg #[], .bool false]) w :=
  run_assert Tryz.underlying108 (fun _ h => by cases h) (fun _ => by kernel_rfl) t v w
theorem assert_st_nil (w : World) : (Instr.typeAssert .nilIface 20 108 true).run Tryz.prog w = .ok (.tuple #[.agg #[], .bool false]) w :=
  run_assert_nil Tryz.underlying108 (fun _ h => by cases h) (fun _ => by kernel_rfl) w
attribute [local go_sem] assert_jsonNumber assert_jsonNumber_nil assert_int assert_int_nil assert_float64 assert_float64_nil assert_pbigInt assert_pbigInt_nil assert_string assert_string_nil assert_sl assert_sl_nil assert_m assert_m_nil assert_bool assert_bool_nil assert_st assert_st_nil

theorem toInt_same (n : Int) (w : World) : Calls Tryz.prog 79 #[.iface 3 (.int .i64 n)] w fun e w' => e = .returned (.tuple #[.int .i64 n, .bool true]) ∧ w' = w := by
  go_enter Tryz.func79, Tryz.ntmps79
  go_wp2_with fail
  go_ret2
  exact ⟨rfl, rfl⟩

theorem upd_nil (am : Option Nat) (n : J) (y : Value) : UpdOK am [] n y := by
  intro v x pv S T w _ _ hx hy hd hS hT hp
  obtain ⟨pa, pc, rfl, _⟩ := hp
  have hr : UpdR w S T (updJ v [] n) (.returned (.tuple #[y, .nilIface])) w := updR_some (Below.refl _ _) (hy.mono fun q h => .inr (.inl h))
  have fx := hx.form
  have fy := hy.form
  have Hr := Lib.hid hr
  clear hx hy hr
  simp only [List.length_nil]
  rcases fx with rfl | ⟨tx, x, rfl⟩ <;> rcases fy with rfl | ⟨ty, y, rfl⟩
  all_goals
    go_enter Tryz.func65, Tryz.ntmps65
    go_wp2_with fail
    go_ret2
    exact Hr.out

/-- The rest of a path. -/
theorem stps_tail {w : World} {a : Option Addr} {c : Nat} {s : Stp} {p : List Stp} (h : StpsAt w (.slice a (p.length + 1) c) (s :: p)) :
    ∃ b o, a = some ⟨b, o, none⟩ ∧ w.cell? ⟨b, o, none⟩ = some (stpVal s) ∧ b < w.heap.size ∧ p.length + 1 ≤ c ∧ c ≤ 140737488355328 ∧ StpsAt w (.slice (if c = 1 then some ⟨b, o, none⟩ else some ⟨b, o + 1, none⟩) p.length (c - 1)) p := by
  obtain ⟨a', c', e, hc, hc2, hcel⟩ := h
  injection e with e1 e2 e3
  subst e1 e3
  obtain ⟨b, o, rfl, hb, hce⟩ := hcel (by simp)
  refine ⟨b, o, rfl, hce 0 (by simp), hb, hc, hc2, ⟨_, _, rfl, by simp at hc; omega, by omega, fun h0 => ?_⟩⟩
  simp only [List.length_cons] at hc
  rw [if_neg (by omega)]
  refine ⟨b, o + 1, rfl, hb, fun i hi => ?_⟩
  have := hce (i + 1) (by simpa using hi)
  rw [show o + 1 + i = o + (i + 1) by omega]
  exact this

set_option maxRecDepth 100000 in
theorem upd_key_other {am : Option Nat} {k : ByteArray} {b o m c : Nat} {t : TypeId} {z y : Value} {w : World} {S T : Nat → Prop} (h1 : w.cell? ⟨b, o, none⟩ = some (stpVal (.key k))) (ht : t ≠ 62) (ht2 : t ≠ 108) (fy : IsI y) :
    Calls Tryz.prog 65 #[.iface t z, .slice (some ⟨b, o, none⟩) (m + 1) c, y, .map am] w (UpdR w S T none) := by
  unfold stpVal at h1
  rcases fy with rfl | ⟨ty, y, rfl⟩
  all_goals
    go_enter Tryz.func65, Tryz.ntmps65
    go_wp2_with fail
    go_ret2
    exact updR_none (below_alloc1 _ _) (.expectedObjectError _)
set_option maxRecDepth 100000 in
theorem upd_idx_other {am : Option Nat} {i : Nat} {b o m c : Nat} {t : TypeId} {z y : Value} {w : World} {S T : Nat → Prop} (h1 : w.cell? ⟨b, o, none⟩ = some (stpVal (.idx i))) (ht : t ≠ 59) (ht2 : t ≠ 108) (fy : IsI y) :
    Calls Tryz.prog 65 #[.iface t z, .slice (some ⟨b, o, none⟩) (m + 1) c, y, .map am] w (UpdR w S T none) := by
  unfold stpVal at h1
  rcases fy with rfl | ⟨ty, y, rfl⟩
  all_goals
    go_enter Tryz.func65, Tryz.ntmps65
    go_wp2_with fail
    refine (toInt_int _ _).mono ?_
    rintro e w1 ⟨rfl, hw1⟩
    have hb : Below w.heap.size w w1 := hw1
    go_wp2_with fail
    go_ret2
    exact updR_none (keep_alloc hb hb.size _) (.expectedArrayError _)
set_option maxRecDepth 100000 in
theorem upd_hole {am : Option Nat} {s : Stp} {b o m c : Nat} {y : Value} {w : World} {S T : Nat → Prop} (h1 : w.cell? ⟨b, o, none⟩ = some (stpVal s)) (fy : IsI y) :
    Calls Tryz.prog 65 #[.iface 108 (.agg #[]), .slice (some ⟨b, o, none⟩) (m + 1) c, y, .map am] w (UpdR w S T (some .hole)) := by
  cases s with
  | key k =>
    unfold stpVal at h1
    rcases fy with rfl | ⟨ty, y, rfl⟩
    all_goals
      go_enter Tryz.func65, Tryz.ntmps65
      go_wp2_with fail
      go_ret2
      exact updR_some (below_alloc1 _ _) (.hole _)
  | idx i =>
    unfold stpVal at h1
    rcases fy with rfl | ⟨ty, y, rfl⟩
    all_goals
      go_enter Tryz.func65, Tryz.ntmps65
      go_wp2_with fail
      refine (toInt_int _ _).mono ?_
      rintro e w1 ⟨rfl, hw1⟩
      have hb : Below w.heap.size w w1 := hw1
      go_wp2_with fail
      go_ret2
      exact updR_some (keep_alloc hb hb.size _) (.hole _)

set_option maxHeartbeats 1000000 in
set_option maxRecDepth 100000 in
theorem upd_key_go {am : Option Nat} {k : ByteArray} {b o m c : Nat} {x y : Value} {mv : Option Nat} {w : World} {R : Ending → World → Prop} (hx : (x = .nilIface ∧ mv = none) ∨ x = .iface 62 (.map mv)) (h1 : w.cell? ⟨b, o, none⟩ = some (stpVal (.key k))) (hc : m + 1 ≤ c) (fy : IsI y) (hR : ∀ e w', R e w' → ∃ u er, e = .returned (.tuple #[u, er]) ∧ IsI u ∧ IsI er)
    (H : Calls Tryz.prog 90 #[.map mv, .string k, .slice (if c = 1 then some ⟨b, o, none⟩ else some ⟨b, o + 1, none⟩) m (c - 1), y, .map am] w R) :
    Calls Tryz.prog 65 #[x, .slice (some ⟨b, o, none⟩) (m + 1) c, y, .map am] w R := by
  unfold stpVal at h1
  have HR := Lib.hid hR
  clear hR
  by_cases hc1 : c = 1
  · subst hc1
    obtain rfl : m = 0 := by omega
    rw [if_pos rfl, Nat.sub_self] at H
    have HH := Lib.hid H
    clear H
    rcases hx with ⟨rfl, rfl⟩ | rfl <;> rcases fy with rfl | ⟨ty, y, rfl⟩
    all_goals
      go_enter Tryz.func65, Tryz.ntmps65
      go_wp2_with fail
      refine HH.out.mono ?_
      rintro e w1 hr
      obtain ⟨u, er, rfl, fu, fe⟩ := HR.out e w1 hr
      have Hr := Lib.hid hr
      clear hr h1
      rcases fu with rfl | ⟨tu, u, rfl⟩ <;> rcases fe with rfl | ⟨te, er, rfl⟩
      all_goals
        go_wp2_with fail
        exact Hr.out
  · rw [if_neg hc1] at H
    have HH := Lib.hid H
    clear H
    rcases hx with ⟨rfl, rfl⟩ | rfl <;> rcases fy with rfl | ⟨ty, y, rfl⟩
    all_goals
      go_enter Tryz.func65, Tryz.ntmps65
      go_wp2_with fail
      refine HH.out.mono ?_
      rintro e w1 hr
      obtain ⟨u, er, rfl, fu, fe⟩ := HR.out e w1 hr
      have Hr := Lib.hid hr
      clear hr h1
      rcases fu with rfl | ⟨tu, u, rfl⟩ <;> rcases fe with rfl | ⟨te, er, rfl⟩
      all_goals
        go_wp2_with fail
        exact Hr.out

set_option maxHeartbeats 1000000 in
set_option maxRecDepth 100000 in
theorem upd_idx_go {am : Option Nat} {i : Nat} {b o m c : Nat} {x y : Value} {v : Value} {w : World} {R : Ending → World → Prop} (hx : (x = .nilIface ∧ v = .slice none 0 0) ∨ (x = .iface 59 v ∧ ∃ a n c, v = .slice a n c)) (h1 : w.cell? ⟨b, o, none⟩ = some (stpVal (.idx i))) (hc : m + 1 ≤ c) (fy : IsI y) (hR : ∀ e w', R e w' → ∃ u er, e = .returned (.tuple #[u, er]) ∧ IsI u ∧ IsI er)
    (H : Calls Tryz.prog 91 #[v, .int .i64 i, .slice (if c = 1 then some ⟨b, o, none⟩ else some ⟨b, o + 1, none⟩) m (c - 1), y, .map am] w R) :
    Calls Tryz.prog 65 #[x, .slice (some ⟨b, o, none⟩) (m + 1) c, y, .map am] w R := by
  unfold stpVal at h1
  have HR := Lib.hid hR
  clear hR
  by_cases hc1 : c = 1
  · subst hc1
    obtain rfl : m = 0 := by omega
    rw [if_pos rfl, Nat.sub_self] at H
    have HH := Lib.hid H
    clear H
    rcases hx with ⟨rfl, rfl⟩ | ⟨rfl, va, vn, vc, rfl⟩ <;> rcases fy with rfl | ⟨ty, y, rfl⟩
    all_goals
      go_enter Tryz.func65, Tryz.ntmps65
      go_wp2_with fail
      refine (toInt_same _ _).mono ?_
      rintro e w0 ⟨rfl, rfl⟩
      go_wp2_with fail
      refine HH.out.mono ?_
      rintro e w1 hr
      obtain ⟨u, er, rfl, fu, fe⟩ := HR.out e w1 hr
      have Hr := Lib.hid hr
      clear hr h1
      rcases fu with rfl | ⟨tu, u, rfl⟩ <;> rcases fe with rfl | ⟨te, er, rfl⟩
      all_goals
        go_wp2_with fail
        exact Hr.out
  · rw [if_neg hc1] at H
    have HH := Lib.hid H
    clear H
    rcases hx with ⟨rfl, rfl⟩ | ⟨rfl, va, vn, vc, rfl⟩ <;> rcases fy with rfl | ⟨ty, y, rfl⟩
    all_goals
      go_enter Tryz.func65, Tryz.ntmps65
      go_wp2_with fail
      refine (toInt_same _ _).mono ?_
      rintro e w0 ⟨rfl, rfl⟩
      go_wp2_with fail
      refine HH.out.mono ?_
      rintro e w1 hr
      obtain ⟨u, er, rfl, fu, fe⟩ := HR.out e w1 hr
      have Hr := Lib.hid hr
      clear hr h1
      rcases fu with rfl | ⟨tu, u, rfl⟩ <;> rcases fe with rfl | ⟨te, er, rfl⟩
      all_goals
        go_wp2_with fail
        exact Hr.out


theorem updR_form {w w' : World} {S T : Nat → Prop} {o : Option J} {e : Ending} (h : UpdR w S T o e w') : ∃ u er, e = .returned (.tuple #[u, er]) ∧ IsI u ∧ IsI er := by
  obtain ⟨u, er, he, fu, fe, _⟩ := h
  exact ⟨u, er, he, fu, fe⟩

/-- gojq.update, at keys and places. -/
theorem update_any (am : Option Nat) (n : J) (y : Value) : ∀ (p : List Stp), (∀ s ∈ p, s.small) → UpdOK am p n y
  | [], _ => upd_nil am n y
  | s :: p, hs => by
    have IH := update_any am n y p fun s h => hs s (List.mem_cons_of_mem _ h)
    have hss := hs s (List.mem_cons_self ..)
    intro v x pv S T w hsl hfi hx hy hd hS hT hp
    obtain ⟨pa, pc, rfl, hlc, _⟩ := id hp
    obtain ⟨b, o, rfl, h1, hb, hc, hc2, htl⟩ := stps_tail hp
    have fy : IsI y := hy.form
    cases s with
    | key k =>
      have other : ∀ (t : TypeId) (z : Value), x = .iface t z → t ≠ 62 → t ≠ 108 → updJ v (.key k :: p) n = none → Calls Tryz.prog 65 #[x, .slice (some ⟨b, o, none⟩) (p.length + 1) pc, y, .map am] w (UpdR w S T (updJ v (.key k :: p) n)) := by
        intro t z e h2 h3 h4
        rw [e, h4]
        exact upd_key_other h1 h2 h3 fy
      cases hx with
      | null => exact upd_key_go (.inl ⟨rfl, rfl⟩) h1 hc fy (fun e w' h => updR_form h) (updObj_nil hss hy hd hS hT htl IH)
      | bool => exact other _ _ rfl (by decide) (by decide) rfl
      | int => exact other _ _ rfl (by decide) (by decide) rfl
      | flt => exact other _ _ rfl (by decide) (by decide) rfl
      | str => exact other _ _ rfl (by decide) (by decide) rfl
      | arr => exact other _ _ rfl (by decide) (by decide) rfl
      | hole => exact upd_hole h1 fy
      | obj E F hr hm hsz own sub dis rm => exact upd_key_go (.inr rfl) h1 hc fy (fun e w' h => updR_form h) (updObj_map hss hfi hsl (.obj E F hr hm hsz own sub dis rm) hy hd hS hT htl IH)
    | idx i =>
      have other : ∀ (t : TypeId) (z : Value), x = .iface t z → t ≠ 59 → t ≠ 108 → updJ v (.idx i :: p) n = none → Calls Tryz.prog 65 #[x, .slice (some ⟨b, o, none⟩) (p.length + 1) pc, y, .map am] w (UpdR w S T (updJ v (.idx i :: p) n)) := by
        intro t z e h2 h3 h4
        rw [e, h4]
        exact upd_idx_other h1 h2 h3 fy
      cases hx with
      | null => exact upd_idx_go (.inl ⟨rfl, rfl⟩) h1 hc fy (fun e w' h => updR_form h) (updArr_nil hss hy hd hS hT htl IH)
      | bool => exact other _ _ rfl (by decide) (by decide) rfl
      | int => exact other _ _ rfl (by decide) (by decide) rfl
      | flt => exact other _ _ rfl (by decide) (by decide) rfl
      | str => exact other _ _ rfl (by decide) (by decide) rfl
      | obj => exact other _ _ rfl (by decide) (by decide) rfl
      | hole => exact upd_hole h1 fy
      | arr f b' o' N F hl hcc ca own sub dis ra hcb hnn => exact upd_idx_go (.inr ⟨rfl, _, _, _, rfl⟩) h1 hc fy (fun e w' h => updR_form h) (updArr_list hss hfi hsl (.arr f b' o' N F hl hcc ca own sub dis ra hcb hnn) hy hd hS hT htl IH)

end Go.Proofs.YtpoibibbkjogpaaGreatDoor

namespace Go.Proofs.YtpoibibbkjogpaaGreatDoor
open Go Go.RowKit Go.Maps Go.Deep Go.WideMaps
attribute [local go_sem] assert_sl assert_sl_nil assert_m assert_m_nil assert_st assert_st_nil

theorem held_val {v : Value} {y : DataW Value × List MemPlace} (_ : heldR v = some y) : ∃ c, v = id c := ⟨v, rfl⟩
def DelR (w : World) (S : Nat → Prop) (j : J) (u : Value) (w' : World) : Prop := Turns S w w' ∧ RepJ w' S j u

theorem del_nil (w : World) : Calls Tryz.prog 66 #[.nilIface] w (Ret fun u w' => u = .nilIface ∧ w' = w) := by
  go_enter Tryz.func66, Tryz.ntmps66
  go_wp2_with fail
  go_ret
  exact ⟨_, rfl, rfl, rfl⟩
theorem del_other {t : TypeId} {z : Value} (h1 : t ≠ 108) (h2 : t ≠ 62) (h3 : t ≠ 59) (w : World) : Calls Tryz.prog 66 #[.iface t z] w (Ret fun u w' => u = .iface t z ∧ w' = w) := by
  go_enter Tryz.func66, Tryz.ntmps66
  go_wp2_with fail
  go_ret
  exact ⟨_, rfl, rfl, rfl⟩

/-- A part by itself: what deleteEmpty makes of it. -/
def DelOK (x : Part) (r : V) : Prop := ∀ w', RepJ w' x.f x.j x.v → (∀ q, x.f q → q < w'.heap.size) → Calls Tryz.prog 66 #[x.v] w' (Ret (DelR w' x.f (toJ r)))

theorem DelSt.rep {w wr : World} {S : Nat → Prop} {r0 : Nat} {t0 t : List (ByteArray × Part)} {T : List (ByteArray × V)} {left : Lit → Bool} (h : DelSt wr t0 T t left) (hm : MapE wr r0 t) (hx : ∀ x ∈ t0, EntOK w S r0 x) (hp : t0.Pairwise Off) (hr : S r0) : RepJ wr S (.obj (jOf t)) (.iface 62 (.map (some r0))) := by
  have hne := rises_irrefl hm.rises
  refine obj_close hr hm (fun x hxt => ?_) (hne.imp_of_mem fun {a b} ha hb hab => ?_)
  · obtain ⟨x0, h0, e1, e2, _⟩ := h.parts x hxt
    obtain ⟨a1, a2, a3, _⟩ := hx x0 h0
    exact ⟨by rw [← e1]; exact a1, by rw [← e2]; exact a2, by rw [← e2]; exact a3, h.reps x hxt⟩
  · obtain ⟨a0, h0, e1, e2, _⟩ := h.parts a ha
    obtain ⟨b0, h0', e1', e2', _⟩ := h.parts b hb
    have hoff := pair_all (fun a b => Off.symm) hp h0 h0' (fun e => hab (by rw [← e1, ← e1', e]))
    intro k h1 h2
    exact hoff k (by rw [e2]; exact h1) (by rw [e2']; exact h2)

def DelLoop (w : World) (S : Nat → Prop) (r0 n : Nat) (t0 : List (ByteArray × Part)) (T : List (ByteArray × V)) (wr : World) : Prop :=
  ∃ left cnt t, wr.ranges Tryz.prog 9 heldR r0 w.heap.size n (.map (entT t)) left cnt ∧ DelSt wr t0 T t left ∧ Turns S w wr

set_option maxHeartbeats 4000000 in
set_option maxRecDepth 100000 in
theorem del_map {w : World} {S : Nat → Prop} {r0 : Nat} {t0 : List (ByteArray × Part)} {T : List (ByteArray × V)} (hS : ∀ q, S q → q < w.heap.size) (hr : S r0) (hE : MapE w r0 t0) (hx : ∀ x ∈ t0, EntOK w S r0 x) (hp : t0.Pairwise Off) (hd : Dest t0 T)
    (IH : ∀ x ∈ t0, x.2.j = .hole ∨ ∃ r, (x.1, r) ∈ T ∧ isHole x.2.j = false ∧ DelOK x.2 r) :
    Calls Tryz.prog 66 #[.iface 62 (.map (some r0))] w (Ret (DelR w S (.obj (T.map fun y => (y.1, toJ y.2))))) := by
  obtain ⟨n, hn, hown⟩ := hE
  have Hown := Lib.hid hown
  have HI := Lib.hid IH
  have Hx := Lib.hid hx
  have Hp := Lib.hid hp
  have Hd := Lib.hid hd
  have HS := Lib.hid hS
  have hst0 := Lib.hid (DelSt.start hd (fun x hxm => (hx x hxm).2.2.2))
  have hr0w := hS r0 hr
  have Hr := Lib.hid hr
  clear hown IH hx hp hd hS hr
  go_enter Tryz.func66, Tryz.ntmps66
  go_wp2_with (first
    | (at_range; refine wpList_range_own _ rfl _ 62 rfl 9 20 law_str Tryz.underlying62 heldR r0 n (.map (entT t0)) rfl Hown.out ?_; intro w0 hrg0 hg0 hs0)
    | go_in)
  try go_frame
  go_loopw [5] (fun _ wr => DelLoop w S r0 n t0 T wr) (fun _ wr => wr.rangeLeft r0 w.heap.size)
  case atStart =>
    have ht := (Turns.of_grown (hg0.but none)).trans (Turns.refl (fun _ => False) w0) (fun q _ h => h.elim)
    exact ⟨_, _, t0, hrg0, ⟨hst0.out.parts, fun x hxm => (hst0.out.reps x hxm).carry fun q hq => hg0.block q (HS.out q ((Hx.out x hxm).2.2.1 q hq)) (by simp), hst0.out.there, hst0.out.done⟩, ⟨hg0.os, hg0.tape, hg0.output, hg0.size, fun q hq _ => hg0.block q hq (by simp)⟩⟩
  case round =>
    obtain ⟨left, cnt, t, hrg, hst, htu⟩ := hrel
    go_wp2_with (first
      | (at_next; refine wpList_next_ranges _ rfl _ rfl 9 law_str heldR encStr id (fun key kl h => by obtain ⟨x, hx, _⟩ := Maps.keyOf_str Tryz.underlying9 h; exact ⟨x, hx⟩) (fun _ _ h => held_val h) r0 w.heap.size n _ _ _ rfl hrg ?_ ?_)
      | go_in)
    · intro hc0 hl0
      have hm : MapE wr r0 t := ⟨n, hn, hrg.owns⟩
      have hfin := hst.finish hl0 Hd.out hm.rises
      have hrep := hst.rep hm Hx.out Hp.out Hr.out
      rw [hfin] at hrep
      have Hrep := Lib.hid hrep
      have Htu := Lib.hid htu
      clear hst hrg hl0 hc0 htu hm hfin hrep
      go_wp2_with fail
      go_ret
      exact ⟨_, rfl, Htu.out, Hrep.out⟩
    · intro x c kl y y2 w1 cnt1 hkey hlk hy hat hrg1 hlt hg1 hs1 hen
      obtain ⟨x', ex, rfl, _⟩ := Maps.keyOf_str Tryz.underlying9 hkey
      obtain rfl := encStr_inj ex
      obtain ⟨e, het, hek, rfl⟩ := entT_at (fun z => (hat z).trans (heldR_inv hy))
      have hwr := htu.size
      have hl : left (keyL e.1) = true := by rw [hek]; exact hlk
      have he0 : e ∈ t0 := by
        obtain ⟨x0, h0, _, _, h1 | ⟨h1, _⟩⟩ := hst.parts e het
        · rw [h1.2]; exact h0
        · rw [hl] at h1; cases h1
      obtain ⟨ks1, ks2, ks3, _⟩ := Hx.out e he0
      have hreps1 : ∀ z ∈ t, RepJ w1 z.2.f z.2.j z.2.v := fun z hz => (hst.reps z hz).carry fun q hq => by
        obtain ⟨z0, h0, _, e2, _⟩ := hst.parts z hz
        have hq2 := HS.out q ((Hx.out z0 h0).2.2.1 q (by rw [e2]; exact hq))
        exact hg1.block q (by omega) (fun e => by cases e; omega)
      have htu1 : Turns S w w1 := ⟨hg1.os.trans htu.os, hg1.tape.trans htu.tape, hg1.output.trans htu.output, Nat.le_trans htu.size hg1.size, fun q hq hn => (hg1.block q (by omega) (fun e => by cases e; omega)).trans (htu.block q hq hn)⟩
      have hothers : ∀ z ∈ t, z.1 ≠ e.1 → (∀ q, z.2.f q → e.2.f q → False) ∧ ¬ z.2.f r0 ∧ ∀ q, z.2.f q → q < w.heap.size := fun z hz hne => by
        obtain ⟨z0, h0, e1, e2, _⟩ := hst.parts z hz
        obtain ⟨_, a2, a3, _⟩ := Hx.out z0 h0
        have hoff := pair_all (fun a b => Off.symm) Hp.out h0 he0 (fun e => hne (by rw [← e1, e]))
        rw [← e2]
        exact ⟨fun q h1 h2 => hoff q h1 h2, a2, fun q hq => HS.out q (a3 q hq)⟩
      have Hst := Lib.hid hst
      have Hreps1 := Lib.hid hreps1
      have Htu1 := Lib.hid htu1
      have Hoth := Lib.hid hothers
      have Hek := Lib.hid hek
      have Hl := Lib.hid hl
      have Het := Lib.hid het
      have Hks3 := Lib.hid ks3
      have Hrg := Lib.hid hrg
      have hre := hreps1 e het
      have hi := HI.out e he0
      have hw1s := htu1.size
      clear hst hreps1 htu1 hothers hek hl het ks3 hrg hat hy hlk htu hg1
      rcases hi with hj | ⟨r, hT, hnh, hok⟩
      · have Hj := Lib.hid hj
        rw [hj] at hre
        generalize e.2.v = c at *
        cases hre
        clear hj
        have q0 := eql_hole w1
        go_wp2_with (first
          | (at_delete; refine wpList_delete_ranges _ rfl (.tmp 32) (.tmp 33) 62 9 rfl 20 law_str Tryz.underlying62 heldR r0 w.heap.size n _ _ cnt1 rfl hrg1 (encStr x) (.string x) rfl hkey ?_; intro w2 cnt2 hrg2 hle hturn; go_frame)
          | go_in)
        have htt := Turns.of_grown (turned_grown hturn)
        rw [Maps.strike_twice, ← Hek.out, entT_del] at hrg2
        refine ⟨⟨_, cnt2, _, hrg2, Hst.out.gone Hd.out Het.out Hl.out Hj.out fun z hz hne => ?_, Htu1.out.trans htt fun q _ hq => ?_⟩, ?_⟩
        · obtain ⟨_, a2, a3⟩ := Hoth.out z hz hne
          exact (Hreps1.out z hz).turned htt (fun q hq => by have := a3 q hq; omega) (fun q h1 h2 => by cases h2; exact a2 h1)
        · cases hq
          exact Hr.out
        · rw [hrg2.left_eq, Hrg.out.left_eq]
          omega
      · have hf := hole_form hre
        have hc : e.2.v = .nilIface ∨ ∃ t z, e.2.v = .iface t z ∧ t ≠ 108 := by
          rcases hf with ⟨h, _⟩ | ⟨_, h⟩
          · rw [hnh] at h; cases h
          · exact h
        have D := Lib.hid (hok w1 hre (fun q hq => by have := HS.out q (Hks3.out q hq); omega))
        have HT := Lib.hid hT
        have q1 := eql_nil w1
        clear hre hf hok hT hnh
        generalize e.2.v = c at *
        rcases hc with rfl | ⟨tc, c, rfl, htc⟩
        all_goals
          try have q2 := eql_other tc c htc w1
          try clear htc
          go_wp2_with fail
          refine D.out.mono ?_
          rintro ee w2 ⟨u, rfl, htu2, hru⟩
          have hw2s := htu2.size
          have hrg2 := ranges_carry hrg1 (htu2.block r0 (by omega) ks2) (htu2.block w.heap.size hrg1.lt (fun h => by have := HS.out _ (Hks3.out _ h); omega))
          have fu := hru.form
          have Hru := Lib.hid hru
          have Htu2 := Lib.hid htu2
          have hhas : Maps.has (DataW.map (entT t)) (.string x) = true := by rw [← Hek.out]; exact entT_has Het.out
          have hnm : n < maxLen := by unfold maxLen; omega
          clear hru htu2 D q1
          try clear q2
          rcases fu with rfl | ⟨tu, u, rfl⟩
          all_goals
            go_wp2_with (first
              | (at_mapUpdate; refine wpList_restore_ranges rfl (.tmp 34) (.tmp 35) (.tmp 37) 62 rfl 9 20 law_str Tryz.underlying62 heldR r0 w.heap.size n _ _ cnt1 rfl hrg2 hnm (encStr x) _ (.string x) rfl rfl hkey hhas (.held _) [] rfl ?_; intro w3 hrg3 hg3; go_frame)
              | go_in)
            have ht3 := Turns.of_grown hg3
            rw [← Hek.out, entT_put t e.1 ⟨toJ r, _, e.2.f⟩] at hrg3
            refine ⟨⟨_, cnt1, _, hrg3, Hst.out.kept Het.out HT.out (Hru.out.turned ht3 (fun q hq => by have := HS.out q (Hks3.out q hq); omega) (fun q h1 h2 => by cases h2; exact ks2 h1)) fun z hz hne => ?_, (Htu1.out.trans Htu2.out (fun q _ h => Hks3.out q h)).trans ht3 fun q _ h => ?_⟩, ?_⟩
            · obtain ⟨a1, a2, a3⟩ := Hoth.out z hz hne
              exact ((Hreps1.out z hz).turned Htu2.out (fun q hq => by have := a3 q hq; omega) a1).turned ht3 (fun q hq => by have := a3 q hq; omega) (fun q h1 h2 => by cases h2; exact a2 h1)
            · cases h
              exact Hr.out
            · rw [hrg3.left_eq, Hrg.out.left_eq]
              exact hlt

end Go.Proofs.YtpoibibbkjogpaaGreatDoor

namespace Go.Proofs.YtpoibibbkjogpaaGreatDoor
open Go Go.RowKit

theorem toJ_0 (h : Int) (t : ByteArray) (l : List V) (ks : List ByteArray) (vs : List V) : toJ (.mk 0 h t l ks vs) = .null := by unfold toJ; simp
theorem toJ_1 (h : Int) (t : ByteArray) (l : List V) (ks : List ByteArray) (vs : List V) : toJ (.mk 1 h t l ks vs) = .bool false := by unfold toJ; simp
theorem toJ_2 (h : Int) (t : ByteArray) (l : List V) (ks : List ByteArray) (vs : List V) : toJ (.mk 2 h t l ks vs) = .bool true := by unfold toJ; simp
theorem toJ_3i {h : Int} (t : ByteArray) (l : List V) (ks : List ByteArray) (vs : List V) (e : h.tmod 2 = 0) : toJ (.mk 3 h t l ks vs) = .int (h.tdiv 2) := by unfold toJ; simp [e]
theorem toJ_3f {h : Int} (t : ByteArray) (l : List V) (ks : List ByteArray) (vs : List V) (e : ¬ h.tmod 2 = 0) : toJ (.mk 3 h t l ks vs) = .flt (halfBits h) := by unfold toJ; simp [e]
theorem toJ_4 (h : Int) (t : ByteArray) (l : List V) (ks : List ByteArray) (vs : List V) : toJ (.mk 4 h t l ks vs) = .str t := by unfold toJ; simp
theorem toJ_5 (h : Int) (t : ByteArray) (l : List V) (ks : List ByteArray) (vs : List V) : toJ (.mk 5 h t l ks vs) = .arr (toJL l) := by unfold toJ; simp
theorem toJ_6 (h : Int) (t : ByteArray) (l : List V) (ks : List ByteArray) (vs : List V) : toJ (.mk 6 h t l ks vs) = .obj (toJM ks vs) := by unfold toJ; simp

end Go.Proofs.YtpoibibbkjogpaaGreatDoor

namespace Go.Proofs.YtpoibibbkjogpaaGreatDoor
open Go Go.RowKit Go.Maps Go.Deep Go.WideMaps
attribute [local go_sem] assert_sl assert_sl_nil assert_m assert_m_nil assert_st assert_st_nil

theorem neq_hole (w : World) : (binOp .neq 20 (.iface 108 (.agg #[])) (.iface 108 (.agg #[]))).run Tryz.prog w = .ok (.bool false) w := by kernel_rfl
theorem neq_nil (w : World) : (binOp .neq 20 .nilIface (.iface 108 (.agg #[]))).run Tryz.prog w = .ok (.bool true) w := by kernel_rfl
theorem neq_other (t : TypeId) (v : Value) (ht : t ≠ 108) (w : World) : (binOp .neq 20 (.iface t v) (.iface 108 (.agg #[]))).run Tryz.prog w = .ok (.bool true) w := by
  have h : (Op.equalIn 10000 20 (.iface t v) (.iface 108 (.agg #[]))).run Tryz.prog w = .ok false w := by
    rw [show (10000 : Nat) = 9999 + 1 from rfl, Op.equalIn]
    simp [run_underlying Tryz.underlying20, Result.andThen, ht]
  show (Sem.run Tryz.prog ((Op.equalIn 10000 20 (.iface t v) (.iface 108 (.agg #[]))) >>= fun b => pure (Value.bool !b)) w) = _
  simp [h, Result.andThen]

def ArrLoop (w : World) (S : Nat → Prop) (b o N : Nat) (t0 : List Part) (l l' : List V) (jv iv : Value) (wr : World) : Prop :=
  ∃ n f tk, n ≤ t0.length ∧ iv = .int .i64 (n : Nat) ∧ jv = .int .i64 (tk.length : Nat) ∧ ArrSt wr b o N f S t0 l l' n tk ∧ Turns S w wr
def FillLoop (w : World) (S : Nat → Prop) (b o N len : Nat) (tk : List Part) (iv : Value) (wr : World) : Prop :=
  ∃ q f, tk.length ≤ q ∧ q ≤ len ∧ iv = .int .i64 (q : Nat) ∧ wr.rowIs b 20 N f ∧ (∀ i (hi : i < tk.length), f (o + i) = tk[i].v) ∧ (∀ x ∈ tk, ¬ x.f b ∧ (∀ k, x.f k → S k) ∧ RepJ wr x.f x.j x.v) ∧ Turns S w wr

theorem set_carry {w : World} {S : Nat → Prop} {j : J} {v : Value} (h : RepJ w S j v) {b i : Nat} (hb : ¬ S b) (u : Value) : RepJ (w.setCell ⟨b, i, none⟩ u) S j v :=
  h.carry fun q hq => RowKit.Below.heap_setCell _ _ _ _ (fun e => hb (by have e2 : b = q := by first | exact e | exact e.symm
                                                                         rw [e2]; exact hq))

set_option maxHeartbeats 4000000 in
set_option maxRecDepth 100000 in
theorem del_arr {w : World} {S : Nat → Prop} {b o N c : Nat} {f0 : Nat → Value} {t0 : List Part} {l l' : List V} (h0 : 0 < t0.length) (h16 : t0.length * 16 ≤ 140737488351232) (hc : t0.length ≤ c) (hcb : c ≤ capMax) (hS : ∀ q, S q → q < w.heap.size) (hrow : RowAt w b o N f0 S t0)
    (hl : HolL l (t0.map (·.j)) l') (hll : l.length = t0.length) (IH : ∀ i (hi : i < t0.length) r, Hol (l[i]'(by omega)) t0[i].j r → DelOK t0[i] r) :
    Calls Tryz.prog 66 #[.iface 59 (.slice (some ⟨b, o, none⟩) t0.length c)] w (Ret (DelR w S (.arr (toJL l')))) := by
  have hSb : S b := hrow.1
  have hN : o + t0.length ≤ N := hrow.2.2.1
  have Hst := Lib.hid (ArrSt.start hrow hl)
  have HI := Lib.hid IH
  have HS := Lib.hid hS
  have HSb := Lib.hid hSb
  have hbw := hS b hSb
  have hcm : c ≤ 9223372036854775807 := by unfold capMax at hcb; omega
  have hu0 : (0 : Int) < (t0.length : Int) := by omega
  clear hrow hl IH hS hSb
  go_enter Tryz.func66, Tryz.ntmps66
  go_wp2_with fail
  go_loopw [8, 45] (fun jv iv wr => ArrLoop w S b o N t0 l l' jv iv wr) (fun _ iv _ => t0.length - (intOf iv).toNat)
  case atStart => exact ⟨0, f0, [], Nat.zero_le _, rfl, rfl, Hst.out, Turns.refl _ _⟩
  case round =>
    obtain ⟨n, f, tk, hn, rfl, rfl, hst, htu⟩ := hrel
    have hws := htu.size
    by_cases hn' : n < t0.length
    · have y1 : wr.cell? ⟨b, o + n, none⟩ = some t0[n].v := by rw [hst.row.cell (by omega), hst.tails n hn' (Nat.le_refl _)]
      have u1 : (n : Int) < (t0.length : Int) := by omega
      have u2 : (0 : Int) ≤ (n : Int) := by omega
      have hlen := hst.len
      have u3 : (tk.length : Int) < (t0.length : Int) := by omega
      have u4 : (0 : Int) ≤ (tk.length : Int) := by omega
      obtain ⟨tr1, tr2, tr3⟩ := hst.treps n hn' (Nat.le_refl _)
      have Htr2 := Lib.hid tr2
      have Htu := Lib.hid htu
      have Hst1 := Lib.hid hst
      have hnx := hst.next hn' hll
      clear tr2 htu hst
      rcases hnx with ⟨hj, hst2⟩ | ⟨r, hv, hnh, hgo⟩
      · rw [hj] at tr3
        generalize t0[n].v = x at *
        cases tr3
        have q0 := neq_hole wr
        have Hst2 := Lib.hid hst2
        clear hst2 hj
        go_wp2_with fail
        go_roundw
        case rel => exact ⟨n + 1, f, tk, by omega, by go_num, rfl, Hst2.out, Htu.out⟩
        case measure => simp [intOf]; omega
      · have hf := hole_form tr3
        have hc2 : t0[n].v = .nilIface ∨ ∃ t z, t0[n].v = .iface t z ∧ t ≠ 108 := by
          rcases hf with ⟨h, _⟩ | ⟨_, h⟩
          · rw [hnh] at h; cases h
          · exact h
        have D := Lib.hid (HI.out n hn' r hv wr tr3 (fun q hq => by have := HS.out q (Htr2.out q hq); omega))
        have Hgo := Lib.hid hgo
        have q1 := neq_nil wr
        clear hf hv hnh hgo tr3
        generalize t0[n].v = x at *
        rcases hc2 with rfl | ⟨tx, x, rfl, htx⟩
        all_goals
          try have q2 := neq_other tx x htx wr
          try clear htx
          go_wp2_with fail
          refine D.out.mono ?_
          rintro ee w2 ⟨u, rfl, htu2, hru⟩
          have hw2s := htu2.size
          have hrow2 : w2.rowIs b 20 N f := rowIs_carry Hst1.out.row (htu2.block b (by omega) tr1)
          have y2 := hrow2.cell (i := o + tk.length) (by omega)
          have f2 := hrow2.frozen (o + tk.length)
          have fu := hru.form
          have Hru := Lib.hid hru
          have Htu2 := Lib.hid htu2
          have Hrow2 := Lib.hid hrow2
          clear hru htu2 hrow2 D q1
          try clear q2
          rcases fu with rfl | ⟨tu, u, rfl⟩
          all_goals
            go_wp2_with fail
            go_roundw
            case rel =>
              refine ⟨n + 1, _, _, by omega, by go_num, by rw [List.length_append]; go_num, Hgo.out _ _ (set_carry Hru.out tr1 _) (Hrow2.out.set (o + tk.length) _) (fun x hd hb hxS hx => set_carry (hx.turned Htu2.out (fun q hq => by have := HS.out q (hxS q hq); omega) hd) hb _), (Htu.out.trans Htu2.out (fun q _ h => Htr2.out q h)).set HSb.out _⟩
            case measure => simp [intOf]; omega
    · have en : n = t0.length := by omega
      rw [en] at hst
      have hdone := hst.done hll
      have hlen := hst.len
      have Hdone := Lib.hid hdone
      have hfill : FillLoop w S b o N t0.length tk (.int .i64 (tk.length : Nat)) wr := ⟨tk.length, f, Nat.le_refl _, hlen, rfl, hst.row, hst.heads, hst.kreps, htu⟩
      have Hfill := Lib.hid hfill
      have Htu := Lib.hid htu
      have Hpair := Lib.hid hst.off
      have u1 : ¬ ((n : Int) < (t0.length : Int)) := by omega
      clear hst hdone hfill htu
      go_wp2_with fail
      go_loopw [11] (fun iv wr => FillLoop w S b o N t0.length tk iv wr) (fun iv _ => t0.length - (intOf iv).toNat)
      case atStart => exact Hfill.out
      case round =>
        obtain ⟨q, f', hq1, hq2, rfl, hrow, hheads, hreps, htu⟩ := hrel
        by_cases hq' : q < t0.length
        · have u3 : (q : Int) < (t0.length : Int) := by omega
          have u4 : (0 : Int) ≤ (q : Int) := by omega
          have y2 := hrow.cell (i := o + q) (by omega)
          have f2 := hrow.frozen (o + q)
          have Hrow := Lib.hid hrow
          have Hheads := Lib.hid hheads
          have Hreps := Lib.hid hreps
          have Htu2 := Lib.hid htu
          clear hrow hheads hreps htu
          go_wp2_with fail
          go_roundw
          case rel =>
            refine ⟨q + 1, _, by omega, by omega, by go_num, Hrow.out.set (o + q) _, fun i hi => ?_, fun x hx => ?_, Htu2.out.set HSb.out _⟩
            · rw [if_neg (by omega)]
              exact Hheads.out i hi
            · obtain ⟨a1, a2, a3⟩ := Hreps.out x hx
              exact ⟨a1, a2, set_carry a3 a1 _⟩
          case measure => simp [intOf]; omega
        · have u3 : ¬ ((q : Int) < (t0.length : Int)) := by omega
          have u5 : (tk.length : Int) ≤ (c : Int) := by omega
          have u6 : (0 : Int) ≤ (tk.length : Int) := by omega
          have hpw : tk.Pairwise OffP := by
            have := Hpair.out
            rw [List.map_append] at this
            have := (List.pairwise_append.1 this).1
            rwa [List.pairwise_map] at this
          have hrep : RepJ wr S (.arr (tk.map (·.j))) (.iface 59 (.slice (some ⟨b, o, none⟩) tk.length c)) :=
            row_arr (by omega) (by omega) hcb (fun _ => ⟨rfl, HSb.out, hrow, by omega, hheads, hreps, hpw⟩) (by simp)
          rw [Hdone.out] at hrep
          have Hrep := Lib.hid hrep
          have Htu2 := Lib.hid htu
          clear hrow hheads hreps htu hrep hpw
          go_wp2_with fail
          go_ret
          exact ⟨_, rfl, Htu2.out, Hrep.out⟩

set_option maxHeartbeats 1000000 in
set_option maxRecDepth 100000 in
theorem del_none {a : Option Addr} {c : Nat} (w : World) : Calls Tryz.prog 66 #[.iface 59 (.slice a 0 c)] w (Ret fun u w' => w' = w ∧ ∃ a' c', u = .iface 59 (.slice a' 0 c') ∧ c' ≤ c ∧ (a ≠ none → a' ≠ none)) := by
  have hc : (0 : Int) ≤ (c : Int) := by omega
  rcases a with _ | ⟨b, o, sp⟩
  · go_enter Tryz.func66, Tryz.ntmps66
    go_wp2_with fail
    refine wp_loop_rounds 1 ?_
    rw [rounds_succ]
    go_wp2_with fail
    refine wp_loop_rounds 1 ?_
    rw [rounds_succ]
    go_wp2_with fail
    go_ret
    exact ⟨_, rfl, rfl, _, _, rfl, Nat.le_refl _, fun h => absurd rfl h⟩
  · go_enter Tryz.func66, Tryz.ntmps66
    go_wp2_with fail
    refine wp_loop_rounds 1 ?_
    rw [rounds_succ]
    go_wp2_with fail
    refine wp_loop_rounds 1 ?_
    rw [rounds_succ]
    go_wp2_with fail
    go_ret
    exact ⟨_, rfl, rfl, _, _, rfl, Nat.le_refl _, fun _ => by simp⟩

theorem sizeL_mem' : ∀ {l : List V} {x : V}, x ∈ l → sizeV x ≤ sizeL l
  | y :: r, x, h => by
    rw [sizeL_cons]
    rcases List.mem_cons.1 h with rfl | h
    · omega
    · have := sizeL_mem' h
      omega
/-- deleteEmpty takes the holes out. -/
theorem del_any : ∀ (m : Nat) (v : V), sizeV v ≤ m → Good v → ∀ (j : J) (r : V), Hol v j r → ∀ (w : World) (S : Nat → Prop) (x : Value), RepJ w S j x → (∀ q, S q → q < w.heap.size) → Calls Tryz.prog 66 #[x] w (Ret (DelR w S (toJ r)))
  | 0, v, hm, _ => by have := sizeV_pos v; omega
  | m + 1, v, hm, g => by
    intro j r hh w S x hx hS
    have IH := del_any m
    have hg := g
    obtain ⟨hlen, gl, gv⟩ := good_parts (k := v.kind) (h := v.half) (t := v.text) (l := v.list) (ks := v.keys) (vs := v.vals) (by obtain ⟨_, _, _, _, _, _⟩ := v; exact g)
    cases hh with
    | @leaf k h t l ks vs h5 h6 hl hk hv =>
      have hJ : (∃ t z, x = .iface t z ∧ t ≠ 108 ∧ t ≠ 62 ∧ t ≠ 59) ∨ x = .nilIface := by
        have hk : 0 ≤ k ∧ k ≤ 6 := by
          cases g with
          | mk shape half valid list rise vkeys vals =>
            simp only [shapeB, Bool.and_eq_true, decide_eq_true_eq] at shape
            exact ⟨shape.1.1.1.1.1.1, shape.1.1.1.1.1.2⟩
        have hc : k = 0 ∨ k = 1 ∨ k = 2 ∨ k = 3 ∨ k = 4 := by omega
        have hx2 := hx
        rcases hc with rfl | rfl | rfl | rfl | rfl
        · rw [toJ_0] at hx2; cases hx2; exact .inr rfl
        · rw [toJ_1] at hx2; cases hx2; exact .inl ⟨_, _, rfl, by decide, by decide, by decide⟩
        · rw [toJ_2] at hx2; cases hx2; exact .inl ⟨_, _, rfl, by decide, by decide, by decide⟩
        · by_cases e : h.tmod 2 = 0
          · rw [toJ_3i _ _ _ _ e] at hx2; cases hx2; exact .inl ⟨_, _, rfl, by decide, by decide, by decide⟩
          · rw [toJ_3f _ _ _ _ e] at hx2; cases hx2; exact .inl ⟨_, _, rfl, by decide, by decide, by decide⟩
        · rw [toJ_4] at hx2; cases hx2; exact .inl ⟨_, _, rfl, by decide, by decide, by decide⟩
      rcases hJ with ⟨t, z, rfl, n1, n2, n3⟩ | rfl
      · refine (del_other n1 n2 n3 w).mono ?_
        rintro e w' ⟨u, he, rfl, rfl⟩
        exact ⟨_, he, Turns.refl _ _, hx⟩
      · refine (del_nil w).mono ?_
        rintro e w' ⟨u, he, rfl, rfl⟩
        exact ⟨_, he, Turns.refl _ _, hx⟩
    | @arr h t l l' js hl =>
      rw [toJ_5]
      obtain ⟨a, c, t0, rfl, hj, h16, hc, hcb, hrow, hnn⟩ := arr_row hx
      have hlt : l.length = t0.length := by rw [← hl.len, hj]; simp
      rw [hj] at hl
      by_cases h0 : t0.length = 0
      · have e0 : t0 = [] := List.eq_nil_of_length_eq_zero h0
        subst e0
        have el : l = [] := List.eq_nil_of_length_eq_zero (by simpa using hlt)
        subst el
        cases hl
        refine (del_none w).mono ?_
        rintro e w' ⟨u, he, rfl, a', c', rfl, hcc, hna⟩
        exact ⟨_, he, Turns.refl _ _, row_arr (t := []) (b := 0) (o := 0) (N := 0) (f := fun _ => .nilIface) (by simp) (Nat.zero_le _) (Nat.le_trans hcc hcb) (fun h => by simp at h) (hna hnn)⟩
      · obtain ⟨b, o, N, f, rfl, hr⟩ := hrow (by omega)
        refine del_arr (by omega) h16 hc hcb hS hr hl hlt fun i hi r' hv w' hre hb => ?_
        have hil : i < l.length := by omega
        have hsz := sizeL_get hil
        rw [sizeV] at hm
        exact IH l[i] (by omega) (gl _ (List.getElem_mem hil)) _ r' hv w' _ _ hre hb
    | @obj h t ks ks' vs vs' m' hm' =>
      rw [toJ_6]
      obtain ⟨r0, t0, rfl, hr, rfl, hE, hxs, hp⟩ := obj_open hx
      obtain ⟨hd, hD⟩ := dest_of hm' hE.rises
      have hz : toJM ks' vs' = (ks'.zip vs').map fun y => (y.1, toJ y.2) := by
        rw [toJM_eq, List.zip_map_right]
        rfl
      rw [hz]
      refine del_map hS hr hE hxs hp hd fun x hxm => ?_
      rcases hD x hxm with h | ⟨v', hv', r', h1, h2⟩
      · exact .inl h
      · refine .inr ⟨r', h2, h1.not, fun w' hre hb => ?_⟩
        have hsz := sizeL_mem' hv'
        rw [sizeV] at hm
        exact IH v' (by omega) (gv _ hv') _ r' h1 w' _ _ hre hb

end Go.Proofs.YtpoibibbkjogpaaGreatDoor
