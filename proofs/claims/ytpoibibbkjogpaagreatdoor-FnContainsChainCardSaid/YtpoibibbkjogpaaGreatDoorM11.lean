/- Contracts of spec.Each, spec.Spot.below. -/
/- A call of a Go function at its place in a region that draws. No program in sight. -/
/- Rows of places (spec.Spot), read. -/
import Derived.Test.YtpoibibbkjogpaaGreatDoorM06
import Derived.Deep.RegionWith
import Derived.Test.YtpoibibbkjogpaaGreatDoorM08
import Derived.Test.YtpoibibbkjogpaaGreatDoorM10
import Derived.Test.YtpoibibbkjogpaaGreatDoorM07
namespace Go.Proofs.YtpoibibbkjogpaaGreatDoor
open Go Go.RowKit Go.Maps Go.Deep

set_option maxRecDepth 100000 in
theorem each_list (h : Int) (t : ByteArray) (la ka va : Option Addr) (nl cl nk ck nv cv : Nat) (w : World) :
    Calls Tryz.prog 67 #[.agg #[.int .i64 5, .int .i64 h, .string t, .slice la nl cl, .slice ka nk ck, .slice va nv cv]] w fun e w' => e = .returned (.tuple #[.slice la nl cl, .int .i64 0]) ∧ Below w.heap.size w w' := by
  go_enter Tryz.func67, Tryz.ntmps67
  go_wp2_with fail
  go_ret2
  exact ⟨rfl, below_alloc1 _ _⟩
set_option maxRecDepth 100000 in
theorem each_map (h : Int) (t : ByteArray) (la ka va : Option Addr) (nl cl nk ck nv cv : Nat) (w : World) :
    Calls Tryz.prog 67 #[.agg #[.int .i64 6, .int .i64 h, .string t, .slice la nl cl, .slice ka nk ck, .slice va nv cv]] w fun e w' => e = .returned (.tuple #[.slice va nv cv, .int .i64 0]) ∧ Below w.heap.size w w' := by
  go_enter Tryz.func67, Tryz.ntmps67
  go_wp2_with fail
  go_ret2
  exact ⟨rfl, below_alloc1 _ _⟩
set_option maxRecDepth 100000 in
theorem each_none (k h : Int) (h5 : k ≠ 5) (h6 : k ≠ 6) (h7 : k ≠ 7) (t : ByteArray) (la ka va : Option Addr) (nl cl nk ck nv cv : Nat) (w : World) :
    Calls Tryz.prog 67 #[.agg #[.int .i64 k, .int .i64 h, .string t, .slice la nl cl, .slice ka nk ck, .slice va nv cv]] w fun e w' => e = .returned (.tuple #[.slice none 0 0, .int .i64 1]) ∧ Below w.heap.size w w' := by
  have t5 : (k == 5) = false := by simpa using h5
  have t6 : (k == 6) = false := by simpa using h6
  have t7 : (k == 7) = false := by simpa using h7
  clear h5 h6 h7
  go_enter Tryz.func67, Tryz.ntmps67
  go_wp2_with fail
  go_ret2
  exact ⟨rfl, below_alloc1 _ _⟩

/-- A path copied: append(nil, path...). -/
theorem app_path {W X : World} {p : List V} {pv : Value} (hp : PathS X (· < W.heap.size) p pv) (hp0 : p = [] → pv = .slice none 0 0) (hpl : p.length ≤ 1000) (hX : W.heap.size ≤ X.heap.size) :
    ∃ v1 w1, (Builtin.append_ #[23, 23] 23 #[.slice none 0 0, pv]).run Tryz.prog X = .ok v1 w1 ∧ w1.ownsRow W.heap.size 26 6 v1 p.length (p.flatMap keyC) ∧ X.grownBy w1 none ∧ X.heap.size ≤ w1.heap.size := by
  cases p with
  | nil =>
    rw [hp0 rfl]
    exact ⟨.slice none 0 0, X, by kernel_rfl, World.ownsRow_nil _ _ _ _, ⟨rfl, rfl, rfl, Nat.le_refl _, fun _ _ _ => rfl⟩, Nat.le_refl _⟩
  | cons k r =>
    obtain ⟨i0, hi, hz0, hz1, hz2⟩ := info_parts info_value
    obtain ⟨la, lc, rfl, hlc, hc⟩ := hp
    obtain ⟨b, o, rfl, hb, hcel⟩ := hc (by simp)
    obtain ⟨v', w', hr, h2, h3, h4, h5⟩ := run_append_own_at (P := Tryz.prog) X W.heap.size 23 23 26 i0 _ 6 104 Tryz.underlying23 hi hz0 hz1 hz2 rfl (by decide) (.slice none 0 0) 0 [] (World.ownsRow_nil _ _ _ _)
      ⟨b, o, none⟩ (k :: r).length lc ((k :: r).flatMap keyC) (flatMap_key_len _) (fun j u hu => by
        have hj : j < ((k :: r).flatMap keyC).length := (List.getElem?_eq_some_iff.1 hu).1
        rw [flatMap_key_len] at hj
        have hjj : j / 6 * 6 + j % 6 = j := by omega
        have := flatMap_key_get (k :: r) (j / 6) (j % 6) (by omega) (by omega)
        rw [hjj, hu] at this
        have hk := (List.getElem?_eq_some_iff.1 this.symm)
        have hcc := hcel (j / 6) (by omega) (j % 6) hk.1
        rw [hk.2] at hcc
        have e : (⟨b, o, none⟩ : Addr).add j = ⟨b, o + j / 6 * 6 + j % 6, none⟩ := by
          unfold Addr.add
          split
          · simp_all
          · simp; omega
        rw [e]
        exact hcc) (fun u hu => by
        obtain ⟨x, _, hx⟩ := List.mem_flatMap.1 hu
        exact keyC_one x u hx) (by simp only [List.length_cons] at hpl ⊢; unfold maxLen; omega) (by simp only [List.length_cons] at hpl ⊢; omega) hX
    refine ⟨v', w', hr, by simpa using h2, h3, h3.size⟩

theorem grow_none {w w' : World} (h : w.grownBy w' none) {q : Nat} (hq : q < w.heap.size) : w'.heap[q]? = w.heap[q]? := h.block q hq (by simp)

theorem below_fin {w W w5 : World} {p : List V} {k : V} {g2 c2 : Nat} {d0 d1 d2 d3 d4 d5 : Value} (hbW : Below w.heap.size w W) (hsW : W.heap.size = w.heap.size + 4) (hB5 : Below W.heap.size W w5)
    (o2 : w5.ownsRow W.heap.size 26 6 (.slice (some ⟨g2, 0, none⟩) (p.length + 1) c2) (p.length + 1) (p.flatMap keyC ++ keyC k)) :
    Below w.heap.size w (((((((w5.setCell ⟨w.heap.size + 1 + 1 + 1, 0, none⟩ (.slice (some ⟨g2, 0, none⟩) (p.length + 1) c2)).setCell ⟨w.heap.size + 1 + 1 + 1, 1, none⟩ d0).setCell ⟨w.heap.size + 1 + 1 + 1, 2, none⟩ d1).setCell ⟨w.heap.size + 1 + 1 + 1, 3, none⟩ d2).setCell ⟨w.heap.size + 1 + 1 + 1, 4, none⟩ d3).setCell ⟨w.heap.size + 1 + 1 + 1, 5, none⟩ d4).setCell ⟨w.heap.size + 1 + 1 + 1, 6, none⟩ d5) ∧
      PathS (((((((w5.setCell ⟨w.heap.size + 1 + 1 + 1, 0, none⟩ (.slice (some ⟨g2, 0, none⟩) (p.length + 1) c2)).setCell ⟨w.heap.size + 1 + 1 + 1, 1, none⟩ d0).setCell ⟨w.heap.size + 1 + 1 + 1, 2, none⟩ d1).setCell ⟨w.heap.size + 1 + 1 + 1, 3, none⟩ d2).setCell ⟨w.heap.size + 1 + 1 + 1, 4, none⟩ d3).setCell ⟨w.heap.size + 1 + 1 + 1, 5, none⟩ d4).setCell ⟨w.heap.size + 1 + 1 + 1, 6, none⟩ d5)
        (fun b => w.heap.size ≤ b ∧ b < (((((((w5.setCell ⟨w.heap.size + 1 + 1 + 1, 0, none⟩ (.slice (some ⟨g2, 0, none⟩) (p.length + 1) c2)).setCell ⟨w.heap.size + 1 + 1 + 1, 1, none⟩ d0).setCell ⟨w.heap.size + 1 + 1 + 1, 2, none⟩ d1).setCell ⟨w.heap.size + 1 + 1 + 1, 3, none⟩ d2).setCell ⟨w.heap.size + 1 + 1 + 1, 4, none⟩ d3).setCell ⟨w.heap.size + 1 + 1 + 1, 5, none⟩ d4).setCell ⟨w.heap.size + 1 + 1 + 1, 6, none⟩ d5).heap.size) (p ++ [k]) (.slice (some ⟨g2, 0, none⟩) (p.length + 1) c2) := by
  have hb5 : Below w.heap.size w w5 := hbW.trans (hB5.mono (by omega))
  refine ⟨((((((hb5.setCell (by simp; omega) _).setCell (by simp; omega) _).setCell (by simp; omega) _).setCell (by simp; omega) _).setCell (by simp; omega) _).setCell (by simp; omega) _).setCell (by simp; omega) _, ?_⟩
  have hr : RowK w5 W.heap.size (.slice (some ⟨g2, 0, none⟩) (p.length + 1) c2) (p ++ [k]) := RowK.push o2
  exact hr.path.turn fun q hq => ⟨set7_other _ _ _ _ _ _ _ _ _ _ (by omega), by rw [set7_size]; omega⟩

set_option maxHeartbeats 4000000 in
set_option maxRecDepth 100000 in
/-- spec.Spot.below. -/
theorem below_any (w : World) (p : List V) (pv : Value) (hp : PathS w (· < w.heap.size) p pv) (hp0 : p = [] → pv = .slice none 0 0) (hpl : p.length ≤ 1000) (kk kh : Int) (kt : ByteArray) (c0 c1 c2 c3 c4 c5 : Value) (dk dh : Int) (dt : ByteArray) (dla dka dva : Option Addr) (dnl dcl dnk dck dnv dcv : Nat) (k : V) (hk : keyC k = [.int .i64 kk, .int .i64 kh, .string kt, .slice none 0 0, .slice none 0 0, .slice none 0 0])
    (hpf : ∃ a n c, pv = .slice a n c) :
    Calls Tryz.prog 69 #[.agg #[pv, c0, c1, c2, c3, c4, c5], .agg #[.int .i64 kk, .int .i64 kh, .string kt, .slice none 0 0, .slice none 0 0, .slice none 0 0], .agg #[.int .i64 dk, .int .i64 dh, .string dt, .slice dla dnl dcl, .slice dka dnk dck, .slice dva dnv dcv]] w fun e w' => ∃ pv', e = .returned (.agg #[pv', .int .i64 dk, .int .i64 dh, .string dt, .slice dla dnl dcl, .slice dka dnk dck, .slice dva dnv dcv]) ∧ Below w.heap.size w w' ∧ PathS w' (fun b => w.heap.size ≤ b ∧ b < w'.heap.size) (p ++ [k]) pv' := by
  obtain ⟨pa, pn, pc, rfl⟩ := hpf
  go_enter Tryz.func69, Tryz.ntmps69
  go_wp2_with fail
  have hsW : ((((w.alloc (.cells #[.slice pa pn pc, c0, c1, c2, c3, c4, c5] 73)).alloc (.cells #[.int .i64 kk, .int .i64 kh, .string kt, .slice none 0 0, .slice none 0 0, .slice none 0 0] 26)).alloc (.cells #[.int .i64 dk, .int .i64 dh, .string dt, .slice dla dnl dcl, .slice dka dnk dck, .slice dva dnv dcv] 26)).alloc (.cells #[.slice none 0 0, .int .i64 0, .int .i64 0, .string ⟨#[]⟩, .slice none 0 0, .slice none 0 0, .slice none 0 0] 73)).heap.size = w.heap.size + 4 := by simp
  have hbW : Below w.heap.size w ((((w.alloc (.cells #[.slice pa pn pc, c0, c1, c2, c3, c4, c5] 73)).alloc (.cells #[.int .i64 kk, .int .i64 kh, .string kt, .slice none 0 0, .slice none 0 0, .slice none 0 0] 26)).alloc (.cells #[.int .i64 dk, .int .i64 dh, .string dt, .slice dla dnl dcl, .slice dka dnk dck, .slice dva dnv dcv] 26)).alloc (.cells #[.slice none 0 0, .int .i64 0, .int .i64 0, .string ⟨#[]⟩, .slice none 0 0, .slice none 0 0, .slice none 0 0] 73)) := keep_alloc (at_alloc3 w (.cells #[.slice pa pn pc, c0, c1, c2, c3, c4, c5] 73) (.cells #[.int .i64 kk, .int .i64 kh, .string kt, .slice none 0 0, .slice none 0 0, .slice none 0 0] 26) (.cells #[.int .i64 dk, .int .i64 dh, .string dt, .slice dla dnl dcl, .slice dka dnk dck, .slice dva dnv dcv] 26)).1 (by rw [(at_alloc3 w (.cells #[.slice pa pn pc, c0, c1, c2, c3, c4, c5] 73) (.cells #[.int .i64 kk, .int .i64 kh, .string kt, .slice none 0 0, .slice none 0 0, .slice none 0 0] 26) (.cells #[.int .i64 dk, .int .i64 dh, .string dt, .slice dla dnl dcl, .slice dka dnk dck, .slice dva dnv dcv] 26)).2.1]; omega) _
  have ha0 : ((((w.alloc (.cells #[.slice pa pn pc, c0, c1, c2, c3, c4, c5] 73)).alloc (.cells #[.int .i64 kk, .int .i64 kh, .string kt, .slice none 0 0, .slice none 0 0, .slice none 0 0] 26)).alloc (.cells #[.int .i64 dk, .int .i64 dh, .string dt, .slice dla dnl dcl, .slice dka dnk dck, .slice dva dnv dcv] 26)).alloc (.cells #[.slice none 0 0, .int .i64 0, .int .i64 0, .string ⟨#[]⟩, .slice none 0 0, .slice none 0 0, .slice none 0 0] 73)).heap[w.heap.size]? = some (.cells #[.slice pa pn pc, c0, c1, c2, c3, c4, c5] 73) := (heap_alloc_old _ _ (by simp; omega)).trans (at_alloc30 w (.cells #[.slice pa pn pc, c0, c1, c2, c3, c4, c5] 73) (.cells #[.int .i64 kk, .int .i64 kh, .string kt, .slice none 0 0, .slice none 0 0, .slice none 0 0] 26) (.cells #[.int .i64 dk, .int .i64 dh, .string dt, .slice dla dnl dcl, .slice dka dnk dck, .slice dva dnv dcv] 26))
  have ha1 : ((((w.alloc (.cells #[.slice pa pn pc, c0, c1, c2, c3, c4, c5] 73)).alloc (.cells #[.int .i64 kk, .int .i64 kh, .string kt, .slice none 0 0, .slice none 0 0, .slice none 0 0] 26)).alloc (.cells #[.int .i64 dk, .int .i64 dh, .string dt, .slice dla dnl dcl, .slice dka dnk dck, .slice dva dnv dcv] 26)).alloc (.cells #[.slice none 0 0, .int .i64 0, .int .i64 0, .string ⟨#[]⟩, .slice none 0 0, .slice none 0 0, .slice none 0 0] 73)).heap[w.heap.size + 1]? = some (.cells #[.int .i64 kk, .int .i64 kh, .string kt, .slice none 0 0, .slice none 0 0, .slice none 0 0] 26) := (heap_alloc_old _ _ (by simp)).trans (at_alloc3 w (.cells #[.slice pa pn pc, c0, c1, c2, c3, c4, c5] 73) (.cells #[.int .i64 kk, .int .i64 kh, .string kt, .slice none 0 0, .slice none 0 0, .slice none 0 0] 26) (.cells #[.int .i64 dk, .int .i64 dh, .string dt, .slice dla dnl dcl, .slice dka dnk dck, .slice dva dnv dcv] 26)).2.2.1
  have ha2 : ((((w.alloc (.cells #[.slice pa pn pc, c0, c1, c2, c3, c4, c5] 73)).alloc (.cells #[.int .i64 kk, .int .i64 kh, .string kt, .slice none 0 0, .slice none 0 0, .slice none 0 0] 26)).alloc (.cells #[.int .i64 dk, .int .i64 dh, .string dt, .slice dla dnl dcl, .slice dka dnk dck, .slice dva dnv dcv] 26)).alloc (.cells #[.slice none 0 0, .int .i64 0, .int .i64 0, .string ⟨#[]⟩, .slice none 0 0, .slice none 0 0, .slice none 0 0] 73)).heap[w.heap.size + 1 + 1]? = some (.cells #[.int .i64 dk, .int .i64 dh, .string dt, .slice dla dnl dcl, .slice dka dnk dck, .slice dva dnv dcv] 26) := (heap_alloc_old _ _ (by simp)).trans (at_alloc3 w (.cells #[.slice pa pn pc, c0, c1, c2, c3, c4, c5] 73) (.cells #[.int .i64 kk, .int .i64 kh, .string kt, .slice none 0 0, .slice none 0 0, .slice none 0 0] 26) (.cells #[.int .i64 dk, .int .i64 dh, .string dt, .slice dla dnl dcl, .slice dka dnk dck, .slice dva dnv dcv] 26)).2.2.2
  have ha3 : ((((w.alloc (.cells #[.slice pa pn pc, c0, c1, c2, c3, c4, c5] 73)).alloc (.cells #[.int .i64 kk, .int .i64 kh, .string kt, .slice none 0 0, .slice none 0 0, .slice none 0 0] 26)).alloc (.cells #[.int .i64 dk, .int .i64 dh, .string dt, .slice dla dnl dcl, .slice dka dnk dck, .slice dva dnv dcv] 26)).alloc (.cells #[.slice none 0 0, .int .i64 0, .int .i64 0, .string ⟨#[]⟩, .slice none 0 0, .slice none 0 0, .slice none 0 0] 73)).heap[w.heap.size + 1 + 1 + 1]? = some (.cells #[.slice none 0 0, .int .i64 0, .int .i64 0, .string ⟨#[]⟩, .slice none 0 0, .slice none 0 0, .slice none 0 0] 73) := by
    have := at_alloc (((w.alloc (.cells #[.slice pa pn pc, c0, c1, c2, c3, c4, c5] 73)).alloc (.cells #[.int .i64 kk, .int .i64 kh, .string kt, .slice none 0 0, .slice none 0 0, .slice none 0 0] 26)).alloc (.cells #[.int .i64 dk, .int .i64 dh, .string dt, .slice dla dnl dcl, .slice dka dnk dck, .slice dva dnv dcv] 26)) (.cells #[.slice none 0 0, .int .i64 0, .int .i64 0, .string ⟨#[]⟩, .slice none 0 0, .slice none 0 0, .slice none 0 0] 73)
    rw [(at_alloc3 w (.cells #[.slice pa pn pc, c0, c1, c2, c3, c4, c5] 73) (.cells #[.int .i64 kk, .int .i64 kh, .string kt, .slice none 0 0, .slice none 0 0, .slice none 0 0] 26) (.cells #[.int .i64 dk, .int .i64 dh, .string dt, .slice dla dnl dcl, .slice dka dnk dck, .slice dva dnv dcv] 26)).2.1] at this
    exact this
  generalize (((w.alloc _).alloc _).alloc _).alloc _ = W at *
  have hpW : ∀ X, (∀ q, q < W.heap.size → X.heap[q]? = W.heap[q]?) → PathS X (· < W.heap.size) p (.slice pa pn pc) := fun X hX => hp.turn fun q hq => ⟨(hX q (by omega)).trans (hbW.block q hq), by show q < W.heap.size; have : q < w.heap.size := hq; omega⟩
  have Hp := Lib.hid hpW
  have Ha0 := Lib.hid fun (_ : True) => ha0
  have Ha1 := Lib.hid fun (_ : True) => ha1
  have Ha2 := Lib.hid fun (_ : True) => ha2
  have Ha3 := Lib.hid fun (_ : True) => ha3
  have HbW := Lib.hid hbW
  clear hp hpW ha0 ha1 ha2 ha3 hbW
  refine wp_region_any (by kernel_rfl) (wpAny_of_G (S := fun j w' => if j = 9 then True else ∀ q, q < W.heap.size → w'.heap[q]? = W.heap[q]?) _ _ _ _ ?_)
  have hok : ∀ j, (fun j => j != 9) j = true → ∀ w' : World, (if j = 9 then True else ∀ q, q < W.heap.size → w'.heap[q]? = W.heap[q]?) → ∀ q, q < W.heap.size → w'.heap[q]? = W.heap[q]? := fun j hj w' hS => by
    rw [if_neg (by simpa using hj)] at hS
    exact hS
  have hTS : ∀ w' : World, (∀ q, q < W.heap.size → w'.heap[q]? = W.heap[q]?) → ∀ q, q < W.heap.size → w'.heap[q]? = W.heap[q]? := fun w' h => h
  refine wpAnyG_take (i := 0) (v := .slice none 0 0) (T := fun w' => ∀ q, q < W.heap.size → w'.heap[q]? = W.heap[q]?) (fun j => j != 9) rfl (by kernel_rfl) (by kernel_rfl) (by kernel_rfl) (fun _ _ _ h => h) hok hTS rfl ?_ (fun q hq => rfl) ?_
  · intro w' hw'
    go_simp
  simp only [Act.put]
  try simp only [List.setIfInBounds_toArray]
  refine wpAnyG_take (i := 1) (v := .pointer (some ⟨w.heap.size, 0, none⟩)) (T := fun w' => ∀ q, q < W.heap.size → w'.heap[q]? = W.heap[q]?) (fun j => j != 9) rfl (by kernel_rfl) (by kernel_rfl) (by kernel_rfl) (fun _ _ _ h => h) hok hTS rfl ?_ (fun q hq => rfl) ?_
  · intro w' hw'
    go_simp
  simp only [Act.put]
  try simp only [List.setIfInBounds_toArray, set_cs]
  refine wpAnyG_take (i := 2) (v := .slice pa pn pc) (T := fun w' => ∀ q, q < W.heap.size → w'.heap[q]? = W.heap[q]?) (fun j => j != 9) rfl (by kernel_rfl) (by kernel_rfl) (by kernel_rfl) (fun _ _ _ h => h) hok hTS rfl ?_ (fun q hq => rfl) ?_
  · intro w' hw'
    obtain ⟨y0, y1, y2, y3, y4, y5, y6⟩ := of_block7 ((hw' w.heap.size (by omega)).trans (Ha0.out trivial))
    go_simp
  simp only [Act.put]
  try simp only [List.setIfInBounds_toArray, set_cs]
  refine wpAnyG_take (i := 4) (v := .agg #[.int .i64 kk, .int .i64 kh, .string kt, .slice none 0 0, .slice none 0 0, .slice none 0 0]) (T := fun w' => ∀ q, q < W.heap.size → w'.heap[q]? = W.heap[q]?) (fun j => j != 9) rfl (by kernel_rfl) (by kernel_rfl) (by kernel_rfl) (fun _ _ _ h => h) hok hTS rfl ?_ (fun q hq => rfl) ?_
  · intro w' hw'
    obtain ⟨y0, y1, y2, y3, y4, y5⟩ := of_block6 ((hw' (w.heap.size + 1) (by omega)).trans (Ha1.out trivial))
    go_simp
  simp only [Act.put]
  try simp only [List.setIfInBounds_toArray, set_cs]
  refine wpAnyG_take (i := 7) (v := .agg #[.int .i64 dk, .int .i64 dh, .string dt, .slice dla dnl dcl, .slice dka dnk dck, .slice dva dnv dcv]) (T := fun w' => ∀ q, q < W.heap.size → w'.heap[q]? = W.heap[q]?) (fun j => j != 9) rfl (by kernel_rfl) (by kernel_rfl) (by kernel_rfl) (fun _ _ _ h => h) hok hTS rfl ?_ (fun q hq => rfl) ?_
  · intro w' hw'
    obtain ⟨y0, y1, y2, y3, y4, y5⟩ := of_block6 ((hw' (w.heap.size + 1 + 1) (by omega)).trans (Ha2.out trivial))
    go_simp
  simp only [Act.put]
  try simp only [List.setIfInBounds_toArray, set_cs]
  generalize hX0 : ({ W with drawn := W.drawn + 1 } : World) = X0
  have hX : ∀ q, q < W.heap.size → X0.heap[q]? = W.heap[q]? := by subst hX0; exact fun q hq => rfl
  have hXs : X0.heap.size = W.heap.size := by subst hX0; rfl
  have hXb : Below W.heap.size W X0 := by subst hX0; exact ⟨rfl, rfl, rfl, Nat.le_refl _, fun q hq => rfl⟩
  clear hX0
  refine wpAnyG_all (rs := [3, 5]) (by kernel_rfl) (by simp) ?_
  intro i hi
  simp only [List.mem_cons, List.not_mem_nil, or_false] at hi
  rcases hi with rfl | rfl
  · obtain ⟨v1, w1, e1, o1, ga, h1s⟩ := app_path (W := W) (Hp.out X0 hX) hp0 hpl (by omega)
    have hs1 : ∀ q, q < W.heap.size → w1.heap[q]? = W.heap[q]? := fun q hq => (grow_none ga (by omega)).trans (hX q hq)
    refine wpOp_value (v := v1) (w' := w1) rfl rfl (exec_append (s := .tmp 8) (x := .tmp 10) (t := 23) (v := .slice none 0 0) (y := .slice pa pn pc) rfl (by simp [Act.eval]) (by simp [Act.eval]) e1) ⟨hs1, ?_⟩
    clear e1
    simp only [Act.put]
    try simp only [List.setIfInBounds_toArray, set_cs]
    refine wpAnyG_all (rs := [5]) (by kernel_rfl) (by simp) ?_
    intro i hi
    simp only [List.mem_cons, List.not_mem_nil, or_false] at hi
    subst hi
    have hs2 : ∀ q, q < W.heap.size → (w1.alloc (.cells #[.int .i64 kk, .int .i64 kh, .string kt, .slice none 0 0, .slice none 0 0, .slice none 0 0] 26)).heap[q]? = W.heap[q]? := fun q hq => (heap_alloc_old w1 _ (by omega)).trans (hs1 q hq)
    refine wpOp_value (v := .slice (some ⟨w1.heap.size, 0, none⟩) 1 1) (w' := w1.alloc (.cells #[.int .i64 kk, .int .i64 kh, .string kt, .slice none 0 0, .slice none 0 0, .slice none 0 0] 26)) rfl rfl (by go_simp) ⟨hs2, ?_⟩
    simp only [Act.put]
    try simp only [List.setIfInBounds_toArray, set_cs]
    refine wpAnyG_all (rs := [6]) (by kernel_rfl) (by simp) ?_
    intro i hi
    simp only [List.mem_cons, List.not_mem_nil, or_false] at hi
    subst hi
    obtain ⟨g2, c2, w5, e2, o2, gb, at2⟩ := app_vals (X := w1.alloc (.cells #[.int .i64 kk, .int .i64 kh, .string kt, .slice none 0 0, .slice none 0 0, .slice none 0 0] 26)) (cs := [.int .i64 kk, .int .i64 kh, .string kt, .slice none 0 0, .slice none 0 0, .slice none 0 0]) o1 (World.grownBy_alloc w1 _ none) (row := none) (fun k e => by cases e) (g := w1.heap.size) (at_alloc _ _) rfl (by rw [← hk]; exact keyC_one k) (by omega) (by omega)
    have hs5 : ∀ q, q < W.heap.size → w5.heap[q]? = W.heap[q]? := fun q hq => (gb.block q (by simp; omega) (fun e => by have := World.ownsRow.lt o1 q e.symm; omega)).trans (hs2 q hq)
    have hsz5 : W.heap.size ≤ w5.heap.size := by have := gb.size; simp at this; omega
    have hB5 : Below W.heap.size W w5 := (keep_alloc (hXb.grown ga (by omega) (fun q hq => by cases hq)) (by omega) _).grown gb (by simp; omega) (fun q hq => (World.ownsRow.lt o1 q hq).1)
    refine wpOp_value (v := .slice (some ⟨g2, 0, none⟩) (p.length + 1) c2) (w' := w5) rfl rfl (exec_append (s := .tmp 11) (x := .tmp 13) (t := 23) (v := v1) (y := .slice (some ⟨w1.heap.size, 0, none⟩) 1 1) rfl (by simp [Act.eval]) (by simp [Act.eval]) e2) ⟨hs5, ?_⟩
    simp only [Act.put]
    try simp only [List.setIfInBounds_toArray, set_cs]
    refine wpAnyG_all (rs := [8]) (by kernel_rfl) (by simp) ?_
    intro i hi
    simp only [List.mem_cons, List.not_mem_nil, or_false] at hi
    subst hi
    refine wpOp_value (v := .agg #[.slice (some ⟨g2, 0, none⟩) (p.length + 1) c2, .int .i64 dk, .int .i64 dh, .string dt, .slice dla dnl dcl, .slice dka dnk dck, .slice dva dnv dcv]) (w' := w5) rfl rfl (by go_simp) ⟨hs5, ?_⟩
    simp only [Act.put]
    try simp only [List.setIfInBounds_toArray, set_cs]
    refine wpAnyG_all (rs := [9]) (by kernel_rfl) (by simp) ?_
    intro i hi
    simp only [List.mem_cons, List.not_mem_nil, or_false] at hi
    subst hi
    obtain ⟨q0, q1, q2, q3, q4, q5, q6⟩ := of_block7 ((hs5 (w.heap.size + 1 + 1 + 1) (by omega)).trans (Ha3.out trivial))
    obtain ⟨r0, r1, r2, r3, r4, r5, r6⟩ := free_block7 ((hs5 (w.heap.size + 1 + 1 + 1) (by omega)).trans (Ha3.out trivial))
    have Hset := Lib.hid fun (_ : True) => set_row7 ((hs5 (w.heap.size + 1 + 1 + 1) (by omega)).trans (Ha3.out trivial)) (.slice (some ⟨g2, 0, none⟩) (p.length + 1) c2) (.int .i64 dk) (.int .i64 dh) (.string dt) (.slice dla dnl dcl) (.slice dka dnk dck) (.slice dva dnv dcv)
    have Hfin := Lib.hid (below_fin (d0 := .int .i64 dk) (d1 := .int .i64 dh) (d2 := .string dt) (d3 := .slice dla dnl dcl) (d4 := .slice dka dnk dck) (d5 := .slice dva dnv dcv) HbW.out hsW hB5 (by rw [← hk] at o2; exact o2))
    clear o2 o1 e2 gb at2 hs5 hB5
    refine wpOp_skip (w' := ((((((w5.setCell ⟨w.heap.size + 1 + 1 + 1, 0, none⟩ (.slice (some ⟨g2, 0, none⟩) (p.length + 1) c2)).setCell ⟨w.heap.size + 1 + 1 + 1, 1, none⟩ (.int .i64 dk)).setCell ⟨w.heap.size + 1 + 1 + 1, 2, none⟩ (.int .i64 dh)).setCell ⟨w.heap.size + 1 + 1 + 1, 3, none⟩ (.string dt)).setCell ⟨w.heap.size + 1 + 1 + 1, 4, none⟩ (.slice dla dnl dcl)).setCell ⟨w.heap.size + 1 + 1 + 1, 5, none⟩ (.slice dka dnk dck)).setCell ⟨w.heap.size + 1 + 1 + 1, 6, none⟩ (.slice dva dnv dcv)) rfl rfl (by go_simp) ⟨trivial, ?_⟩
    refine wpAnyG_done (by kernel_rfl) ?_
    simp only [Act.put]
    try simp only [List.setIfInBounds_toArray, set_cs]
    go_wp2_with fail
    refine bodyPost_ret (results_cell_row (p := 6) (ty := 73) rfl _ _ (w.heap.size + 1 + 1 + 1) 73 _ (0, 0) _ rfl (Hset.out trivial) Tryz.underlying73 rfl (by kernel_rfl)) rfl ⟨_, rfl, Hfin.out⟩
  · have hs1 : ∀ q, q < W.heap.size → (X0.alloc (.cells #[.int .i64 kk, .int .i64 kh, .string kt, .slice none 0 0, .slice none 0 0, .slice none 0 0] 26)).heap[q]? = W.heap[q]? := fun q hq => (heap_alloc_old X0 _ (by omega)).trans (hX q hq)
    have hz1 := at_alloc X0 (.cells #[.int .i64 kk, .int .i64 kh, .string kt, .slice none 0 0, .slice none 0 0, .slice none 0 0] 26)
    have hzs := size_alloc1 X0 (.cells #[.int .i64 kk, .int .i64 kh, .string kt, .slice none 0 0, .slice none 0 0, .slice none 0 0] 26)
    refine wpOp_value (v := .slice (some ⟨X0.heap.size, 0, none⟩) 1 1) (w' := X0.alloc (.cells #[.int .i64 kk, .int .i64 kh, .string kt, .slice none 0 0, .slice none 0 0, .slice none 0 0] 26)) rfl rfl (by go_simp) ⟨hs1, ?_⟩
    have hXb1 := keep_alloc hXb (by omega) (.cells #[.int .i64 kk, .int .i64 kh, .string kt, .slice none 0 0, .slice none 0 0, .slice none 0 0] 26)
    generalize X0.alloc _ = X1 at *
    simp only [Act.put]
    try simp only [List.setIfInBounds_toArray, set_cs]
    refine wpAnyG_all (rs := [3]) (by kernel_rfl) (by simp) ?_
    intro i hi
    simp only [List.mem_cons, List.not_mem_nil, or_false] at hi
    subst hi
    obtain ⟨v1, w1, e1, o1, ga, h1s⟩ := app_path (W := W) (Hp.out X1 hs1) hp0 hpl (by omega)
    have hs2 : ∀ q, q < W.heap.size → w1.heap[q]? = W.heap[q]? := fun q hq => (grow_none ga (by omega)).trans (hs1 q hq)
    have hz2 := (grow_none ga (q := X0.heap.size) (by omega)).trans hz1
    refine wpOp_value (v := v1) (w' := w1) rfl rfl (exec_append (s := .tmp 8) (x := .tmp 10) (t := 23) (v := .slice none 0 0) (y := .slice pa pn pc) rfl (by simp [Act.eval]) (by simp [Act.eval]) e1) ⟨hs2, ?_⟩
    clear e1
    simp only [Act.put]
    try simp only [List.setIfInBounds_toArray, set_cs]
    refine wpAnyG_all (rs := [6]) (by kernel_rfl) (by simp) ?_
    intro i hi
    simp only [List.mem_cons, List.not_mem_nil, or_false] at hi
    subst hi
    obtain ⟨g2, c2, w5, e2, o2, gb, at2⟩ := app_vals (X := w1) (cs := [.int .i64 kk, .int .i64 kh, .string kt, .slice none 0 0, .slice none 0 0, .slice none 0 0]) o1 (World.grownBy.refl w1 none) (row := none) (fun k e => by cases e) (g := X0.heap.size) hz2 rfl (by rw [← hk]; exact keyC_one k) (by omega) (by omega)
    have hs5 : ∀ q, q < W.heap.size → w5.heap[q]? = W.heap[q]? := fun q hq => (gb.block q (by omega) (fun e => by have := World.ownsRow.lt o1 q e.symm; omega)).trans (hs2 q hq)
    have hsz5 : W.heap.size ≤ w5.heap.size := by have := gb.size; omega
    have hB5 : Below W.heap.size W w5 := (hXb1.grown ga (by omega) (fun q hq => by cases hq)).grown gb (by omega) (fun q hq => (World.ownsRow.lt o1 q hq).1)
    refine wpOp_value (v := .slice (some ⟨g2, 0, none⟩) (p.length + 1) c2) (w' := w5) rfl rfl (exec_append (s := .tmp 11) (x := .tmp 13) (t := 23) (v := v1) (y := .slice (some ⟨X0.heap.size, 0, none⟩) 1 1) rfl (by simp [Act.eval]) (by simp [Act.eval]) e2) ⟨hs5, ?_⟩
    simp only [Act.put]
    try simp only [List.setIfInBounds_toArray, set_cs]
    refine wpAnyG_all (rs := [8]) (by kernel_rfl) (by simp) ?_
    intro i hi
    simp only [List.mem_cons, List.not_mem_nil, or_false] at hi
    subst hi
    refine wpOp_value (v := .agg #[.slice (some ⟨g2, 0, none⟩) (p.length + 1) c2, .int .i64 dk, .int .i64 dh, .string dt, .slice dla dnl dcl, .slice dka dnk dck, .slice dva dnv dcv]) (w' := w5) rfl rfl (by go_simp) ⟨hs5, ?_⟩
    simp only [Act.put]
    try simp only [List.setIfInBounds_toArray, set_cs]
    refine wpAnyG_all (rs := [9]) (by kernel_rfl) (by simp) ?_
    intro i hi
    simp only [List.mem_cons, List.not_mem_nil, or_false] at hi
    subst hi
    obtain ⟨q0, q1, q2, q3, q4, q5, q6⟩ := of_block7 ((hs5 (w.heap.size + 1 + 1 + 1) (by omega)).trans (Ha3.out trivial))
    obtain ⟨r0, r1, r2, r3, r4, r5, r6⟩ := free_block7 ((hs5 (w.heap.size + 1 + 1 + 1) (by omega)).trans (Ha3.out trivial))
    have Hset := Lib.hid fun (_ : True) => set_row7 ((hs5 (w.heap.size + 1 + 1 + 1) (by omega)).trans (Ha3.out trivial)) (.slice (some ⟨g2, 0, none⟩) (p.length + 1) c2) (.int .i64 dk) (.int .i64 dh) (.string dt) (.slice dla dnl dcl) (.slice dka dnk dck) (.slice dva dnv dcv)
    have Hfin := Lib.hid (below_fin (d0 := .int .i64 dk) (d1 := .int .i64 dh) (d2 := .string dt) (d3 := .slice dla dnl dcl) (d4 := .slice dka dnk dck) (d5 := .slice dva dnv dcv) HbW.out hsW hB5 (by rw [← hk] at o2; exact o2))
    clear o2 o1 e2 gb at2 hs5 hB5
    refine wpOp_skip (w' := ((((((w5.setCell ⟨w.heap.size + 1 + 1 + 1, 0, none⟩ (.slice (some ⟨g2, 0, none⟩) (p.length + 1) c2)).setCell ⟨w.heap.size + 1 + 1 + 1, 1, none⟩ (.int .i64 dk)).setCell ⟨w.heap.size + 1 + 1 + 1, 2, none⟩ (.int .i64 dh)).setCell ⟨w.heap.size + 1 + 1 + 1, 3, none⟩ (.string dt)).setCell ⟨w.heap.size + 1 + 1 + 1, 4, none⟩ (.slice dla dnl dcl)).setCell ⟨w.heap.size + 1 + 1 + 1, 5, none⟩ (.slice dka dnk dck)).setCell ⟨w.heap.size + 1 + 1 + 1, 6, none⟩ (.slice dva dnv dcv)) rfl rfl (by go_simp) ⟨trivial, ?_⟩
    refine wpAnyG_done (by kernel_rfl) ?_
    simp only [Act.put]
    try simp only [List.setIfInBounds_toArray, set_cs]
    go_wp2_with fail
    refine bodyPost_ret (results_cell_row (p := 6) (ty := 73) rfl _ _ (w.heap.size + 1 + 1 + 1) 73 _ (0, 0) _ rfl (Hset.out trivial) Tryz.underlying73 rfl (by kernel_rfl)) rfl ⟨_, rfl, Hfin.out⟩

end Go.Proofs.YtpoibibbkjogpaaGreatDoor

namespace Go.Proofs.YtpoibibbkjogpaaGreatDoor
open Go

theorem wpOp_call {P : Program} {ops : Array Oper} {Q : Exit → Act → World → Prop} {i : Nat} {o : Oper} {w : World} {a : Act} {K : Act → World → Prop} {f : FuncId} {args : Array Value} {R : Ending → World → Prop} (hi : ops[i]? = some o) (hg : o.guard = none) (hrun : (execOp a.eval o).run P w = .ok (.enter f args) w)
    (hC : Calls P f args w R) (hR : ∀ e w', R e w' → ∃ v, e = .returned v ∧ K (a.put o.dst v) w') : wpOp P ops Q i K a w := by
  have hw : Region.wanted o (yielded ops a.tmps) = true := by simp [Region.wanted, hg]
  unfold wpOp
  simp only [hi, hw, if_true]
  refine .inl ?_
  unfold Oper.wp
  rw [hrun, Oper.upon_enter]
  refine hC.mono fun e w' h => ?_
  obtain ⟨v, rfl, hk⟩ := hR e w' h
  exact hk

end Go.Proofs.YtpoibibbkjogpaaGreatDoor

namespace Go.Proofs.YtpoibibbkjogpaaGreatDoor
open Go Go.RowKit Go.Maps Go.Deep

/-- A place: its path lies in S, what stands there in w0 below B. -/
def SpotS (w w0 : World) (B : Nat) (S : Nat → Prop) (q : List V × V) (cs : List Value) : Prop :=
  ∃ pv cy, cs = pv :: cy ∧ PathS w S q.1 pv ∧ (q.1 = [] → pv = .slice none 0 0) ∧ RepV w0 B q.2 cy
theorem SpotS.turn {w w' w0 : World} {B : Nat} {S S' : Nat → Prop} {q : List V × V} {cs : List Value} (h : SpotS w w0 B S q cs) (hS : ∀ k, S k → w'.heap[k]? = w.heap[k]? ∧ S' k) : SpotS w' w0 B S' q cs := by
  obtain ⟨pv, cy, e, hp, h0, hr⟩ := h
  exact ⟨pv, cy, e, hp.turn hS, h0, hr⟩
theorem SpotS.seven {w w0 : World} {B : Nat} {S : Nat → Prop} {q : List V × V} {cs : List Value} (h : SpotS w w0 B S q cs) : cs.length = 7 := by
  obtain ⟨pv, cy, rfl, _, _, hr⟩ := h
  have := hr.toS.six
  simp [this]
theorem SpotS.one {w w0 : World} {B : Nat} {S : Nat → Prop} {q : List V × V} {cs : List Value} (h : SpotS w w0 B S q cs) : ∀ u ∈ cs, u.oneCell' = true := by
  obtain ⟨pv, cy, rfl, ⟨la, lc, rfl, _⟩, _, hr⟩ := h
  intro u hu
  rcases List.mem_cons.1 hu with rfl | hu
  · rfl
  · exact hr.toS.one u hu
theorem SpotS.shape {w w0 : World} {B : Nat} {S : Nat → Prop} {q : List V × V} {cs : List Value} (h : SpotS w w0 B S q cs) : ∃ (pa : Option Addr) (pn pc : Nat) (k h : Int) (t : ByteArray) (la ka va : Option Addr) (nl cl nk ck nv cv : Nat),
    cs = [.slice pa pn pc, .int .i64 k, .int .i64 h, .string t, .slice la nl cl, .slice ka nk ck, .slice va nv cv] := by
  obtain ⟨pv, cy, rfl, ⟨la, lc, rfl, _⟩, _, hr⟩ := h
  obtain ⟨k, h, t, la, ka, va, nl, cl, nk, ck, nv, cv, rfl⟩ := hr.shape
  exact ⟨_, _, _, _, _, _, _, _, _, _, _, _, _, _, _, rfl⟩

theorem flatS_len {s : Nat} {C : Nat → List Value} : ∀ {n : Nat}, (∀ i, i < n → (C i).length = s) → (flat C n).length = n * s
  | 0, _ => by simp [flat]
  | n + 1, h => by
    simp only [flat, List.length_append]
    rw [flatS_len (fun i hi => h i (by omega)), h n (by omega), Nat.succ_mul]
theorem flatS_get {s : Nat} {C : Nat → List Value} : ∀ {n : Nat}, (∀ i, i < n → (C i).length = s) → ∀ i j, i < n → j < s → (flat C n)[i * s + j]? = (C i)[j]?
  | 0, _, _, _, hi, _ => by omega
  | n + 1, h, i, j, hi, hj => by
    have hlen := flatS_len (C := C) (n := n) (fun i hi => h i (by omega))
    simp only [flat]
    by_cases e : i < n
    · have : i * s + j < n * s := by
        have : (i + 1) * s ≤ n * s := Nat.mul_le_mul_right _ (by omega)
        rw [Nat.succ_mul] at this
        omega
      rw [List.getElem?_append_left (by omega)]
      exact flatS_get (fun i hi => h i (by omega)) i j e hj
    · obtain rfl : i = n := by omega
      rw [List.getElem?_append_right (by omega), hlen]
      congr 1
      omega

/-- A row of places of the call's own. -/
def RowSp (w w0 : World) (B base : Nat) (R : Nat → Prop) (v : Value) (l : List (List V × V)) : Prop :=
  ∃ C : Nat → List Value, w.ownsRow base 73 7 v l.length (flat C l.length) ∧ ∀ i (hi : i < l.length), SpotS w w0 B (fun k => R k ∧ k < w.heap.size ∧ v.ownBlock ≠ some k) l[i] (C i)

theorem RowSp.nil (w w0 : World) (B base : Nat) (R : Nat → Prop) : RowSp w w0 B base R (.slice none 0 0) [] := ⟨fun _ => [], World.ownsRow_nil _ _ _ _, fun i hi => by simp at hi⟩
theorem RowSp.below {w w' w0 : World} {B base : Nat} {R : Nat → Prop} {v : Value} {l : List (List V × V)} (h : RowSp w w0 B base R v l) (hb : Below w.heap.size w w') : RowSp w' w0 B base R v l := by
  obtain ⟨C, hown, hr⟩ := h
  exact ⟨C, kept_row0 hown (below_grown2 hb none), fun i hi => (hr i hi).turn fun k hk => ⟨hb.block k hk.2.1, hk.1, by have := hb.size; have := hk.2.1; omega, hk.2.2⟩⟩

/-- Places, read: the row's own cells, and what the paths lie in, below N. -/
def SpotsAt (w w0 : World) (B N : Nat) (R : Nat → Prop) (v : Value) (l : List (List V × V)) : Prop :=
  ∃ (la : Option Addr) (lc : Nat) (C : Nat → List Value), v = .slice la l.length lc ∧ l.length ≤ lc ∧ (0 < l.length → ∃ b, la = some ⟨b, 0, none⟩ ∧ (R b ∧ b < N) ∧ ∀ i, i < l.length → CellsAt w b (i * 7) (C i)) ∧ ∀ i (hi : i < l.length), SpotS w w0 B (fun k => R k ∧ k < N) l[i] (C i)
theorem RowSp.at {w w0 : World} {B base : Nat} {R : Nat → Prop} {v : Value} {l : List (List V × V)} (h : RowSp w w0 B base R v l) (hR : ∀ k, base ≤ k → R k) : SpotsAt w w0 B w.heap.size R v l := by
  obtain ⟨C, hown, hr⟩ := h
  have h7 : ∀ i, i < l.length → (C i).length = 7 := fun i hi => (hr i hi).seven
  have hr' : ∀ i (hi : i < l.length), SpotS w w0 B (fun k => R k ∧ k < w.heap.size) l[i] (C i) := fun i hi => (hr i hi).turn fun k hk => ⟨rfl, hk.1, hk.2.1⟩
  rcases hown.2 with ⟨e, h0⟩ | ⟨g, cap, cur, e, hb, hg, hnc, _⟩
  · exact ⟨none, 0, C, by rw [e, h0], by omega, fun h => by omega, hr'⟩
  · refine ⟨some ⟨g, 0, none⟩, cap, C, e, hnc, fun _ => ⟨g, rfl, ⟨hR g hb, (Array.getElem?_eq_some_iff.1 hg).1⟩, fun i hi j hj => ?_⟩, hr'⟩
    have hj7 : j < 7 := by have := h7 i hi; omega
    have hc := hown.cells (g := g) (by rw [e]; rfl) (i * 7 + j) (C i)[j] (by rw [flatS_get h7 i j hi hj7, List.getElem?_eq_getElem hj])
    rw [addr_add] at hc
    exact hc
theorem SpotsAt.below {w w' w0 : World} {B N : Nat} {R : Nat → Prop} {v : Value} {l : List (List V × V)} (h : SpotsAt w w0 B N R v l) (hb : Below N w w') {N' : Nat} (hN : N ≤ N') : SpotsAt w' w0 B N' R v l := by
  obtain ⟨la, lc, C, e, hlc, hc, hr⟩ := h
  refine ⟨la, lc, C, e, hlc, fun h0 => ?_, fun i hi => (hr i hi).turn fun k hk => ⟨hb.block k hk.2, hk.1, by have : k < N := hk.2; omega⟩⟩
  obtain ⟨b, e, hbN, hcel⟩ := hc h0
  exact ⟨b, e, ⟨hbN.1, by have := hbN.2; omega⟩, fun i hi => (hcel i hi).below hb hbN.2⟩

/-- More places, by append. -/
theorem RowSp.push {w w' w0 : World} {B base : Nat} {R : Nat → Prop} {v v' : Value} {l m : List (List V × V)} {C D : Nat → List Value}
    (hr : ∀ i (hi : i < l.length), SpotS w w0 B (fun k => R k ∧ k < w.heap.size ∧ v.ownBlock ≠ some k) l[i] (C i)) (hd : ∀ i (hi : i < m.length), SpotS w w0 B (fun k => R k ∧ k < w.heap.size ∧ v.ownBlock ≠ some k) m[i] (D i))
    (ho : w'.ownsRow base 73 7 v' (l.length + m.length) (flat C l.length ++ flat D m.length)) (hg : w.grownBy w' v.ownBlock) (hat : v'.ownBlock = v.ownBlock ∨ v'.ownBlock = some w.heap.size) : RowSp w' w0 B base R v' (l ++ m) := by
  have key : ∀ q cs, SpotS w w0 B (fun k => R k ∧ k < w.heap.size ∧ v.ownBlock ≠ some k) q cs → SpotS w' w0 B (fun k => R k ∧ k < w'.heap.size ∧ v'.ownBlock ≠ some k) q cs := fun q cs h => h.turn fun k hk => ⟨hg.block k hk.2.1 (fun e => hk.2.2 e.symm), hk.1, by have := hg.size; have := hk.2.1; omega, by
    rcases hat with e | e
    · rw [e]; exact hk.2.2
    · rw [e]; intro e'; cases e'; have := hk.2.1; omega⟩
  have hfl : ∀ n, flat (fun i => if i < l.length then C i else D (i - l.length)) (l.length + n) = flat C l.length ++ flat D n := by
    intro n
    induction n with
    | zero => rw [Nat.add_zero, flat_same (C' := C) (fun i hi => by rw [if_pos hi])]; simp [flat]
    | succ n ih =>
      show flat _ (l.length + n) ++ _ = _
      rw [ih]
      have e : (if l.length + n < l.length then C (l.length + n) else D (l.length + n - l.length)) = D n := by
        rw [if_neg (by omega), Nat.add_sub_cancel_left]
      show flat C l.length ++ flat D n ++ (if l.length + n < l.length then C (l.length + n) else D (l.length + n - l.length)) = _
      rw [e]
      simp only [flat, List.append_assoc]
  refine ⟨fun i => if i < l.length then C i else D (i - l.length), ?_, fun i hi => ?_⟩
  · rw [List.length_append, hfl]
    exact ho
  · rw [List.length_append] at hi
    by_cases e : i < l.length
    · simp only [e, if_true]
      rw [List.getElem_append_left e]
      exact key _ _ (hr i e)
    · simp only [e, if_false]
      rw [List.getElem_append_right (by omega)]
      exact key _ _ (hd (i - l.length) (by omega))

end Go.Proofs.YtpoibibbkjogpaaGreatDoor
