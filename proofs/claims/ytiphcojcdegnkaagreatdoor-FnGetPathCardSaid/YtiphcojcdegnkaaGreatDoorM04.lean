/- Contracts of spec.looker's methods and of spec.Fit. -/
import Derived.Test.YtiphcojcdegnkaaGreatDoorM03
namespace Go.Proofs.YtiphcojcdegnkaaGreatDoor
open Go Go.RowKit

/-- Block b holds the looker's three cells. -/
def LkAt (w : World) (b : Nat) (s : Lk) : Prop := w.heap[b]? = some (.cells #[.int .i64 s.parts, .int .i64 s.bytes, .bool s.bad] 58 (0, 0))

theorem LkAt.c0 {w : World} {b : Nat} {s : Lk} (h : LkAt w b s) : w.cell? ⟨b, 0, none⟩ = some (.int .i64 s.parts) := by unfold LkAt at h; simp [World.cell?, h]
theorem LkAt.c1 {w : World} {b : Nat} {s : Lk} (h : LkAt w b s) : w.cell? ⟨b, 1, none⟩ = some (.int .i64 s.bytes) := by unfold LkAt at h; simp [World.cell?, h]
theorem LkAt.c2 {w : World} {b : Nat} {s : Lk} (h : LkAt w b s) : w.cell? ⟨b, 2, none⟩ = some (.bool s.bad) := by unfold LkAt at h; simp [World.cell?, h]
theorem LkAt.fr {w : World} {b : Nat} {s : Lk} (h : LkAt w b s) (i : Nat) : w.frozen? ⟨b, i, none⟩ = false := by unfold LkAt at h; simp [World.frozen?, h]
theorem LkAt.lt {w : World} {b : Nat} {s : Lk} (h : LkAt w b s) : b < w.heap.size := (Array.getElem?_eq_some_iff.1 h).1
theorem blk_set {w : World} {b t : Nat} {cs : Array Value} (h : w.heap[b]? = some (.cells cs t (0, 0))) (i : Nat) (u : Value) : (w.setCell ⟨b, i, none⟩ u).heap[b]? = some (.cells (cs.setIfInBounds i u) t (0, 0)) := by
  simp only [World.setCell, Array.getElem?_modify]
  rw [if_pos trivial, h]
  rfl
theorem LkAt.s0 {w : World} {b : Nat} {s : Lk} (h : LkAt w b s) (n : Int) : LkAt (w.setCell ⟨b, 0, none⟩ (.int .i64 n)) b ⟨n, s.bytes, s.bad⟩ := blk_set h 0 _
theorem LkAt.s1 {w : World} {b : Nat} {s : Lk} (h : LkAt w b s) (n : Int) : LkAt (w.setCell ⟨b, 1, none⟩ (.int .i64 n)) b ⟨s.parts, n, s.bad⟩ := blk_set h 1 _
theorem LkAt.s2 {w : World} {b : Nat} {s : Lk} (h : LkAt w b s) (x : Bool) : LkAt (w.setCell ⟨b, 2, none⟩ (.bool x)) b ⟨s.parts, s.bytes, x⟩ := blk_set h 2 _
theorem LkAt.grown {w w' : World} {b : Nat} {s : Lk} {row : Option Nat} (h : LkAt w b s) (hg : w.grownBy w' row) (hne : some b ≠ row) : LkAt w' b s := (hg.block b h.lt hne).trans h
theorem LkAt.below {w w' : World} {B b : Nat} {s : Lk} (h : LkAt w b s) (hb : Below B w w') (hlt : b < B) : LkAt w' b s := (hb.block b hlt).trans h
theorem grown_setCell (w : World) (b i : Nat) (v : Value) : w.grownBy (w.setCell ⟨b, i, none⟩ v) (some b) :=
  ⟨rfl, rfl, rfl, by simp [World.setCell], fun k _ hk => Below.heap_setCell _ _ _ _ (fun e => hk (by rw [e]))⟩
theorem grown_below {w w' : World} {b B : Nat} (h : w.grownBy w' (some b)) (hB : B ≤ b) (hs : B ≤ w.heap.size) : Below B w w' :=
  ⟨h.os, h.tape, h.output, h.size, fun k hk => h.block k (by omega) (by simp; omega)⟩
theorem below_grown {w w' : World} (h : Below w.heap.size w w') (row : Option Nat) : w.grownBy w' row := ⟨h.os, h.tape, h.output, h.size, fun k hk _ => h.block k hk⟩

theorem Lk.want_eq (s : Lk) (ok : Bool) : s.want ok = ⟨s.parts, s.bytes, s.bad || !ok⟩ := rfl

set_option maxRecDepth 100000 in
theorem want_any (w : World) (b : Nat) (s : Lk) (ok : Bool) (h : LkAt w b s) : Calls Tryz.prog 35 #[.pointer (some ⟨b, 0, none⟩), .bool ok] w fun e w' =>
    e = .returned (.tuple #[]) ∧ LkAt w' b (s.want ok) ∧ w.grownBy w' (some b) := by
  have h2 := h.c2
  have f2 := h.fr 2
  go_enter Tryz.func35, Tryz.ntmps35
  go_wp2
  · have hs : s.bad = true := by assumption
    go_end0
    exact ⟨rfl, by rw [Lk.want_eq, hs]; exact h.s2 _, grown_setCell _ _ _ _⟩
  · have hs : s.bad = false := by simpa using (show ¬ s.bad = true by assumption)
    go_end0
    exact ⟨rfl, by rw [Lk.want_eq, hs]; exact h.s2 _, grown_setCell _ _ _ _⟩

theorem part_eq (s : Lk) (deep : Int) (ok : Bool) (h : ok = (decide (wrap64 (s.parts + 1) ≤ 400) && decide (s.bytes ≤ 2000) && decide (deep ≤ 60))) :
    Lk.want ⟨wrap64 (s.parts + 1), s.bytes, s.bad⟩ ok = s.part deep := by subst h; rfl
theorem str_eq (s : Lk) (t : ByteArray) (ok : Bool) (h : ok = (decide (wrap64 (s.bytes + t.size) ≤ 2000) && Lib.validD t.data.toList)) :
    Lk.want ⟨s.parts, wrap64 (s.bytes + t.size), s.bad⟩ ok = s.str t := by subst h; rfl

set_option maxRecDepth 100000 in
theorem part_any (w : World) (b : Nat) (s : Lk) (deep : Int) (h : LkAt w b s) : Calls Tryz.prog 34 #[.pointer (some ⟨b, 0, none⟩), .int .i64 deep] w fun e w' =>
    e = .returned (.bool (!(s.part deep).bad)) ∧ LkAt w' b (s.part deep) ∧ w.grownBy w' (some b) := by
  have h0 := h.c0
  have f0 := h.fr 0
  have H1 := (h.s0 (wrap64 (s.parts + 1)))
  have h1 := H1.c1
  go_enter Tryz.func34, Tryz.ntmps34
  go_wp2_with (go_at_call 35; refine (want_any _ b _ _ H1).mono ?_; rintro e w' ⟨rfl, hl, hg⟩; rw [part_eq s deep _ (by simp [*] <;> omega)] at hl; have hc2 := hl.c2)
  all_goals
    go_ret
    exact ⟨rfl, by assumption, (grown_setCell _ _ _ _).trans (by assumption)⟩

set_option maxRecDepth 100000 in
theorem str_any (w : World) (b : Nat) (s : Lk) (t : ByteArray) (h : LkAt w b s) (hT : Tabs w) (g1 : 0 < b) (g2 : 1 < b) (ht : t.size ≤ 140737488351232) : Calls Tryz.prog 36 #[.pointer (some ⟨b, 0, none⟩), .string t] w fun e w' =>
    e = .returned (.tuple #[]) ∧ LkAt w' b (s.str t) ∧ w.grownBy w' (some b) := by
  have h1 := h.c1
  have f1 := h.fr 1
  have H1 := (h.s1 (wrap64 (s.bytes + t.size)))
  have h2 := H1.c1
  have hT1 : Tabs (w.setCell ⟨b, 1, none⟩ (.int .i64 (wrap64 (s.bytes + t.size)))) := hT.setCell _ _ _ g1 g2
  go_enter Tryz.func36, Tryz.ntmps36
  by_cases hn : wrap64 (s.bytes + t.size) ≤ 2000
  · go_wp2_with fail
    refine (valid_any t _ (by omega) hT1).mono ?_
    rintro e w' ⟨rfl, hb⟩
    have hl := H1.below hb (by have := h.lt; simpa [World.setCell] using this)
    go_wp2_with fail
    refine (want_any _ b _ _ hl).mono ?_
    rintro e w2 ⟨rfl, hl2, hg2⟩
    rw [str_eq s t _ (by simp [hn])] at hl2
    go_wp2_with fail
    go_end0
    exact ⟨rfl, hl2, ((grown_setCell _ _ _ _).trans (below_grown hb _)).trans hg2⟩
  · go_wp2_with fail
    refine (want_any _ b _ _ H1).mono ?_
    rintro e w2 ⟨rfl, hl2, hg2⟩
    rw [str_eq s t _ (by simp; omega)] at hl2
    go_wp2_with fail
    go_end0
    exact ⟨rfl, hl2, (grown_setCell _ _ _ _).trans hg2⟩

end Go.Proofs.YtiphcojcdegnkaaGreatDoor
