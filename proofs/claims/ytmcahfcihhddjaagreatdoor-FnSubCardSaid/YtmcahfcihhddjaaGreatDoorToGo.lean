/- Contracts of impl.listToGo, impl.mapToGo, impl.toGo. -/
import Derived.Test.YtmcahfcihhddjaaGreatDoorBaseJ
import Derived.Test.YtmcahfcihhddjaaGreatDoorTail
import Derived.Deep.DeepCutAuto
import Derived.Deep.CutBlock
namespace Go.Proofs.YtmcahfcihhddjaaGreatDoor
open Go Go.RowKit Go.Maps Go.Deep

def Fresh (lo hi k : Nat) : Prop := lo ≤ k ∧ k < hi

def ToGoPost (w : World) (j : J) (e : Ending) (w' : World) : Prop :=
  ∃ x, e = .returned (.tuple #[x, .bool true]) ∧ RepJ w' (Fresh w.heap.size w'.heap.size) j x ∧ Below w.heap.size w w'

def ToGoOK (w0 : World) (B : Nat) (v : V) (cs : List Value) : Prop :=
  ∀ w, Below B w0 w → B ≤ w.heap.size → Calls Tryz.prog 22 #[.agg cs.toArray] w (ToGoPost w (toJ v))

/-- The first n elements of the new row are there. -/
def LInv (H : Nat) (l : List V) (n : Nat) (wr : World) : Prop :=
  ∃ (f : Nat → Value) (F : Nat → Nat → Prop), wr.rowIs H 20 l.length f ∧ (∀ i k, i < n → F i k → H < k ∧ k < wr.heap.size) ∧
    (∀ i j k, i < j → j < n → F i k → F j k → False) ∧ ∀ i (hi : i < l.length), i < n → RepJ wr (F i) (toJ l[i]) (f i)

theorem LInv.step {H : Nat} {l : List V} {n : Nat} {wr w1 w2 : World} {x : Value} (h : LInv H l n wr) (hH : H < wr.heap.size) (hn : n < l.length) (hb : Below wr.heap.size wr w1) (hb2 : Below w1.heap.size w1 w2)
    (hx : RepJ w2 (Fresh w1.heap.size w2.heap.size) (toJ l[n]) x) : LInv H l (n + 1) (w2.setCell ⟨H, n, none⟩ x) := by
  obtain ⟨f, F, hrow, hF, hd, hr⟩ := h
  have hb3 := hb.trans (hb2.mono hb.size)
  have s1 := hb.size
  have s2 := hb2.size
  have hrow2 : w2.rowIs H 20 l.length f := rowIs_carry hrow (hb3.block H hH)
  have hsz : (w2.setCell ⟨H, n, none⟩ x).heap.size = w2.heap.size := by simp [World.setCell]
  refine ⟨fun i => if i = n then x else f i, fun i => if i = n then Fresh w1.heap.size w2.heap.size else F i, hrow2.set n x, ?_, ?_, ?_⟩
  · intro i k hi hk
    rw [hsz]
    by_cases e : i = n
    · simp only [e, if_true] at hk
      exact ⟨by have := hk.1; omega, hk.2⟩
    · simp only [e, if_false] at hk
      have := hF i k (by omega) hk
      omega
  · intro i j k hij hj hik hjk
    by_cases e : j = n
    · simp only [e, if_true] at hjk
      have e2 : i ≠ n := by omega
      simp only [e2, if_false] at hik
      have := hF i k (by omega) hik
      have := hjk.1
      omega
    · have e2 : i ≠ n := by omega
      simp only [e, if_false] at hjk
      simp only [e2, if_false] at hik
      exact hd i j k hij (by omega) hik hjk
  · intro i hi hin
    by_cases e : i = n
    · subst e
      simp only [if_true]
      exact hx.carry fun k hk => Below.heap_setCell _ _ _ _ (by have := hk.1; simp; omega)
    · simp only [e, if_false]
      refine (hr i hi (by omega)).carry fun k hk => ?_
      have := hF i k (by omega) hk
      exact (Below.heap_setCell _ _ _ _ (by simp; omega)).trans (hb3.block k this.2)

theorem toJL_len (l : List V) : (toJL l).length = l.length := by rw [toJL_eq, List.length_map]
theorem toJL_get (l : List V) (i : Nat) (hi : i < l.length) : (toJL l)[i]'(by rw [toJL_len]; exact hi) = toJ l[i] := by simp [toJL_eq]

theorem LInv.done {H : Nat} {l : List V} {wr : World} (hl : l.length * 104 ≤ 140737488351232) (hH : H < wr.heap.size) (h : LInv H l l.length wr) :
    RepJ wr (Fresh H wr.heap.size) (.arr (toJL l)) (.iface 64 (.slice (some ⟨H, 0, none⟩) l.length l.length)) := by
  obtain ⟨f, F, hrow, hF, hd, hr⟩ := h
  have e := toJL_len l
  have R := RepJ.arr (w := wr) (S := Fresh H wr.heap.size) (l := toJL l) (a := some ⟨H, 0, none⟩) (c := l.length) f H 0 l.length F (by omega) (by omega)
    (fun _ => ⟨rfl, ⟨Nat.le_refl _, hH⟩, hrow, by omega⟩) (fun i hi hk => by have := hF i H (by omega) hk; omega)
    (fun i k hi hk => by have := hF i k (by omega) hk; exact ⟨by omega, this.2⟩) (fun i j k hij hj => hd i j k hij (by omega))
    (fun i hi => by rw [toJL_get l i (by omega), Nat.zero_add]; exact hr i (by omega) (by omega))
  rw [e] at R
  exact R

def LLoop (w : World) (H : Nat) (l : List V) (i : Value) (wr : World) : Prop :=
  ∃ n : Nat, n ≤ l.length ∧ i = .int .i64 (n : Nat) ∧ Below H w wr ∧ H < wr.heap.size ∧ LInv H l n wr

theorem info_any : (Tryz.prog.info? 20).map (fun i => (i.zero, i.size, i.bytes)) = some (some .nilIface, 1, 16) := by kernel_rfl

def ListPost (w : World) (l : List V) (e : Ending) (w' : World) : Prop :=
  ∃ a c, e = .returned (.tuple #[.slice a l.length c, .bool true]) ∧ RepJ w' (Fresh w.heap.size w'.heap.size) (.arr (toJL l)) (.iface 64 (.slice a l.length c)) ∧ Below w.heap.size w w'

set_option maxHeartbeats 4000000 in
set_option maxRecDepth 100000 in
theorem list_of (w0 : World) (B : Nat) (l : List V) (la : Option Addr) (lc : Nat) (C : Nat → List Value) (hl : l.length * 104 ≤ 140737488351232)
    (cl : 0 < l.length → ∃ b o, la = some ⟨b, o, none⟩ ∧ b < B ∧ ∀ i, i < l.length → CellsAt w0 b (o + i * 6) (C i)) (rl : ∀ i (hi : i < l.length), RepV w0 B l[i] (C i))
    (ih : ∀ i (hi : i < l.length), ToGoOK w0 B l[i] (C i)) (w : World) (hbel : Below B w0 w) (hB : B ≤ w.heap.size) :
    Calls Tryz.prog 41 #[.slice la l.length lc] w (ListPost w l) := by
  have hmk := run_make_row' (P := Tryz.prog) 64 20 .nilIface 16 Tryz.underlying64 info_any rfl .i64 .i64 l.length (by omega) (by omega)
  have Hcl := Lib.hid cl; clear cl
  have Hih := Lib.hid ih; clear ih
  have Hbel := Lib.hid hbel; clear hbel
  have hst : LInv w.heap.size l 0 (w.alloc (.cells (madeCells #[.nilIface] l.length) 20)) :=
    ⟨_, fun _ _ => False, World.rowIs_made w .nilIface l.length 20, fun _ _ h => by omega, fun _ _ _ _ h => by omega, fun _ _ h => by omega⟩
  have Hst := Lib.hid hst; clear hst
  go_enter Tryz.func41, Tryz.ntmps41
  go_wp2_with fail
  go_loopw [14] (fun i wr => LLoop w w.heap.size l i wr) (fun i _ => l.length - (intOf i).toNat)
  case atStart => exact ⟨0, Nat.zero_le _, rfl, below_alloc1 _ _, by simp, Hst.out⟩
  case round =>
    obtain ⟨n, hn, rfl, hb, hH, hinv⟩ := hrel
    have Hinv := Lib.hid hinv; clear hinv
    by_cases hn' : n < l.length
    · obtain ⟨lb, lo, rfl, hlb, hcel⟩ := Hcl.out (by omega)
      have hb0 : Below B w0 wr := Hbel.out.trans (hb.mono hB)
      have cc := (hcel n hn').below hb0 hlb
      have hbx : Below wr.heap.size wr (wr.alloc (.cells (C n).toArray 26)) := below_alloc1 _ _
      have ih := Hih.out n hn' _ (hb0.trans (hbx.mono (by have := hb.size; omega))) (by have := hb.size; have := hbx.size; omega)
      obtain ⟨k', h', t', la', ka', va', nl', cl', nk', ck', nv', cv', hCn⟩ := (rl n hn').shape
      rw [hCn] at cc ih hbx
      obtain ⟨y0, y1, y2, y3, y4, y5⟩ := cells6 cc
      have HI := Lib.hid ih
      clear ih hCn cc hcel hb0
      go_wp2_with fail
      refine HI.out.mono ?_
      rintro e w2 ⟨x, rfl, hx, hb2⟩
      have s1 := hbx.size
      have s2 := hb2.size
      have hb3 := hb.trans ((hbx.mono hb.size).trans (hb2.mono (by have := hb.size; omega)))
      have hnext := Lib.hid (Hinv.out.step hH hn' hbx hb2 hx)
      obtain ⟨hcw, hfw⟩ : (∃ u, w2.cell? ⟨w.heap.size, n, none⟩ = some u) ∧ w2.frozen? ⟨w.heap.size, n, none⟩ = false := by
        obtain ⟨f, F, hrow, _⟩ := Hinv.out
        have h2 := rowIs_carry hrow ((hb2.block w.heap.size (by omega)).trans (hbx.block w.heap.size hH))
        exact ⟨⟨_, h2.cell hn'⟩, h2.frozen _⟩
      obtain ⟨u, hcw⟩ := hcw
      have hbs := Lib.hid (hb3.setCell (p := ⟨w.heap.size, n, none⟩) (Nat.le_refl _) x)
      have hsz : (w2.setCell ⟨w.heap.size, n, none⟩ x).heap.size = w2.heap.size := by simp [World.setCell]
      have Hsz := Lib.hid hsz; clear hsz
      rcases hx.form with rfl | ⟨ty, y, rfl⟩
      all_goals
        clear hx
        go_wp2_with fail
        go_roundw
        case rel => exact ⟨n + 1, by omega, by go_num, hbs.out, by rw [Hsz.out]; omega, hnext.out⟩
        case measure => simp [intOf]; omega
    · go_wp2_with fail
      have e : n = l.length := by omega
      refine bodyPost_ret (results_tmp2 rfl _ _ _) rfl ⟨_, _, rfl, LInv.done hl hH (e ▸ Hinv.out), hb⟩

end Go.Proofs.YtmcahfcihhddjaaGreatDoor
