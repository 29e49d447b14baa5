/- Contract of impl.listFromGo. -/
/- Contract of spec.GetPath. -/
import Derived.Test.YtiphcojcdegnkaaGreatDoorM11
import Derived.Test.YtiphcojcdegnkaaGreatDoorM07
import Derived.Test.YtiphcojcdegnkaaGreatDoorM10
namespace Go.Proofs.YtiphcojcdegnkaaGreatDoor
open Go Go.RowKit Go.Maps Go.Deep

def FromOK (w0 : World) (B : Nat) (v : V) (x : Value) : Prop := ∀ w, Below B w0 w → B ≤ w.heap.size → Calls Tryz.prog 30 #[x] w (FromP w v)

/-- Block b is an impl.Value of an array whose row is v. -/
def OutAt (w : World) (b : Nat) (v : Value) : Prop := w.heap[b]? = some (.cells #[.int .i64 5, .int .i64 0, .string ⟨#[]⟩, v, .slice none 0 0, .slice none 0 0] 26)

def FromLoop (w : World) (l : List V) (i : Value) (wr : World) : Prop :=
  ∃ (n : Nat) (v : Value), n ≤ l.length ∧ i = .int .i64 (n : Nat) ∧ Below w.heap.size w wr ∧ wr.heap[w.heap.size]? = some (.cells #[.int .i64 0, .int .i64 0, .string ⟨#[]⟩, .slice none 0 0, .slice none 0 0, .slice none 0 0] 26) ∧
    OutAt wr (w.heap.size + 1) v ∧ RowS wr (w.heap.size + 2) (w.heap.size + 2) v (l.take n)

theorem row_form {w : World} {base : Nat} {e : TypeId} {size : Nat} {v : Value} {n : Nat} {xs : List Value} (h : w.ownsRow base e size v n xs) : ∃ la lc, v = .slice la n lc := by
  rcases h.2 with ⟨e, h0⟩ | ⟨g, cap, cur, e, _⟩
  · exact ⟨none, 0, by rw [e, h0]⟩
  · exact ⟨_, _, e⟩

theorem out_set {w : World} {b : Nat} {v : Value} (h : OutAt w b v) (u : Value) : OutAt (w.setCell ⟨b, 3, none⟩ u) b u := heap_setCell_same _ b 3 _ _ u h

theorem RowS.below {w w' : World} {lo base : Nat} {v : Value} {l : List V} (h : RowS w lo base v l) (hb : Below w.heap.size w w') (hlo : lo ≤ base) : RowS w' lo base v l :=
  h.kept none (below_grown hb none) hlo (fun k e => by cases e)

theorem set6_other (w : World) (b k : Nat) (v0 v1 v2 v3 v4 v5 : Value) (h : k ≠ b) :
    ((((((w.setCell ⟨b, 0, none⟩ v0).setCell ⟨b, 1, none⟩ v1).setCell ⟨b, 2, none⟩ v2).setCell ⟨b, 3, none⟩ v3).setCell ⟨b, 4, none⟩ v4).setCell ⟨b, 5, none⟩ v5).heap[k]? = w.heap[k]? := by
  rw [Below.heap_setCell _ _ _ _ h, Below.heap_setCell _ _ _ _ h, Below.heap_setCell _ _ _ _ h, Below.heap_setCell _ _ _ _ h, Below.heap_setCell _ _ _ _ h, Below.heap_setCell _ _ _ _ h]
theorem set6_size (w : World) (b : Nat) (v0 v1 v2 v3 v4 v5 : Value) :
    ((((((w.setCell ⟨b, 0, none⟩ v0).setCell ⟨b, 1, none⟩ v1).setCell ⟨b, 2, none⟩ v2).setCell ⟨b, 3, none⟩ v3).setCell ⟨b, 4, none⟩ v4).setCell ⟨b, 5, none⟩ v5).heap.size = w.heap.size := by simp [World.setCell]

theorem take_snoc {l : List V} {n : Nat} (h : n < l.length) : l.take (n + 1) = l.take n ++ [l[n]] := List.take_succ_eq_append_getElem h

set_option maxHeartbeats 4000000 in
set_option maxRecDepth 100000 in
theorem listFrom_of (w0 : World) (B : Nat) (l : List V) (a : Option Addr) (c : Nat) (f : Nat → Value) (b o N : Nat) (hl : l.length * 104 ≤ 140737488351232)
    (ca : 0 < l.length → a = some ⟨b, o, none⟩ ∧ b < B ∧ w0.rowIs b 20 N f ∧ o + l.length ≤ N)
    (ih : ∀ i (hi : i < l.length), FromOK w0 B l[i] (f (o + i))) (w : World) (hbel : Below B w0 w) (hB : B ≤ w.heap.size) :
    Calls Tryz.prog 47 #[.slice a l.length c] w (FromP w (.mk 5 0 ⟨#[]⟩ l [] [])) := by
  have Hca := Lib.hid ca; clear ca
  have Hih := Lib.hid ih; clear ih
  have Hbel := Lib.hid hbel; clear hbel
  obtain ⟨i0, hi, hz0, hz1, hz2⟩ := info_parts info_value
  have s0 : FromLoop w l (.int .i64 0) ((w.alloc (.cells #[.int .i64 0, .int .i64 0, .string ⟨#[]⟩, .slice none 0 0, .slice none 0 0, .slice none 0 0] 26)).alloc
      (.cells #[.int .i64 5, .int .i64 0, .string ⟨#[]⟩, .slice none 0 0, .slice none 0 0, .slice none 0 0] 26)) :=
    ⟨0, .slice none 0 0, Nat.zero_le _, rfl, below_alloc2 _ _ _, at_alloc20 _ _ _, at_alloc2 _ _ _, RowS.nil _ _ _⟩
  have S0 := Lib.hid s0; clear s0
  go_enter Tryz.func47, Tryz.ntmps47
  go_wp2_with fail
  go_loopw [12] (fun i wr => FromLoop w l i wr) (fun i _ => l.length - (intOf i).toNat)
  case atStart => exact S0.out
  case round =>
    clear S0
    obtain ⟨n, v, hn, rfl, hb, hr0, hout, hrow⟩ := hrel
    have hsz : w.heap.size + 2 ≤ wr.heap.size := by have := (Array.getElem?_eq_some_iff.1 hout).1; omega
    by_cases hn' : n < l.length
    · obtain ⟨rfl, hbB, hro, hN⟩ := Hca.out (by omega)
      have hb0 : Below B w0 wr := Hbel.out.trans (hb.mono hB)
      have hcel : wr.cell? ⟨b, o + n, none⟩ = some (f (o + n)) := (rowIs_carry hro (hb0.block b hbB)).cell (by omega)
      have ih := Hih.out n hn' wr hb0 (by omega)
      have HI := Lib.hid ih
      have Hrow := Lib.hid hrow
      have Hout := Lib.hid hout
      have Hr0 := Lib.hid hr0
      clear ih hrow hout hr0 hb0 hro
      go_wp2_with fail
      refine HI.out.mono ?_
      rintro e w2 ⟨cs, rfl, hx, hb2⟩
      obtain ⟨k, h, t, la, ka, va, nl, cl, nk, ck, nv, cv, hcs⟩ := hx.shape
      have hx6 := hx.six
      have hx1 := hx.one
      have hs2 := hb2.size
      have hout2 : OutAt w2 (w.heap.size + 1) v := (hb2.block (w.heap.size + 1) (by omega)).trans Hout.out
      have hrow2 := Hrow.out.below hb2 (Nat.le_refl _)
      have e3 : w2.cell? ⟨w.heap.size + 1, 3, none⟩ = some v := (of_block6 hout2).2.2.2.1
      have hlt : w.heap.size + 1 < w2.heap.size := by omega
      have hne : ¬ (w.heap.size + 1 = w2.heap.size) := by omega
      -- the world behind the two boxes
      have hb4 := below_alloc2 w2 (.cells cs.toArray 26) (.cells cs.toArray 26)
      have hs4 := size_alloc2 w2 (.cells cs.toArray 26) (.cells cs.toArray 26)
      obtain ⟨C, F, hown, hr1, hF⟩ := hrow2.below hb4 (Nat.le_refl _)
      have hlen : (l.take n).length = n := by rw [List.length_take]; omega
      have hx4 := hx.carry (w' := (w2.alloc (.cells cs.toArray 26)).alloc (.cells cs.toArray 26)) (fun k hk => hb4.block k hk.2)
      have hnews := cells_new (w2.alloc (.cells cs.toArray 26)) cs 26
      rw [size_alloc1] at hnews
      have c1 : n + 1 ≤ maxLen := by unfold maxLen; omega
      have c2 : (n + 1) * 104 ≤ 140737488355328 := by omega
      have hob : ∀ g, v.ownBlock = some g → w.heap.size + 2 ≤ g ∧ g < wr.heap.size := by
        obtain ⟨C', F', hown', _⟩ := Hrow.out
        exact fun g hg => hown'.lt g hg
      have hout4 : OutAt ((w2.alloc (.cells cs.toArray 26)).alloc (.cells cs.toArray 26)) (w.heap.size + 1) v := (hb4.block (w.heap.size + 1) hlt).trans hout2
      rw [hlen] at hown
      have hnext : ∀ v' w', w'.ownsRow (w.heap.size + 2) 26 6 v' (n + 1) (flat C n ++ cs) → ((w2.alloc (.cells cs.toArray 26)).alloc (.cells cs.toArray 26)).grownBy w' v.ownBlock →
          (v'.ownBlock = v.ownBlock ∨ v'.ownBlock = some ((w2.alloc (.cells cs.toArray 26)).alloc (.cells cs.toArray 26)).heap.size) →
          OutAt w' (w.heap.size + 1) v ∧ FromLoop w l (.int .i64 ((n : Int) + 1)) (w'.setCell ⟨w.heap.size + 1, 3, none⟩ v') := by
        intro v' w' ho hg hat
        have hne1 : ∀ q, q < w.heap.size + 2 → some q ≠ v.ownBlock := fun q hq e => by have := hob q e.symm; omega
        have ho1 : OutAt w' (w.heap.size + 1) v := (hg.block _ (by rw [hs4]; omega) (hne1 _ (by omega))).trans hout4
        have hstep := RowS.step (w' := w') (l := l.take n) (x := l[n]) (v' := v') hr1 hF hx4 (fun q hq => ⟨by have := hq.1; omega, by have := hq.2; rw [hs4]; omega, fun e => by have := hob q e; have := hq.1; omega⟩)
          (by rw [hlen]; exact ho) hg hat
        rw [← take_snoc hn'] at hstep
        have hbw : Below w.heap.size w w' := by
          refine (hb.trans ((hb2.mono (by omega)).trans (hb4.mono (by omega)))).grown hg (by rw [hs4]; omega) (fun q hq => by have := hob q hq; omega)
        refine ⟨ho1, n + 1, v', by omega, rfl, hbw.setCell (by simp) _, ?_, out_set ho1 v', ?_⟩
        · rw [Below.heap_setCell _ _ _ _ (by simp)]
          exact ((hg.block _ (by rw [hs4]; omega) (hne1 _ (by omega))).trans ((hb4.block _ (by omega)).trans (hb2.block _ (by omega)))).trans Hr0.out
        · exact hstep.kept (some (w.heap.size + 1)) (grown_setCell _ _ _ _) (Nat.le_refl _) (fun q e => by cases e; omega)
      have Hnext := Lib.hid hnext
      have hbase : w.heap.size + 2 ≤ ((w2.alloc (.cells cs.toArray 26)).alloc (.cells cs.toArray 26)).heap.size := by rw [hs4]; omega
      clear hnext hr1 hF hx4 hout4 hrow2 hob hout2 hx hb4 hs4
      subst hcs
      go_wp2_with (at_builtin; go_loud (refine wpList_append_own_at _ rfl (.tmp 25) (.tmp 27) 23 rfl (w.heap.size + 2) 26 i0 _ 6 104 Tryz.underlying23 hi hz0 hz1 hz2 rfl (by decide) v n (flat C n) rfl hown _ 1 1 _ rfl hx6 hnews hx1 c1 c2 hbase ?_; intro v' w5 hown5 hg5 _ hat5; obtain ⟨hout5, hloop⟩ := Hnext.out v' w5 hown5 hg5 hat5; have e3' := (of_block6 hout5).2.2.2.1; have f3' := (free_block6 hout5).2.2.2.1; have Hloop := Lib.hid hloop; obtain ⟨la', lc', rfl⟩ := row_form hown5; clear hloop hout5 hown5 hg5 hat5))
      go_roundw
      case rel => exact Hloop.out
      case measure => simp [intOf]; omega
    · clear Hih Hca
      have e : n = l.length := by omega
      rw [e, List.take_length] at hrow
      obtain ⟨la, lc, rfl, hrep⟩ := hrow.list (Nat.le_refl _) hl
      obtain ⟨x0, x1, x2, x3, x4, x5⟩ := of_block6 hout
      obtain ⟨y0, y1, y2, y3, y4, y5⟩ := of_block6 hr0
      obtain ⟨f0, f1, f2, f3, f4, f5⟩ := free_block6 hr0
      have hfin := below_set6 hb (Nat.le_refl _) (.int .i64 5) (.int .i64 0) (.string ⟨#[]⟩) (.slice la l.length lc) (.slice none 0 0) (.slice none 0 0)
      have hset := set_row6 hr0 (.int .i64 5) (.int .i64 0) (.string ⟨#[]⟩) (.slice la l.length lc) (.slice none 0 0) (.slice none 0 0)
      have hP : FromP w (.mk 5 0 ⟨#[]⟩ l [] []) (.returned (.tuple #[.agg #[.int .i64 5, .int .i64 0, .string ⟨#[]⟩, .slice la l.length lc, .slice none 0 0, .slice none 0 0], .bool true]))
          ((((((wr.setCell ⟨w.heap.size, 0, none⟩ (.int .i64 5)).setCell ⟨w.heap.size, 1, none⟩ (.int .i64 0)).setCell ⟨w.heap.size, 2, none⟩ (.string ⟨#[]⟩)).setCell ⟨w.heap.size, 3, none⟩ (.slice la l.length lc)).setCell ⟨w.heap.size, 4, none⟩ (.slice none 0 0)).setCell ⟨w.heap.size, 5, none⟩ (.slice none 0 0)) := by
        refine ⟨_, rfl, (hrep.turn fun k hk => ⟨?_, ?_⟩), hfin⟩
        · exact set6_other _ _ _ _ _ _ _ _ _ (by omega)
        · rw [set6_size]
          exact ⟨by omega, hk.2⟩
      have HP := Lib.hid hP
      have Hset := Lib.hid hset
      clear hP hset hfin hrep hrow hout hr0 hb Hbel
      go_wp2_with fail
      exact bodyPost_ret (results_row_tmp (p := 2) (u := 3) (ty := 26) rfl _ _ w.heap.size 26 _ (0, 0) _ rfl Hset.out Tryz.underlying26 rfl (by kernel_rfl)) rfl HP.out

end Go.Proofs.YtiphcojcdegnkaaGreatDoor

namespace Go.Proofs.YtiphcojcdegnkaaGreatDoor
open Go Go.RowKit Go.Maps Go.Deep

def GetLoop (w0 : World) (B : Nat) (w : World) (v : V) (p : List V) (i : Value) (wr : World) : Prop :=
  ∃ (n : Nat) (cur : V) (k h : Int) (t : ByteArray) (la ka va : Option Addr) (nl cl nk ck nv cv : Nat), n ≤ p.length ∧ i = .int .i64 (n : Nat) ∧ pathA v (p.take n) = .fine cur ∧ Below w.heap.size w wr ∧
    wr.heap[w.heap.size]? = some (.cells #[.int .i64 k, .int .i64 h, .string t, .slice la nl cl, .slice ka nk ck, .slice va nv cv] 26) ∧
    wr.heap[w.heap.size + 1]? = some (.cells #[.int .i64 0, .int .i64 0, .string ⟨#[]⟩, .slice none 0 0, .slice none 0 0, .slice none 0 0] 26) ∧
    RepV w0 B cur [.int .i64 k, .int .i64 h, .string t, .slice la nl cl, .slice ka nk ck, .slice va nv cv]

theorem pathA_take {v : V} {p : List V} {n : Nat} (hn : n < p.length) {cur : V} (h : pathA v (p.take n) = .fine cur) : pathA v (p.take (n + 1)) = stepA cur p[n] := by
  rw [List.take_succ_eq_append_getElem hn, pathA_snoc, h]
theorem pathA_end {v : V} {p : List V} {n : Nat} (hn : n < p.length) {cur : V} (h : pathA v (p.take n) = .fine cur) (hs : ∀ x, stepA cur p[n] ≠ .fine x) : pathA v p = stepA cur p[n] := by
  have e := pathA_take hn h
  have := pathA_stop (p := p.take (n + 1)) (q := p.drop (n + 1)) (v := v) (fun x => by rw [e]; exact hs x)
  rw [List.take_append_drop, e] at this
  exact this

theorem Good.lens {v : V} (g : Good v) : v.keys.length = v.vals.length ∧ 0 ≤ v.kind ∧ v.kind ≤ 6 := by
  cases g with
  | mk shape half valid list rise vkeys vals =>
    simp only [shapeB, Bool.and_eq_true, decide_eq_true_eq, beq_iff_eq] at shape
    exact ⟨shape.2, shape.1.1.1.1.1.1, shape.1.1.1.1.1.2⟩

theorem size_of_some {w : World} {b : Nat} {o : Obj} (h : w.heap[b]? = some o) : b < w.heap.size := (Array.getElem?_eq_some_iff.1 h).1

theorem set_alloc {w : World} {z : Nat} {c0 c1 c2 c3 c4 c5 : Value} {t : TypeId} (h : w.heap[z]? = some (.cells #[c0, c1, c2, c3, c4, c5] t)) (v0 v1 v2 v3 v4 v5 : Value) (o : Obj) :
    (((((((w.setCell ⟨z, 0, none⟩ v0).setCell ⟨z, 1, none⟩ v1).setCell ⟨z, 2, none⟩ v2).setCell ⟨z, 3, none⟩ v3).setCell ⟨z, 4, none⟩ v4).setCell ⟨z, 5, none⟩ v5).alloc o).heap[z]? = some (.cells #[v0, v1, v2, v3, v4, v5] t) :=
  (heap_alloc_old _ o (by rw [set6_size]; exact size_of_some h)).trans (set_row6 h v0 v1 v2 v3 v4 v5)
theorem set_alloc_other {w : World} {z k : Nat} {o' : Obj} (h : w.heap[k]? = some o') (hk : k ≠ z) (v0 v1 v2 v3 v4 v5 : Value) (o : Obj) :
    (((((((w.setCell ⟨z, 0, none⟩ v0).setCell ⟨z, 1, none⟩ v1).setCell ⟨z, 2, none⟩ v2).setCell ⟨z, 3, none⟩ v3).setCell ⟨z, 4, none⟩ v4).setCell ⟨z, 5, none⟩ v5).alloc o).heap[k]? = some o' :=
  (heap_alloc_old _ o (by rw [set6_size]; exact size_of_some h)).trans ((set6_other w z k v0 v1 v2 v3 v4 v5 hk).trans h)
theorem below_set_alloc {a w : World} {B z : Nat} (h : Below B a w) (hz : B ≤ z) (hB : B ≤ w.heap.size) (v0 v1 v2 v3 v4 v5 : Value) (o : Obj) :
    Below B a (((((((w.setCell ⟨z, 0, none⟩ v0).setCell ⟨z, 1, none⟩ v1).setCell ⟨z, 2, none⟩ v2).setCell ⟨z, 3, none⟩ v3).setCell ⟨z, 4, none⟩ v4).setCell ⟨z, 5, none⟩ v5).alloc o) :=
  keep_alloc (below_set6 h hz v0 v1 v2 v3 v4 v5) (by rw [set6_size]; exact hB) o

set_option maxHeartbeats 4000000 in
set_option maxRecDepth 100000 in
theorem getPath_any (w0 : World) (B : Nat) (v : V) (cs : List Value) (hv : RepV w0 B v cs) (p : List V) (pa : Option Addr) (pc : Nat) (C : Nat → List Value) (hpl : p.length * 104 ≤ 140737488351232)
    (cp : 0 < p.length → ∃ b o, pa = some ⟨b, o, none⟩ ∧ b < B ∧ ∀ i, i < p.length → CellsAt w0 b (o + i * 6) (C i)) (rp : ∀ i (hi : i < p.length), RepV w0 B p[i] (C i)) (gv : Good v) (gp : ∀ x ∈ p, Good x)
    (w : World) (hbel : Below B w0 w) (hB : B ≤ w.heap.size) : Calls Tryz.prog 8 #[.agg cs.toArray, .slice pa p.length pc] w (AnsV w0 B w (pathA v p)) := by
  have Hcp := Lib.hid cp; clear cp
  obtain ⟨k, h, t, la, ka, va, nl, cl, nk, ck, nv, cv, rfl⟩ := hv.shape
  have hb0 := below_alloc2 w (.cells #[.int .i64 k, .int .i64 h, .string t, .slice la nl cl, .slice ka nk ck, .slice va nv cv] 26) (.cells #[.int .i64 0, .int .i64 0, .string ⟨#[]⟩, .slice none 0 0, .slice none 0 0, .slice none 0 0] 26)
  have hx0 := at_alloc20 w (.cells #[.int .i64 k, .int .i64 h, .string t, .slice la nl cl, .slice ka nk ck, .slice va nv cv] 26) (.cells #[.int .i64 0, .int .i64 0, .string ⟨#[]⟩, .slice none 0 0, .slice none 0 0, .slice none 0 0] 26)
  have hx1 := at_alloc2 w (.cells #[.int .i64 k, .int .i64 h, .string t, .slice la nl cl, .slice ka nk ck, .slice va nv cv] 26) (.cells #[.int .i64 0, .int .i64 0, .string ⟨#[]⟩, .slice none 0 0, .slice none 0 0, .slice none 0 0] 26)
  have Hstart := Lib.hid (show GetLoop w0 B w v p (.int .i64 0) _ from ⟨0, v, k, h, t, la, ka, va, nl, cl, nk, ck, nv, cv, Nat.zero_le _, rfl, by rw [List.take_zero]; rfl, hb0, hx0, hx1, hv⟩)
  clear hb0 hx0 hx1 hv
  go_enter Tryz.func8, Tryz.ntmps8
  go_wp2_with fail
  go_loopw [12] (fun i wr => GetLoop w0 B w v p i wr) (fun i _ => p.length - (intOf i).toNat)
  case atStart => exact Hstart.out
  case round =>
    clear Hstart
    obtain ⟨n, cur, k, h, t, la, ka, va, nl, cl, nk, ck, nv, cv, hn, rfl, hpath, hb, h0, h1, hcur⟩ := hrel
    have hs1 := size_of_some h1
    by_cases hn' : n < p.length
    · have gcur := pathA_good gv hpath
      have gk := gp _ (List.getElem_mem hn')
      obtain ⟨lb, lo, rfl, hlb, hcel⟩ := Hcp.out (by omega)
      have hb2 : Below B w0 wr := hbel.trans (hb.mono hB)
      have cc := (hcel n hn').below hb2 hlb
      have hrk := rp n hn'
      obtain ⟨k9, h9, t9, la9, ka9, va9, nl9, cl9, nk9, ck9, nv9, cv9, hC⟩ := hrk.shape
      rw [hC] at cc hrk
      obtain ⟨y0, y1, y2, y3, y4, y5⟩ := cells6 cc
      have hal := keep_alloc hb hb.size (.cells #[.int .i64 k9, .int .i64 h9, .string t9, .slice la9 nl9 cl9, .slice ka9 nk9 ck9, .slice va9 nv9 cv9] 26)
      have h0a := (heap_alloc_old wr (.cells #[.int .i64 k9, .int .i64 h9, .string t9, .slice la9 nl9 cl9, .slice ka9 nk9 ck9, .slice va9 nv9 cv9] 26) (k := w.heap.size) (by omega)).trans h0
      have h1a := (heap_alloc_old wr (.cells #[.int .i64 k9, .int .i64 h9, .string t9, .slice la9 nl9 cl9, .slice ka9 nk9 ck9, .slice va9 nv9 cv9] 26) (k := w.heap.size + 1) (by omega)).trans h1
      have hka := at_alloc wr (.cells #[.int .i64 k9, .int .i64 h9, .string t9, .slice la9 nl9 cl9, .slice ka9 nk9 ck9, .slice va9 nv9 cv9] 26)
      have htake := pathA_take hn' hpath
      have hend := pathA_end hn' hpath
      have e1 : cur.kind = k := (RepV.kh hcur).1
      have e2 : p[n].kind = k9 := (RepV.kh hrk).1
      have Hnext := Lib.hid fun (cur' : V) (k h : Int) (t : ByteArray) (la ka va : Option Addr) (nl cl nk ck nv cv : Nat) (w' : World) (hst : stepA cur p[n] = .fine cur') (hb' : Below w.heap.size w w') (h0' : w'.heap[w.heap.size]? = some (.cells #[.int .i64 k, .int .i64 h, .string t, .slice la nl cl, .slice ka nk ck, .slice va nv cv] 26))
        (h1' : w'.heap[w.heap.size + 1]? = some (.cells #[.int .i64 0, .int .i64 0, .string ⟨#[]⟩, .slice none 0 0, .slice none 0 0, .slice none 0 0] 26)) (hr' : RepV w0 B cur' [.int .i64 k, .int .i64 h, .string t, .slice la nl cl, .slice ka nk ck, .slice va nv cv]) =>
          (show GetLoop w0 B w v p (.int .i64 ((n : Int) + 1)) w' from ⟨n + 1, cur', k, h, t, la, ka, va, nl, cl, nk, ck, nv, cv, hn', by go_num, by rw [htake, hst], hb', h0', h1', hr'⟩)
      have IX := Lib.hid fun (h46 : ¬ (cur.kind = 4 ∧ p[n].kind = 6)) w1 (hw : Below B w0 w1) (hB1 : B ≤ w1.heap.size) => index_any w0 B cur p[n] _ _ hcur hrk gcur.lens.1 gk.lens.1 (by have := gcur.lens.2; omega) (by have := gk.lens.2; omega) h46 w1 hw hB1
      have Hcur := Lib.hid hcur
      have Hst : Hid (stepA cur p[n] = if k = 0 ∧ (k9 = 4 ∨ k9 = 3) then .fine cur else if k = 4 ∧ k9 = 6 then .silent else indexA cur p[n]) := Lib.hid (by unfold stepA; rw [e1, e2])
      rw [e1, e2] at IX
      have u1 : (n : Int) < (p.length : Int) := by omega
      have u2 : (0 : Int) ≤ (n : Int) := by omega
      have Hend := Lib.hid hend
      have Hal := Lib.hid hal
      have H0a := Lib.hid fun (_ : True) => h0a
      have H1a := Lib.hid fun (_ : True) => h1a
      have H1w := Lib.hid fun (_ : True) => h1
      have Hka := Lib.hid fun (_ : True) => hka
      have Hbb := Lib.hid (hbel.trans (hal.mono hB))
      have hlt0 : ¬ (w.heap.size = wr.heap.size) := by omega
      have hlt1 : ¬ (w.heap.size + 1 = wr.heap.size) := by omega
      have hle0 : w.heap.size < wr.heap.size := by omega
      have hle9 : w.heap.size + 1 < wr.heap.size := by omega
      obtain ⟨a0, a1, a2, a3, a4, a5⟩ := of_block6 h0
      clear hend htake hpath hcel cc hC hrk hcur gcur gk hb2 h0 h1 hal h0a h1a hka e1 e2
      generalize stepA cur p[n] = st at *
      generalize indexA cur p[n] = an at *
      by_cases c0 : k = 0 ∧ (k9 = 4 ∨ k9 = 3)
      · rw [if_pos c0] at Hst
        have Hn := Lib.hid (Hnext.out cur k h t la ka va nl cl nk ck nv cv _ Hst.out Hal.out (H0a.out trivial) (H1a.out trivial) Hcur.out)
        obtain ⟨rfl, c9⟩ := c0
        clear Hnext IX Hend Hst H0a H1a Hka Hbb hb
        rcases c9 with rfl | rfl
        all_goals
          go_wp2_with fail
          go_roundw
          case rel => exact Hn.out
          case measure => simp [intOf]; omega
      · rw [if_neg c0] at Hst
        by_cases k0 : k = 0
        · have t4 : (k9 == 4) = false := by
            have : ¬ (k9 = 4) := fun e => c0 ⟨k0, .inl e⟩
            simpa using this
          have t3 : (k9 == 3) = false := by
            have : ¬ (k9 = 3) := fun e => c0 ⟨k0, .inr e⟩
            simpa using this
          have IX2 := Lib.hid (IX.out (fun e => by omega))
          have Hst2 : Hid (st = an) := Lib.hid (by rw [Hst.out, if_neg (by omega)])
          clear IX Hst c0
          subst k0
          go_wp2_with fail
          refine (IX2.out _ Hbb.out (by have := Hal.out.size; omega)).mono ?_
          rintro e w1 ⟨k1, x1, t1, la1, ka1, va1, nl1, cl1, nk1, ck1, nv1, cv1, rfl, hP, hw1⟩
          have hs2 := hw1.size
          rw [size_alloc1] at hs2
          have hb1 : Below w.heap.size w w1 := Hal.out.trans (hw1.mono (by rw [size_alloc1]; omega))
          have h0b := (hw1.block w.heap.size (by rw [size_alloc1]; omega)).trans (H0a.out trivial)
          have h1b := (hw1.block (w.heap.size + 1) (by rw [size_alloc1]; omega)).trans (H1a.out trivial)
          have hal2 := keep_alloc hb1 hb1.size (.cells #[.int .i64 k1, .int .i64 x1, .string t1, .slice la1 nl1 cl1, .slice ka1 nk1 ck1, .slice va1 nv1 cv1] 26)
          have h0c := (heap_alloc_old w1 (.cells #[.int .i64 k1, .int .i64 x1, .string t1, .slice la1 nl1 cl1, .slice ka1 nk1 ck1, .slice va1 nv1 cv1] 26) (k := w.heap.size) (by omega)).trans h0b
          have h1c := (heap_alloc_old w1 (.cells #[.int .i64 k1, .int .i64 x1, .string t1, .slice la1 nl1 cl1, .slice ka1 nk1 ck1, .slice va1 nv1 cv1] 26) (k := w.heap.size + 1) (by omega)).trans h1b
          have hlt2 : ¬ (w.heap.size = w1.heap.size) := by omega
          have hlt3 : ¬ (w.heap.size + 1 = w1.heap.size) := by omega
          have hle1 : w.heap.size < w1.heap.size := by omega
          have hle2 : w.heap.size + 1 < w1.heap.size := by omega
          cases an with
          | fine y =>
            have Hn := Lib.hid (Hnext.out y k1 x1 t1 la1 ka1 va1 nl1 cl1 nk1 ck1 nv1 cv1 _ Hst2.out (below_set_alloc hb1 (Nat.le_refl _) (by omega) _ _ _ _ _ _ _) (set_alloc h0b (.int .i64 k1) (.int .i64 x1) (.string t1) (.slice la1 nl1 cl1) (.slice ka1 nk1 ck1) (.slice va1 nv1 cv1) (.cells #[.int .i64 k1, .int .i64 x1, .string t1, .slice la1 nl1 cl1, .slice ka1 nk1 ck1, .slice va1 nv1 cv1] 26)) (set_alloc_other h1b (by omega) _ _ _ _ _ _ _) (hP y rfl))
            obtain ⟨f0, f1, f2, f3, f4, f5⟩ := free_block6 h0b
            obtain ⟨g0, g1, g2, g3, g4, g5⟩ := of_block6 h0b
            simp only [Ans.how]
            clear hal2 h0c h1c h0b h1b hb1 hw1 hP Hnext IX2 Hend Hst2 Hbb a0 a1 a2 a3 a4 a5 y0 y1 y2 y3 y4 y5
            go_wp2_with fail
            go_roundw
            case rel => exact Hn.out
            case measure => simp [intOf]; omega
          | raises =>
            have he := Hend.out (fun x e => by rw [Hst2.out] at e; cases e)
            rw [Hst2.out] at he
            have Hset := Lib.hid fun (_ : True) => (set_alloc h1b (.int .i64 0) (.int .i64 0) (.string ⟨#[]⟩) (.slice none 0 0) (.slice none 0 0) (.slice none 0 0) (.cells #[.int .i64 k1, .int .i64 x1, .string t1, .slice la1 nl1 cl1, .slice ka1 nk1 ck1, .slice va1 nv1 cv1] 26))
            have Hans := Lib.hid (ansV_made (a := pathA v p) (w0 := w0) (B := B) (k := 0) (h := 0) (t := ⟨#[]⟩) (la := none) (ka := none) (va := none) (nl := 0) (cl := 0) (nk := 0) (ck := 0) (nv := 0) (cv := 0) (below_set_alloc hb1 (z := w.heap.size + 1) (by omega) (by omega) (.int .i64 0) (.int .i64 0) (.string ⟨#[]⟩) (.slice none 0 0) (.slice none 0 0) (.slice none 0 0) (.cells #[.int .i64 k1, .int .i64 x1, .string t1, .slice la1 nl1 cl1, .slice ka1 nk1 ck1, .slice va1 nv1 cv1] 26)) (fun x e => by rw [he] at e; cases e))
            rw [show (pathA v p).how = 1 by rw [he]; rfl] at Hans
            obtain ⟨f0, f1, f2, f3, f4, f5⟩ := free_block6 h1b
            obtain ⟨g0, g1, g2, g3, g4, g5⟩ := of_block6 h1b
            simp only [Ans.how]
            clear hal2 h0c h1c h0b h1b hb1 hw1 hP Hnext IX2 Hend Hst2 Hbb he a0 a1 a2 a3 a4 a5 y0 y1 y2 y3 y4 y5
            go_wp2_with fail
            exact bodyPost_ret (results_row_tmp (p := 4) (u := 5) (ty := 26) rfl _ _ (w.heap.size + 1) 26 _ (0, 0) _ rfl (Hset.out trivial) Tryz.underlying26 rfl (by kernel_rfl)) rfl Hans.out
          | silent =>
            have he := Hend.out (fun x e => by rw [Hst2.out] at e; cases e)
            rw [Hst2.out] at he
            have Hset := Lib.hid fun (_ : True) => (set_alloc h1b (.int .i64 0) (.int .i64 0) (.string ⟨#[]⟩) (.slice none 0 0) (.slice none 0 0) (.slice none 0 0) (.cells #[.int .i64 k1, .int .i64 x1, .string t1, .slice la1 nl1 cl1, .slice ka1 nk1 ck1, .slice va1 nv1 cv1] 26))
            have Hans := Lib.hid (ansV_made (a := pathA v p) (w0 := w0) (B := B) (k := 0) (h := 0) (t := ⟨#[]⟩) (la := none) (ka := none) (va := none) (nl := 0) (cl := 0) (nk := 0) (ck := 0) (nv := 0) (cv := 0) (below_set_alloc hb1 (z := w.heap.size + 1) (by omega) (by omega) (.int .i64 0) (.int .i64 0) (.string ⟨#[]⟩) (.slice none 0 0) (.slice none 0 0) (.slice none 0 0) (.cells #[.int .i64 k1, .int .i64 x1, .string t1, .slice la1 nl1 cl1, .slice ka1 nk1 ck1, .slice va1 nv1 cv1] 26)) (fun x e => by rw [he] at e; cases e))
            rw [show (pathA v p).how = 2 by rw [he]; rfl] at Hans
            obtain ⟨f0, f1, f2, f3, f4, f5⟩ := free_block6 h1b
            obtain ⟨g0, g1, g2, g3, g4, g5⟩ := of_block6 h1b
            simp only [Ans.how]
            clear hal2 h0c h1c h0b h1b hb1 hw1 hP Hnext IX2 Hend Hst2 Hbb he a0 a1 a2 a3 a4 a5 y0 y1 y2 y3 y4 y5
            go_wp2_with fail
            exact bodyPost_ret (results_row_tmp (p := 4) (u := 5) (ty := 26) rfl _ _ (w.heap.size + 1) 26 _ (0, 0) _ rfl (Hset.out trivial) Tryz.underlying26 rfl (by kernel_rfl)) rfl Hans.out
        have t0 : (k == 0) = false := by simpa using k0
        by_cases k4 : k = 4
        · by_cases k6 : k9 = 6
          · have Hst2 : Hid (st = .silent) := Lib.hid (by rw [Hst.out, if_pos ⟨k4, k6⟩])
            have he := Hend.out (fun x e => by rw [Hst2.out] at e; cases e)
            rw [Hst2.out] at he
            have Hset := Lib.hid fun (_ : True) => (set_alloc (H1w.out trivial) (.int .i64 0) (.int .i64 0) (.string ⟨#[]⟩) (.slice none 0 0) (.slice none 0 0) (.slice none 0 0) (.cells #[.int .i64 6, .int .i64 h9, .string t9, .slice la9 nl9 cl9, .slice ka9 nk9 ck9, .slice va9 nv9 cv9] 26))
            have Hans := Lib.hid (ansV_made (a := pathA v p) (w0 := w0) (B := B) (k := 0) (h := 0) (t := ⟨#[]⟩) (la := none) (ka := none) (va := none) (nl := 0) (cl := 0) (nk := 0) (ck := 0) (nv := 0) (cv := 0) (below_set_alloc hb (z := w.heap.size + 1) (by omega) (by omega) (.int .i64 0) (.int .i64 0) (.string ⟨#[]⟩) (.slice none 0 0) (.slice none 0 0) (.slice none 0 0) (.cells #[.int .i64 6, .int .i64 h9, .string t9, .slice la9 nl9 cl9, .slice ka9 nk9 ck9, .slice va9 nv9 cv9] 26)) (fun x e => by rw [he] at e; cases e))
            rw [show (pathA v p).how = 2 by rw [he]; rfl] at Hans
            obtain ⟨f0, f1, f2, f3, f4, f5⟩ := free_block6 (H1w.out trivial)
            obtain ⟨g0, g1, g2, g3, g4, g5⟩ := of_block6 (H1w.out trivial)
            subst k4 k6
            clear he Hnext IX Hend Hst Hst2 Hbb c0 k0 t0
            go_wp2_with fail
            exact bodyPost_ret (results_row_tmp (p := 4) (u := 5) (ty := 26) rfl _ _ (w.heap.size + 1) 26 _ (0, 0) _ rfl (Hset.out trivial) Tryz.underlying26 rfl (by kernel_rfl)) rfl Hans.out
          · have t6 : (k9 == 6) = false := by simpa using k6
            have IX2 := Lib.hid (IX.out (fun e => k6 e.2))
            have Hst2 : Hid (st = an) := Lib.hid (by rw [Hst.out, if_neg (fun e => k6 e.2)])
            subst k4
            clear IX Hst c0 k0 k6 t0
            go_wp2_with fail
            refine (IX2.out _ Hbb.out (by have := Hal.out.size; omega)).mono ?_
            rintro e w1 ⟨k1, x1, t1, la1, ka1, va1, nl1, cl1, nk1, ck1, nv1, cv1, rfl, hP, hw1⟩
            have hs2 := hw1.size
            rw [size_alloc1] at hs2
            have hb1 : Below w.heap.size w w1 := Hal.out.trans (hw1.mono (by rw [size_alloc1]; omega))
            have h0b := (hw1.block w.heap.size (by rw [size_alloc1]; omega)).trans (H0a.out trivial)
            have h1b := (hw1.block (w.heap.size + 1) (by rw [size_alloc1]; omega)).trans (H1a.out trivial)
            have hal2 := keep_alloc hb1 hb1.size (.cells #[.int .i64 k1, .int .i64 x1, .string t1, .slice la1 nl1 cl1, .slice ka1 nk1 ck1, .slice va1 nv1 cv1] 26)
            have h0c := (heap_alloc_old w1 (.cells #[.int .i64 k1, .int .i64 x1, .string t1, .slice la1 nl1 cl1, .slice ka1 nk1 ck1, .slice va1 nv1 cv1] 26) (k := w.heap.size) (by omega)).trans h0b
            have h1c := (heap_alloc_old w1 (.cells #[.int .i64 k1, .int .i64 x1, .string t1, .slice la1 nl1 cl1, .slice ka1 nk1 ck1, .slice va1 nv1 cv1] 26) (k := w.heap.size + 1) (by omega)).trans h1b
            have hlt2 : ¬ (w.heap.size = w1.heap.size) := by omega
            have hlt3 : ¬ (w.heap.size + 1 = w1.heap.size) := by omega
            have hle1 : w.heap.size < w1.heap.size := by omega
            have hle2 : w.heap.size + 1 < w1.heap.size := by omega
            cases an with
            | fine y =>
              have Hn := Lib.hid (Hnext.out y k1 x1 t1 la1 ka1 va1 nl1 cl1 nk1 ck1 nv1 cv1 _ Hst2.out (below_set_alloc hb1 (Nat.le_refl _) (by omega) _ _ _ _ _ _ _) (set_alloc h0b (.int .i64 k1) (.int .i64 x1) (.string t1) (.slice la1 nl1 cl1) (.slice ka1 nk1 ck1) (.slice va1 nv1 cv1) (.cells #[.int .i64 k1, .int .i64 x1, .string t1, .slice la1 nl1 cl1, .slice ka1 nk1 ck1, .slice va1 nv1 cv1] 26)) (set_alloc_other h1b (by omega) _ _ _ _ _ _ _) (hP y rfl))
              obtain ⟨f0, f1, f2, f3, f4, f5⟩ := free_block6 h0b
              obtain ⟨g0, g1, g2, g3, g4, g5⟩ := of_block6 h0b
              simp only [Ans.how]
              clear hal2 h0c h1c h0b h1b hb1 hw1 hP Hnext IX2 Hend Hst2 Hbb a0 a1 a2 a3 a4 a5 y0 y1 y2 y3 y4 y5
              go_wp2_with fail
              go_roundw
              case rel => exact Hn.out
              case measure => simp [intOf]; omega
            | raises =>
              have he := Hend.out (fun x e => by rw [Hst2.out] at e; cases e)
              rw [Hst2.out] at he
              have Hset := Lib.hid fun (_ : True) => (set_alloc h1b (.int .i64 0) (.int .i64 0) (.string ⟨#[]⟩) (.slice none 0 0) (.slice none 0 0) (.slice none 0 0) (.cells #[.int .i64 k1, .int .i64 x1, .string t1, .slice la1 nl1 cl1, .slice ka1 nk1 ck1, .slice va1 nv1 cv1] 26))
              have Hans := Lib.hid (ansV_made (a := pathA v p) (w0 := w0) (B := B) (k := 0) (h := 0) (t := ⟨#[]⟩) (la := none) (ka := none) (va := none) (nl := 0) (cl := 0) (nk := 0) (ck := 0) (nv := 0) (cv := 0) (below_set_alloc hb1 (z := w.heap.size + 1) (by omega) (by omega) (.int .i64 0) (.int .i64 0) (.string ⟨#[]⟩) (.slice none 0 0) (.slice none 0 0) (.slice none 0 0) (.cells #[.int .i64 k1, .int .i64 x1, .string t1, .slice la1 nl1 cl1, .slice ka1 nk1 ck1, .slice va1 nv1 cv1] 26)) (fun x e => by rw [he] at e; cases e))
              rw [show (pathA v p).how = 1 by rw [he]; rfl] at Hans
              obtain ⟨f0, f1, f2, f3, f4, f5⟩ := free_block6 h1b
              obtain ⟨g0, g1, g2, g3, g4, g5⟩ := of_block6 h1b
              simp only [Ans.how]
              clear hal2 h0c h1c h0b h1b hb1 hw1 hP Hnext IX2 Hend Hst2 Hbb he a0 a1 a2 a3 a4 a5 y0 y1 y2 y3 y4 y5
              go_wp2_with fail
              exact bodyPost_ret (results_row_tmp (p := 4) (u := 5) (ty := 26) rfl _ _ (w.heap.size + 1) 26 _ (0, 0) _ rfl (Hset.out trivial) Tryz.underlying26 rfl (by kernel_rfl)) rfl Hans.out
            | silent =>
              have he := Hend.out (fun x e => by rw [Hst2.out] at e; cases e)
              rw [Hst2.out] at he
              have Hset := Lib.hid fun (_ : True) => (set_alloc h1b (.int .i64 0) (.int .i64 0) (.string ⟨#[]⟩) (.slice none 0 0) (.slice none 0 0) (.slice none 0 0) (.cells #[.int .i64 k1, .int .i64 x1, .string t1, .slice la1 nl1 cl1, .slice ka1 nk1 ck1, .slice va1 nv1 cv1] 26))
              have Hans := Lib.hid (ansV_made (a := pathA v p) (w0 := w0) (B := B) (k := 0) (h := 0) (t := ⟨#[]⟩) (la := none) (ka := none) (va := none) (nl := 0) (cl := 0) (nk := 0) (ck := 0) (nv := 0) (cv := 0) (below_set_alloc hb1 (z := w.heap.size + 1) (by omega) (by omega) (.int .i64 0) (.int .i64 0) (.string ⟨#[]⟩) (.slice none 0 0) (.slice none 0 0) (.slice none 0 0) (.cells #[.int .i64 k1, .int .i64 x1, .string t1, .slice la1 nl1 cl1, .slice ka1 nk1 ck1, .slice va1 nv1 cv1] 26)) (fun x e => by rw [he] at e; cases e))
              rw [show (pathA v p).how = 2 by rw [he]; rfl] at Hans
              obtain ⟨f0, f1, f2, f3, f4, f5⟩ := free_block6 h1b
              obtain ⟨g0, g1, g2, g3, g4, g5⟩ := of_block6 h1b
              simp only [Ans.how]
              clear hal2 h0c h1c h0b h1b hb1 hw1 hP Hnext IX2 Hend Hst2 Hbb he a0 a1 a2 a3 a4 a5 y0 y1 y2 y3 y4 y5
              go_wp2_with fail
              exact bodyPost_ret (results_row_tmp (p := 4) (u := 5) (ty := 26) rfl _ _ (w.heap.size + 1) 26 _ (0, 0) _ rfl (Hset.out trivial) Tryz.underlying26 rfl (by kernel_rfl)) rfl Hans.out
        have t4 : (k == 4) = false := by simpa using k4
        have IX2 := Lib.hid (IX.out (fun e => k4 e.1))
        have Hst2 : Hid (st = an) := Lib.hid (by rw [Hst.out, if_neg (fun e => k4 e.1)])
        clear IX Hst c0 k0 k4
        go_wp2_with fail
        refine (IX2.out _ Hbb.out (by have := Hal.out.size; omega)).mono ?_
        rintro e w1 ⟨k1, x1, t1, la1, ka1, va1, nl1, cl1, nk1, ck1, nv1, cv1, rfl, hP, hw1⟩
        have hs2 := hw1.size
        rw [size_alloc1] at hs2
        have hb1 : Below w.heap.size w w1 := Hal.out.trans (hw1.mono (by rw [size_alloc1]; omega))
        have h0b := (hw1.block w.heap.size (by rw [size_alloc1]; omega)).trans (H0a.out trivial)
        have h1b := (hw1.block (w.heap.size + 1) (by rw [size_alloc1]; omega)).trans (H1a.out trivial)
        have hal2 := keep_alloc hb1 hb1.size (.cells #[.int .i64 k1, .int .i64 x1, .string t1, .slice la1 nl1 cl1, .slice ka1 nk1 ck1, .slice va1 nv1 cv1] 26)
        have h0c := (heap_alloc_old w1 (.cells #[.int .i64 k1, .int .i64 x1, .string t1, .slice la1 nl1 cl1, .slice ka1 nk1 ck1, .slice va1 nv1 cv1] 26) (k := w.heap.size) (by omega)).trans h0b
        have h1c := (heap_alloc_old w1 (.cells #[.int .i64 k1, .int .i64 x1, .string t1, .slice la1 nl1 cl1, .slice ka1 nk1 ck1, .slice va1 nv1 cv1] 26) (k := w.heap.size + 1) (by omega)).trans h1b
        have hlt2 : ¬ (w.heap.size = w1.heap.size) := by omega
        have hlt3 : ¬ (w.heap.size + 1 = w1.heap.size) := by omega
        have hle1 : w.heap.size < w1.heap.size := by omega
        have hle2 : w.heap.size + 1 < w1.heap.size := by omega
        cases an with
        | fine y =>
          have Hn := Lib.hid (Hnext.out y k1 x1 t1 la1 ka1 va1 nl1 cl1 nk1 ck1 nv1 cv1 _ Hst2.out (below_set_alloc hb1 (Nat.le_refl _) (by omega) _ _ _ _ _ _ _) (set_alloc h0b (.int .i64 k1) (.int .i64 x1) (.string t1) (.slice la1 nl1 cl1) (.slice ka1 nk1 ck1) (.slice va1 nv1 cv1) (.cells #[.int .i64 k1, .int .i64 x1, .string t1, .slice la1 nl1 cl1, .slice ka1 nk1 ck1, .slice va1 nv1 cv1] 26)) (set_alloc_other h1b (by omega) _ _ _ _ _ _ _) (hP y rfl))
          obtain ⟨f0, f1, f2, f3, f4, f5⟩ := free_block6 h0b
          obtain ⟨g0, g1, g2, g3, g4, g5⟩ := of_block6 h0b
          simp only [Ans.how]
          clear hal2 h0c h1c h0b h1b hb1 hw1 hP Hnext IX2 Hend Hst2 Hbb a0 a1 a2 a3 a4 a5 y0 y1 y2 y3 y4 y5
          go_wp2_with fail
          go_roundw
          case rel => exact Hn.out
          case measure => simp [intOf]; omega
        | raises =>
          have he := Hend.out (fun x e => by rw [Hst2.out] at e; cases e)
          rw [Hst2.out] at he
          have Hset := Lib.hid fun (_ : True) => (set_alloc h1b (.int .i64 0) (.int .i64 0) (.string ⟨#[]⟩) (.slice none 0 0) (.slice none 0 0) (.slice none 0 0) (.cells #[.int .i64 k1, .int .i64 x1, .string t1, .slice la1 nl1 cl1, .slice ka1 nk1 ck1, .slice va1 nv1 cv1] 26))
          have Hans := Lib.hid (ansV_made (a := pathA v p) (w0 := w0) (B := B) (k := 0) (h := 0) (t := ⟨#[]⟩) (la := none) (ka := none) (va := none) (nl := 0) (cl := 0) (nk := 0) (ck := 0) (nv := 0) (cv := 0) (below_set_alloc hb1 (z := w.heap.size + 1) (by omega) (by omega) (.int .i64 0) (.int .i64 0) (.string ⟨#[]⟩) (.slice none 0 0) (.slice none 0 0) (.slice none 0 0) (.cells #[.int .i64 k1, .int .i64 x1, .string t1, .slice la1 nl1 cl1, .slice ka1 nk1 ck1, .slice va1 nv1 cv1] 26)) (fun x e => by rw [he] at e; cases e))
          rw [show (pathA v p).how = 1 by rw [he]; rfl] at Hans
          obtain ⟨f0, f1, f2, f3, f4, f5⟩ := free_block6 h1b
          obtain ⟨g0, g1, g2, g3, g4, g5⟩ := of_block6 h1b
          simp only [Ans.how]
          clear hal2 h0c h1c h0b h1b hb1 hw1 hP Hnext IX2 Hend Hst2 Hbb he a0 a1 a2 a3 a4 a5 y0 y1 y2 y3 y4 y5
          go_wp2_with fail
          exact bodyPost_ret (results_row_tmp (p := 4) (u := 5) (ty := 26) rfl _ _ (w.heap.size + 1) 26 _ (0, 0) _ rfl (Hset.out trivial) Tryz.underlying26 rfl (by kernel_rfl)) rfl Hans.out
        | silent =>
          have he := Hend.out (fun x e => by rw [Hst2.out] at e; cases e)
          rw [Hst2.out] at he
          have Hset := Lib.hid fun (_ : True) => (set_alloc h1b (.int .i64 0) (.int .i64 0) (.string ⟨#[]⟩) (.slice none 0 0) (.slice none 0 0) (.slice none 0 0) (.cells #[.int .i64 k1, .int .i64 x1, .string t1, .slice la1 nl1 cl1, .slice ka1 nk1 ck1, .slice va1 nv1 cv1] 26))
          have Hans := Lib.hid (ansV_made (a := pathA v p) (w0 := w0) (B := B) (k := 0) (h := 0) (t := ⟨#[]⟩) (la := none) (ka := none) (va := none) (nl := 0) (cl := 0) (nk := 0) (ck := 0) (nv := 0) (cv := 0) (below_set_alloc hb1 (z := w.heap.size + 1) (by omega) (by omega) (.int .i64 0) (.int .i64 0) (.string ⟨#[]⟩) (.slice none 0 0) (.slice none 0 0) (.slice none 0 0) (.cells #[.int .i64 k1, .int .i64 x1, .string t1, .slice la1 nl1 cl1, .slice ka1 nk1 ck1, .slice va1 nv1 cv1] 26)) (fun x e => by rw [he] at e; cases e))
          rw [show (pathA v p).how = 2 by rw [he]; rfl] at Hans
          obtain ⟨f0, f1, f2, f3, f4, f5⟩ := free_block6 h1b
          obtain ⟨g0, g1, g2, g3, g4, g5⟩ := of_block6 h1b
          simp only [Ans.how]
          clear hal2 h0c h1c h0b h1b hb1 hw1 hP Hnext IX2 Hend Hst2 Hbb he a0 a1 a2 a3 a4 a5 y0 y1 y2 y3 y4 y5
          go_wp2_with fail
          exact bodyPost_ret (results_row_tmp (p := 4) (u := 5) (ty := 26) rfl _ _ (w.heap.size + 1) 26 _ (0, 0) _ rfl (Hset.out trivial) Tryz.underlying26 rfl (by kernel_rfl)) rfl Hans.out
    · have e : n = p.length := by omega
      rw [e, List.take_length] at hpath
      have Hset := Lib.hid fun (_ : True) => (set_row6 h1 (.int .i64 k) (.int .i64 h) (.string t) (.slice la nl cl) (.slice ka nk ck) (.slice va nv cv))
      have Hans := Lib.hid (ansV_set (a := pathA v p) (w0 := w0) (B := B) (z := w.heap.size + 1) (k := k) (h := h) (t := t) (la := la) (ka := ka) (va := va) (nl := nl) (cl := cl) (nk := nk) (ck := ck) (nv := nv) (cv := cv) hb (by omega) (fun x e => by rw [hpath] at e; cases e; exact hcur))
      rw [show (pathA v p).how = 0 by rw [hpath]; rfl] at Hans
      obtain ⟨f0, f1, f2, f3, f4, f5⟩ := free_block6 h1
      obtain ⟨g0, g1, g2, g3, g4, g5⟩ := of_block6 h1
      obtain ⟨a0, a1, a2, a3, a4, a5⟩ := of_block6 h0
      clear h0 h1 hcur hpath hb
      go_wp2_with fail
      exact bodyPost_ret (results_row_tmp (p := 4) (u := 5) (ty := 26) rfl _ _ (w.heap.size + 1) 26 _ (0, 0) _ rfl (Hset.out trivial) Tryz.underlying26 rfl (by kernel_rfl)) rfl Hans.out

end Go.Proofs.YtiphcojcdegnkaaGreatDoor
