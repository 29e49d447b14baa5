/- Contract of impl.listFromGo. -/
import Derived.Test.YtmcahfcihhddjaaGreatDoorFromGo1
import Derived.Test.YtmcahfcihhddjaaGreatDoorLook3
namespace Go.Proofs.YtmcahfcihhddjaaGreatDoor
open Go Go.RowKit Go.Maps Go.Deep

def FromOK (w0 : World) (B : Nat) (v : V) (x : Value) : Prop := ∀ w, Below B w0 w → B ≤ w.heap.size → Calls Tryz.prog 43 #[x] w (FromP w v)

/-- Block b is an impl.Value of an array whose row is v. -/
def OutAt (w : World) (b : Nat) (v : Value) : Prop := w.heap[b]? = some (.cells #[.int .i64 5, .int .i64 0, .string ⟨#[]⟩, v, .slice none 0 0, .slice none 0 0] 26)

def FromLoop (w : World) (l : List V) (i : Value) (wr : World) : Prop :=
  ∃ (n : Nat) (v : Value), n ≤ l.length ∧ i = .int .i64 (n : Nat) ∧ Below w.heap.size w wr ∧ wr.heap[w.heap.size]? = some (.cells #[.int .i64 0, .int .i64 0, .string ⟨#[]⟩, .slice none 0 0, .slice none 0 0, .slice none 0 0] 26) ∧
    OutAt wr (w.heap.size + 1) v ∧ RowS wr (w.heap.size + 2) (w.heap.size + 2) v (l.take n)

theorem row_form {w : World} {base : Nat} {e : TypeId} {size : Nat} {v : Value} {n : Nat} {xs : List Value} (h : w.ownsRow base e size v n xs) : ∃ la lc, v = .slice la n lc := by
  rcases h.2 with ⟨e, h0⟩ | ⟨g, cap, cur, e, _⟩
  · exact ⟨none, 0, by rw [e, h0]⟩
  · exact ⟨_, _, e⟩

theorem out_set {w : World} {b : Nat} {v : Value} (h : OutAt w b v) (u : Value) : OutAt (w.setCell ⟨b, 3, none⟩ u) b u := heap_setCell_same _ b 3 _ _ u h

theorem RowS.below {w w' : World} {lo base : Nat} {v : Value} {l : List V} (h : RowS w lo base v l) (hb : Below w.heap.size w w') (hlo : lo ≤ base) : RowS w' lo base v l :=
  h.kept none (below_grown hb none) hlo (fun k e => by cases e)

theorem set6_other (w : World) (b k : Nat) (v0 v1 v2 v3 v4 v5 : Value) (h : k ≠ b) :
    ((((((w.setCell ⟨b, 0, none⟩ v0).setCell ⟨b, 1, none⟩ v1).setCell ⟨b, 2, none⟩ v2).setCell ⟨b, 3, none⟩ v3).setCell ⟨b, 4, none⟩ v4).setCell ⟨b, 5, none⟩ v5).heap[k]? = w.heap[k]? := by
  rw [Below.heap_setCell _ _ _ _ h, Below.heap_setCell _ _ _ _ h, Below.heap_setCell _ _ _ _ h, Below.heap_setCell _ _ _ _ h, Below.heap_setCell _ _ _ _ h, Below.heap_setCell _ _ _ _ h]
theorem set6_size (w : World) (b : Nat) (v0 v1 v2 v3 v4 v5 : Value) :
    ((((((w.setCell ⟨b, 0, none⟩ v0).setCell ⟨b, 1, none⟩ v1).setCell ⟨b, 2, none⟩ v2).setCell ⟨b, 3, none⟩ v3).setCell ⟨b, 4, none⟩ v4).setCell ⟨b, 5, none⟩ v5).heap.size = w.heap.size := by simp [World.setCell]

theorem take_snoc {l : List V} {n : Nat} (h : n < l.length) : l.take (n + 1) = l.take n ++ [l[n]] := List.take_succ_eq_append_getElem h

set_option maxHeartbeats 4000000 in
set_option maxRecDepth 100000 in
theorem listFrom_of (w0 : World) (B : Nat) (l : List V) (a : Option Addr) (c : Nat) (f : Nat → Value) (b o N : Nat) (hl : l.length * 104 ≤ 140737488351232)
    (ca : 0 < l.length → a = some ⟨b, o, none⟩ ∧ b < B ∧ w0.rowIs b 20 N f ∧ o + l.length ≤ N)
    (ih : ∀ i (hi : i < l.length), FromOK w0 B l[i] (f (o + i))) (w : World) (hbel : Below B w0 w) (hB : B ≤ w.heap.size) :
    Calls Tryz.prog 53 #[.slice a l.length c] w (FromP w (.mk 5 0 ⟨#[]⟩ l [] [])) := by
  have Hca := Lib.hid ca; clear ca
  have Hih := Lib.hid ih; clear ih
  have Hbel := Lib.hid hbel; clear hbel
  obtain ⟨i0, hi, hz0, hz1, hz2⟩ := info_parts info_value
  have s0 : FromLoop w l (.int .i64 0) ((w.alloc (.cells #[.int .i64 0, .int .i64 0, .string ⟨#[]⟩, .slice none 0 0, .slice none 0 0, .slice none 0 0] 26)).alloc
      (.cells #[.int .i64 5, .int .i64 0, .string ⟨#[]⟩, .slice none 0 0, .slice none 0 0, .slice none 0 0] 26)) :=
    ⟨0, .slice none 0 0, Nat.zero_le _, rfl, below_alloc2 _ _ _, at_alloc20 _ _ _, at_alloc2 _ _ _, RowS.nil _ _ _⟩
  have S0 := Lib.hid s0; clear s0
  go_enter Tryz.func53, Tryz.ntmps53
  go_wp2_with fail
  go_loopw [12] (fun i wr => FromLoop w l i wr) (fun i _ => l.length - (intOf i).toNat)
  case atStart => exact S0.out
  case round =>
    clear S0
    obtain ⟨n, v, hn, rfl, hb, hr0, hout, hrow⟩ := hrel
    have hsz : w.heap.size + 2 ≤ wr.heap.size := by have := (Array.getElem?_eq_some_iff.1 hout).1; omega
    by_cases hn' : n < l.length
    · obtain ⟨rfl, hbB, hro, hN⟩ := Hca.out (by omega)
      have hb0 : Below B w0 wr := Hbel.out.trans (hb.mono hB)
      have hcel : wr.cell? ⟨b, o + n, none⟩ = some (f (o + n)) := (rowIs_carry hro (hb0.block b hbB)).cell (by omega)
      have ih := Hih.out n hn' wr hb0 (by omega)
      have HI := Lib.hid ih
      have Hrow := Lib.hid hrow
      have Hout := Lib.hid hout
      have Hr0 := Lib.hid hr0
      clear ih hrow hout hr0 hb0 hro
      go_wp2_with fail
      refine HI.out.mono ?_
      rintro e w2 ⟨cs, rfl, hx, hb2⟩
      obtain ⟨k, h, t, la, ka, va, nl, cl, nk, ck, nv, cv, hcs⟩ := hx.shape
      have hx6 := hx.six
      have hx1 := hx.one
      have hs2 := hb2.size
      have hout2 : OutAt w2 (w.heap.size + 1) v := (hb2.block (w.heap.size + 1) (by omega)).trans Hout.out
      have hrow2 := Hrow.out.below hb2 (Nat.le_refl _)
      have e3 : w2.cell? ⟨w.heap.size + 1, 3, none⟩ = some v := (of_block6 hout2).2.2.2.1
      have hlt : w.heap.size + 1 < w2.heap.size := by omega
      have hne : ¬ (w.heap.size + 1 = w2.heap.size) := by omega
      -- the world behind the two boxes
      have hb4 := below_alloc2 w2 (.cells cs.toArray 26) (.cells cs.toArray 26)
      have hs4 := size_alloc2 w2 (.cells cs.toArray 26) (.cells cs.toArray 26)
      obtain ⟨C, F, hown, hr1, hF⟩ := hrow2.below hb4 (Nat.le_refl _)
      have hlen : (l.take n).length = n := by rw [List.length_take]; omega
      have hx4 := hx.carry (w' := (w2.alloc (.cells cs.toArray 26)).alloc (.cells cs.toArray 26)) (fun k hk => hb4.block k hk.2)
      have hnews := cells_new (w2.alloc (.cells cs.toArray 26)) cs 26
      rw [size_alloc1] at hnews
      have c1 : n + 1 ≤ maxLen := by unfold maxLen; omega
      have c2 : (n + 1) * 104 ≤ 140737488355328 := by omega
      have hob : ∀ g, v.ownBlock = some g → w.heap.size + 2 ≤ g ∧ g < wr.heap.size := by
        obtain ⟨C', F', hown', _⟩ := Hrow.out
        exact fun g hg => hown'.lt g hg
      have hout4 : OutAt ((w2.alloc (.cells cs.toArray 26)).alloc (.cells cs.toArray 26)) (w.heap.size + 1) v := (hb4.block (w.heap.size + 1) hlt).trans hout2
      rw [hlen] at hown
      have hnext : ∀ v' w', w'.ownsRow (w.heap.size + 2) 26 6 v' (n + 1) (flat C n ++ cs) → ((w2.alloc (.cells cs.toArray 26)).alloc (.cells cs.toArray 26)).grownBy w' v.ownBlock →
          (v'.ownBlock = v.ownBlock ∨ v'.ownBlock = some ((w2.alloc (.cells cs.toArray 26)).alloc (.cells cs.toArray 26)).heap.size) →
          OutAt w' (w.heap.size + 1) v ∧ FromLoop w l (.int .i64 ((n : Int) + 1)) (w'.setCell ⟨w.heap.size + 1, 3, none⟩ v') := by
        intro v' w' ho hg hat
        have hne1 : ∀ q, q < w.heap.size + 2 → some q ≠ v.ownBlock := fun q hq e => by have := hob q e.symm; omega
        have ho1 : OutAt w' (w.heap.size + 1) v := (hg.block _ (by rw [hs4]; omega) (hne1 _ (by omega))).trans hout4
        have hstep := RowS.step (w' := w') (l := l.take n) (x := l[n]) (v' := v') hr1 hF hx4 (fun q hq => ⟨by have := hq.1; omega, by have := hq.2; rw [hs4]; omega, fun e => by have := hob q e; have := hq.1; omega⟩)
          (by rw [hlen]; exact ho) hg hat
        rw [← take_snoc hn'] at hstep
        have hbw : Below w.heap.size w w' := by
          refine (hb.trans ((hb2.mono (by omega)).trans (hb4.mono (by omega)))).grown hg (by rw [hs4]; omega) (fun q hq => by have := hob q hq; omega)
        refine ⟨ho1, n + 1, v', by omega, rfl, hbw.setCell (by simp) _, ?_, out_set ho1 v', ?_⟩
        · rw [Below.heap_setCell _ _ _ _ (by simp)]
          exact ((hg.block _ (by rw [hs4]; omega) (hne1 _ (by omega))).trans ((hb4.block _ (by omega)).trans (hb2.block _ (by omega)))).trans Hr0.out
        · exact hstep.kept (some (w.heap.size + 1)) (grown_setCell _ _ _ _) (Nat.le_refl _) (fun q e => by cases e; omega)
      have Hnext := Lib.hid hnext
      have hbase : w.heap.size + 2 ≤ ((w2.alloc (.cells cs.toArray 26)).alloc (.cells cs.toArray 26)).heap.size := by rw [hs4]; omega
      clear hnext hr1 hF hx4 hout4 hrow2 hob hout2 hx hb4 hs4
      subst hcs
      go_wp2_with (at_builtin; go_loud (refine wpList_append_own_at _ rfl (.tmp 25) (.tmp 27) 23 rfl (w.heap.size + 2) 26 i0 _ 6 104 Tryz.underlying23 hi hz0 hz1 hz2 rfl (by decide) v n (flat C n) rfl hown _ 1 1 _ rfl hx6 hnews hx1 c1 c2 hbase ?_; intro v' w5 hown5 hg5 _ hat5; obtain ⟨hout5, hloop⟩ := Hnext.out v' w5 hown5 hg5 hat5; have e3' := (of_block6 hout5).2.2.2.1; have f3' := (free_block6 hout5).2.2.2.1; have Hloop := Lib.hid hloop; obtain ⟨la', lc', rfl⟩ := row_form hown5; clear hloop hout5 hown5 hg5 hat5))
      go_roundw
      case rel => exact Hloop.out
      case measure => simp [intOf]; omega
    · clear Hih Hca
      have e : n = l.length := by omega
      rw [e, List.take_length] at hrow
      obtain ⟨la, lc, rfl, hrep⟩ := hrow.list (Nat.le_refl _) hl
      obtain ⟨x0, x1, x2, x3, x4, x5⟩ := of_block6 hout
      obtain ⟨y0, y1, y2, y3, y4, y5⟩ := of_block6 hr0
      obtain ⟨f0, f1, f2, f3, f4, f5⟩ := free_block6 hr0
      have hfin := below_set6 hb (Nat.le_refl _) (.int .i64 5) (.int .i64 0) (.string ⟨#[]⟩) (.slice la l.length lc) (.slice none 0 0) (.slice none 0 0)
      have hset := set_row6 hr0 (.int .i64 5) (.int .i64 0) (.string ⟨#[]⟩) (.slice la l.length lc) (.slice none 0 0) (.slice none 0 0)
      have hP : FromP w (.mk 5 0 ⟨#[]⟩ l [] []) (.returned (.tuple #[.agg #[.int .i64 5, .int .i64 0, .string ⟨#[]⟩, .slice la l.length lc, .slice none 0 0, .slice none 0 0], .bool true]))
          ((((((wr.setCell ⟨w.heap.size, 0, none⟩ (.int .i64 5)).setCell ⟨w.heap.size, 1, none⟩ (.int .i64 0)).setCell ⟨w.heap.size, 2, none⟩ (.string ⟨#[]⟩)).setCell ⟨w.heap.size, 3, none⟩ (.slice la l.length lc)).setCell ⟨w.heap.size, 4, none⟩ (.slice none 0 0)).setCell ⟨w.heap.size, 5, none⟩ (.slice none 0 0)) := by
        refine ⟨_, rfl, (hrep.turn fun k hk => ⟨?_, ?_⟩), hfin⟩
        · exact set6_other _ _ _ _ _ _ _ _ _ (by omega)
        · rw [set6_size]
          exact ⟨by omega, hk.2⟩
      have HP := Lib.hid hP
      have Hset := Lib.hid hset
      clear hP hset hfin hrep hrow hout hr0 hb Hbel
      go_wp2_with fail
      exact bodyPost_ret (results_row_tmp (p := 2) (u := 3) (ty := 26) rfl _ _ w.heap.size 26 _ (0, 0) _ rfl Hset.out Tryz.underlying26 rfl (by kernel_rfl)) rfl HP.out

end Go.Proofs.YtmcahfcihhddjaaGreatDoor
