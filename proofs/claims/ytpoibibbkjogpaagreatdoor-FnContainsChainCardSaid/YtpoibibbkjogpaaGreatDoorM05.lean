/- Contracts of spec.Fit, laws.fit, laws.zzFits1, spec.Vague. -/
/- Contract of impl.listFromGo. -/
/- Rows of impl.Value of a call's own whose elements lie in memory that came in. No function is walked here. -/
/- Small facts on worlds: blocks of twelve cells. No program in sight. -/
import Derived.Test.YtpoibibbkjogpaaGreatDoorM04
import Derived.Test.YtpoibibbkjogpaaGreatDoorM02
namespace Go.Proofs.YtpoibibbkjogpaaGreatDoor
open Go Go.RowKit

theorem TabsB.carry {w w' : World} {B : Nat} (h : TabsB w B) (hb : Below B w w') {B' : Nat} (hB : B ≤ B') : TabsB w' B' :=
  ⟨h.at hb, by have := h.2.1; omega, by have := h.2.2; omega⟩

theorem heap_alloc_old (w : World) (o : Obj) {k : Nat} (h : k < w.heap.size) : (w.alloc o).heap[k]? = w.heap[k]? := Below.heap_alloc w o k h
theorem below_alloc (w : World) (o : Obj) : Below w.heap.size w (w.alloc o) := (Below.refl _ _).alloc (Nat.le_refl _) o

set_option maxRecDepth 100000 in
theorem fit_any (w : World) (v : V) (cs : List Value) (hv : RepV w w.heap.size v cs) (hTB : TabsB w w.heap.size) :
    Calls Tryz.prog 20 #[.agg cs.toArray] w fun e w' => e = .returned (.bool (fitB v)) ∧ Below w.heap.size w w' := by
  obtain ⟨c0, c1, c2, c3, c4, c5, rfl⟩ := hv.six
  go_enter Tryz.func20, Tryz.ntmps20
  go_wp2_with fail
  have hb1 : Below w.heap.size w ((w.alloc (.cells #[c0, c1, c2, c3, c4, c5] 26)).alloc (.cells #[.int .i64 0, .int .i64 0, .bool false] 56)) :=
    ((Below.refl _ _).alloc (Nat.le_refl _) _).alloc (by simp) _
  have hl0 : LkAt ((w.alloc (.cells #[c0, c1, c2, c3, c4, c5] 26)).alloc (.cells #[.int .i64 0, .int .i64 0, .bool false] 56)) (w.heap.size + 1) ⟨0, 0, false⟩ := at_alloc2 _ _ _
  refine (value_any w w.heap.size v _ hv hTB _ _ _ 0 hb1 (by omega) hl0).mono ?_
  rintro e w2 ⟨rfl, hl, hg⟩
  have c2 := hl.c2
  have hb2 := hb1.trans (grown_below hg (B := w.heap.size) (by omega) (by simp; omega))
  go_wp2_with fail
  go_ret
  exact ⟨rfl, hb2⟩

def SomeBool (w : World) (e : Ending) (w' : World) : Prop := (∃ b : Bool, e = .returned (.bool b)) ∧ Below w.heap.size w w'

set_option maxRecDepth 100000 in
theorem zz2_any (w : World) (ks : List ByteArray) (ka : Option Addr) (kc : Nat) (hl : ks.length * 16 ≤ 140737488351232)
    (ck : 0 < ks.length → ∃ b o, ka = some ⟨b, o, none⟩ ∧ ∀ i (hi : i < ks.length), w.cell? ⟨b, o + i, none⟩ = some (.string ks[i])) :
    Calls Tryz.prog 19 #[.slice ka ks.length kc] w (SomeBool w) := by
  have Hck := Lib.hid ck; clear ck
  go_enter Tryz.func19, Tryz.ntmps19
  go_wp2_with fail
  · go_ret
    exact ⟨⟨_, rfl⟩, Below.refl _ _⟩
  · go_loop [10] (fun i => ∃ n : Nat, n ≤ ks.length ∧ i = .int .i64 (n : Nat)) (fun i => ks.length - (intOf i).toNat)
    case atStart => exact ⟨0, Nat.zero_le _, rfl⟩
    case round =>
      obtain ⟨n, hn, rfl⟩ := hrel
      by_cases hn' : n < ks.length
      · obtain ⟨b, o, rfl, hc⟩ := Hck.out (by omega)
        have c0 := hc n hn'
        generalize ks[n] = kn at c0
        clear hc
        go_wp2_with fail
        · go_ret
          exact ⟨⟨_, rfl⟩, Below.refl _ _⟩
        · go_round
          case rel => exact ⟨n + 1, by omega, by go_num⟩
          case measure => simp [intOf]; omega
      · go_wp2_with fail
        go_ret
        exact ⟨⟨_, rfl⟩, Below.refl _ _⟩

set_option maxRecDepth 100000 in
theorem zz1_any (w : World) (v : V) (cs : List Value) (hv : RepV w w.heap.size v cs) :
    Calls Tryz.prog 6 #[.agg cs.toArray] w (SomeBool w) := by
  cases hv with
  | @mk k hf t l ks vs la ka va lc kc vc C D hk hh ht hl hks hvs hs cl rl ck cv rv =>
  have hz := zz2_any (w.alloc (.cells #[.int .i64 k, .int .i64 hf, .string t, .slice la l.length lc, .slice ka ks.length kc, .slice va vs.length vc] 26)) ks ka kc hks (fun h0 => by
    obtain ⟨b, o, e, hb, hc⟩ := ck h0
    exact ⟨b, o, e, fun i hi => ((below_alloc1 w _).cell (p := ⟨b, o + i, none⟩) hb).trans (hc i hi)⟩)
  have HZ := Lib.hid hz; clear hz
  clear cl rl ck cv rv hs
  go_enter Tryz.func6, Tryz.ntmps6
  go_wp2_with fail
  · refine bodyPost_ret (results_tmp rfl _ _ _) rfl ⟨⟨_, rfl⟩, below_alloc1 _ _⟩
  · refine bodyPost_ret (results_tmp rfl _ _ _) rfl ⟨⟨_, rfl⟩, below_alloc1 _ _⟩
  · refine HZ.out.mono ?_
    rintro e w2 ⟨⟨bb, rfl⟩, hb2⟩
    have hb3 := below_next (below_alloc1 w _) hb2
    obtain ⟨e0, e1, e2, e3, e4, e5⟩ := of_block6 ((hb2.block w.heap.size (by simp)).trans (at_alloc _ _))
    cases bb
    · go_wp2_with fail
      refine bodyPost_ret (results_tmp rfl _ _ _) rfl ⟨⟨_, rfl⟩, hb3⟩
    · go_wp2_with fail
      all_goals refine bodyPost_ret (results_tmp rfl _ _ _) rfl ⟨⟨_, rfl⟩, by assumption⟩

end Go.Proofs.YtpoibibbkjogpaaGreatDoor

namespace Go.Proofs.YtpoibibbkjogpaaGreatDoor
open Go Go.RowKit Go.Maps Go.Deep

def FromOK (w0 : World) (B : Nat) (v : V) (x : Value) : Prop := ∀ w, Below B w0 w → B ≤ w.heap.size → Calls Tryz.prog 33 #[x] w (FromP w v)

/-- Block b is an impl.Value of an array whose row is v. -/
def OutAt (w : World) (b : Nat) (v : Value) : Prop := w.heap[b]? = some (.cells #[.int .i64 5, .int .i64 0, .string ⟨#[]⟩, v, .slice none 0 0, .slice none 0 0] 26)

def FromLoop (w : World) (l : List V) (i : Value) (wr : World) : Prop :=
  ∃ (n : Nat) (v : Value), n ≤ l.length ∧ i = .int .i64 (n : Nat) ∧ Below w.heap.size w wr ∧ wr.heap[w.heap.size]? = some (.cells #[.int .i64 0, .int .i64 0, .string ⟨#[]⟩, .slice none 0 0, .slice none 0 0, .slice none 0 0] 26) ∧
    OutAt wr (w.heap.size + 1) v ∧ RowS wr (w.heap.size + 2) (w.heap.size + 2) v (l.take n)

theorem row_form {w : World} {base : Nat} {e : TypeId} {size : Nat} {v : Value} {n : Nat} {xs : List Value} (h : w.ownsRow base e size v n xs) : ∃ la lc, v = .slice la n lc := by
  rcases h.2 with ⟨e, h0⟩ | ⟨g, cap, cur, e, _⟩
  · exact ⟨none, 0, by rw [e, h0]⟩
  · exact ⟨_, _, e⟩

theorem out_set {w : World} {b : Nat} {v : Value} (h : OutAt w b v) (u : Value) : OutAt (w.setCell ⟨b, 3, none⟩ u) b u := heap_setCell_same _ b 3 _ _ u h

theorem RowS.below {w w' : World} {lo base : Nat} {v : Value} {l : List V} (h : RowS w lo base v l) (hb : Below w.heap.size w w') (hlo : lo ≤ base) : RowS w' lo base v l :=
  h.kept none (below_grown hb none) hlo (fun k e => by cases e)

theorem set6_other (w : World) (b k : Nat) (v0 v1 v2 v3 v4 v5 : Value) (h : k ≠ b) :
    ((((((w.setCell ⟨b, 0, none⟩ v0).setCell ⟨b, 1, none⟩ v1).setCell ⟨b, 2, none⟩ v2).setCell ⟨b, 3, none⟩ v3).setCell ⟨b, 4, none⟩ v4).setCell ⟨b, 5, none⟩ v5).heap[k]? = w.heap[k]? := by
  rw [Below.heap_setCell _ _ _ _ h, Below.heap_setCell _ _ _ _ h, Below.heap_setCell _ _ _ _ h, Below.heap_setCell _ _ _ _ h, Below.heap_setCell _ _ _ _ h, Below.heap_setCell _ _ _ _ h]
theorem set6_size (w : World) (b : Nat) (v0 v1 v2 v3 v4 v5 : Value) :
    ((((((w.setCell ⟨b, 0, none⟩ v0).setCell ⟨b, 1, none⟩ v1).setCell ⟨b, 2, none⟩ v2).setCell ⟨b, 3, none⟩ v3).setCell ⟨b, 4, none⟩ v4).setCell ⟨b, 5, none⟩ v5).heap.size = w.heap.size := by simp [World.setCell]

theorem take_snoc {l : List V} {n : Nat} (h : n < l.length) : l.take (n + 1) = l.take n ++ [l[n]] := List.take_succ_eq_append_getElem h

set_option maxHeartbeats 4000000 in
set_option maxRecDepth 100000 in
theorem listFrom_of (w0 : World) (B : Nat) (l : List V) (a : Option Addr) (c : Nat) (f : Nat → Value) (b o N : Nat) (hl : l.length * 104 ≤ 140737488351232)
    (ca : 0 < l.length → a = some ⟨b, o, none⟩ ∧ b < B ∧ w0.rowIs b 20 N f ∧ o + l.length ≤ N)
    (ih : ∀ i (hi : i < l.length), FromOK w0 B l[i] (f (o + i))) (w : World) (hbel : Below B w0 w) (hB : B ≤ w.heap.size) :
    Calls Tryz.prog 44 #[.slice a l.length c] w (FromP w (.mk 5 0 ⟨#[]⟩ l [] [])) := by
  have Hca := Lib.hid ca; clear ca
  have Hih := Lib.hid ih; clear ih
  have Hbel := Lib.hid hbel; clear hbel
  obtain ⟨i0, hi, hz0, hz1, hz2⟩ := info_parts info_value
  have s0 : FromLoop w l (.int .i64 0) ((w.alloc (.cells #[.int .i64 0, .int .i64 0, .string ⟨#[]⟩, .slice none 0 0, .slice none 0 0, .slice none 0 0] 26)).alloc
      (.cells #[.int .i64 5, .int .i64 0, .string ⟨#[]⟩, .slice none 0 0, .slice none 0 0, .slice none 0 0] 26)) :=
    ⟨0, .slice none 0 0, Nat.zero_le _, rfl, below_alloc2 _ _ _, at_alloc20 _ _ _, at_alloc2 _ _ _, RowS.nil _ _ _⟩
  have S0 := Lib.hid s0; clear s0
  go_enter Tryz.func44, Tryz.ntmps44
  go_wp2_with fail
  go_loopw [12] (fun i wr => FromLoop w l i wr) (fun i _ => l.length - (intOf i).toNat)
  case atStart => exact S0.out
  case round =>
    clear S0
    obtain ⟨n, v, hn, rfl, hb, hr0, hout, hrow⟩ := hrel
    have hsz : w.heap.size + 2 ≤ wr.heap.size := by have := (Array.getElem?_eq_some_iff.1 hout).1; omega
    by_cases hn' : n < l.length
    · obtain ⟨rfl, hbB, hro, hN⟩ := Hca.out (by omega)
      have hb0 : Below B w0 wr := Hbel.out.trans (hb.mono hB)
      have hcel : wr.cell? ⟨b, o + n, none⟩ = some (f (o + n)) := (rowIs_carry hro (hb0.block b hbB)).cell (by omega)
      have ih := Hih.out n hn' wr hb0 (by omega)
      have HI := Lib.hid ih
      have Hrow := Lib.hid hrow
      have Hout := Lib.hid hout
      have Hr0 := Lib.hid hr0
      clear ih hrow hout hr0 hb0 hro
      go_wp2_with fail
      refine HI.out.mono ?_
      rintro e w2 ⟨cs, rfl, hx, hb2⟩
      obtain ⟨k, h, t, la, ka, va, nl, cl, nk, ck, nv, cv, hcs⟩ := hx.shape
      have hx6 := hx.six
      have hx1 := hx.one
      have hs2 := hb2.size
      have hout2 : OutAt w2 (w.heap.size + 1) v := (hb2.block (w.heap.size + 1) (by omega)).trans Hout.out
      have hrow2 := Hrow.out.below hb2 (Nat.le_refl _)
      have e3 : w2.cell? ⟨w.heap.size + 1, 3, none⟩ = some v := (of_block6 hout2).2.2.2.1
      have hlt : w.heap.size + 1 < w2.heap.size := by omega
      have hne : ¬ (w.heap.size + 1 = w2.heap.size) := by omega
      -- the world behind the two boxes
      have hb4 := below_alloc2 w2 (.cells cs.toArray 26) (.cells cs.toArray 26)
      have hs4 := size_alloc2 w2 (.cells cs.toArray 26) (.cells cs.toArray 26)
      obtain ⟨C, F, hown, hr1, hF⟩ := hrow2.below hb4 (Nat.le_refl _)
      have hlen : (l.take n).length = n := by rw [List.length_take]; omega
      have hx4 := hx.carry (w' := (w2.alloc (.cells cs.toArray 26)).alloc (.cells cs.toArray 26)) (fun k hk => hb4.block k hk.2)
      have hnews := cells_new (w2.alloc (.cells cs.toArray 26)) cs 26
      rw [size_alloc1] at hnews
      have c1 : n + 1 ≤ maxLen := by unfold maxLen; omega
      have c2 : (n + 1) * 104 ≤ 140737488355328 := by omega
      have hob : ∀ g, v.ownBlock = some g → w.heap.size + 2 ≤ g ∧ g < wr.heap.size := by
        obtain ⟨C', F', hown', _⟩ := Hrow.out
        exact fun g hg => hown'.lt g hg
      have hout4 : OutAt ((w2.alloc (.cells cs.toArray 26)).alloc (.cells cs.toArray 26)) (w.heap.size + 1) v := (hb4.block (w.heap.size + 1) hlt).trans hout2
      rw [hlen] at hown
      have hnext : ∀ v' w', w'.ownsRow (w.heap.size + 2) 26 6 v' (n + 1) (flat C n ++ cs) → ((w2.alloc (.cells cs.toArray 26)).alloc (.cells cs.toArray 26)).grownBy w' v.ownBlock →
          (v'.ownBlock = v.ownBlock ∨ v'.ownBlock = some ((w2.alloc (.cells cs.toArray 26)).alloc (.cells cs.toArray 26)).heap.size) →
          OutAt w' (w.heap.size + 1) v ∧ FromLoop w l (.int .i64 ((n : Int) + 1)) (w'.setCell ⟨w.heap.size + 1, 3, none⟩ v') := by
        intro v' w' ho hg hat
        have hne1 : ∀ q, q < w.heap.size + 2 → some q ≠ v.ownBlock := fun q hq e => by have := hob q e.symm; omega
        have ho1 : OutAt w' (w.heap.size + 1) v := (hg.block _ (by rw [hs4]; omega) (hne1 _ (by omega))).trans hout4
        have hstep := RowS.step (w' := w') (l := l.take n) (x := l[n]) (v' := v') hr1 hF hx4 (fun q hq => ⟨by have := hq.1; omega, by have := hq.2; rw [hs4]; omega, fun e => by have := hob q e; have := hq.1; omega⟩)
          (by rw [hlen]; exact ho) hg hat
        rw [← take_snoc hn'] at hstep
        have hbw : Below w.heap.size w w' := by
          refine (hb.trans ((hb2.mono (by omega)).trans (hb4.mono (by omega)))).grown hg (by rw [hs4]; omega) (fun q hq => by have := hob q hq; omega)
        refine ⟨ho1, n + 1, v', by omega, rfl, hbw.setCell (by simp) _, ?_, out_set ho1 v', ?_⟩
        · rw [Below.heap_setCell _ _ _ _ (by simp)]
          exact ((hg.block _ (by rw [hs4]; omega) (hne1 _ (by omega))).trans ((hb4.block _ (by omega)).trans (hb2.block _ (by omega)))).trans Hr0.out
        · exact hstep.kept (some (w.heap.size + 1)) (grown_setCell _ _ _ _) (Nat.le_refl _) (fun q e => by cases e; omega)
      have Hnext := Lib.hid hnext
      have hbase : w.heap.size + 2 ≤ ((w2.alloc (.cells cs.toArray 26)).alloc (.cells cs.toArray 26)).heap.size := by rw [hs4]; omega
      clear hnext hr1 hF hx4 hout4 hrow2 hob hout2 hx hb4 hs4
      subst hcs
      go_wp2_with (at_builtin; go_loud (refine wpList_append_own_at _ rfl (.tmp 25) (.tmp 27) 23 rfl (w.heap.size + 2) 26 i0 _ 6 104 Tryz.underlying23 hi hz0 hz1 hz2 rfl (by decide) v n (flat C n) rfl hown _ 1 1 _ rfl hx6 hnews hx1 c1 c2 hbase ?_; intro v' w5 hown5 hg5 _ hat5; obtain ⟨hout5, hloop⟩ := Hnext.out v' w5 hown5 hg5 hat5; have e3' := (of_block6 hout5).2.2.2.1; have f3' := (free_block6 hout5).2.2.2.1; have Hloop := Lib.hid hloop; obtain ⟨la', lc', rfl⟩ := row_form hown5; clear hloop hout5 hown5 hg5 hat5))
      go_roundw
      case rel => exact Hloop.out
      case measure => simp [intOf]; omega
    · clear Hih Hca
      have e : n = l.length := by omega
      rw [e, List.take_length] at hrow
      obtain ⟨la, lc, rfl, hrep⟩ := hrow.list (Nat.le_refl _) hl
      obtain ⟨x0, x1, x2, x3, x4, x5⟩ := of_block6 hout
      obtain ⟨y0, y1, y2, y3, y4, y5⟩ := of_block6 hr0
      obtain ⟨f0, f1, f2, f3, f4, f5⟩ := free_block6 hr0
      have hfin := below_set6 hb (Nat.le_refl _) (.int .i64 5) (.int .i64 0) (.string ⟨#[]⟩) (.slice la l.length lc) (.slice none 0 0) (.slice none 0 0)
      have hset := set_row6 hr0 (.int .i64 5) (.int .i64 0) (.string ⟨#[]⟩) (.slice la l.length lc) (.slice none 0 0) (.slice none 0 0)
      have hP : FromP w (.mk 5 0 ⟨#[]⟩ l [] []) (.returned (.tuple #[.agg #[.int .i64 5, .int .i64 0, .string ⟨#[]⟩, .slice la l.length lc, .slice none 0 0, .slice none 0 0], .bool true]))
          ((((((wr.setCell ⟨w.heap.size, 0, none⟩ (.int .i64 5)).setCell ⟨w.heap.size, 1, none⟩ (.int .i64 0)).setCell ⟨w.heap.size, 2, none⟩ (.string ⟨#[]⟩)).setCell ⟨w.heap.size, 3, none⟩ (.slice la l.length lc)).setCell ⟨w.heap.size, 4, none⟩ (.slice none 0 0)).setCell ⟨w.heap.size, 5, none⟩ (.slice none 0 0)) := by
        refine ⟨_, rfl, (hrep.turn fun k hk => ⟨?_, ?_⟩), hfin⟩
        · exact set6_other _ _ _ _ _ _ _ _ _ (by omega)
        · rw [set6_size]
          exact ⟨by omega, hk.2⟩
      have HP := Lib.hid hP
      have Hset := Lib.hid hset
      clear hP hset hfin hrep hrow hout hr0 hb Hbel
      go_wp2_with fail
      exact bodyPost_ret (results_row_tmp (p := 2) (u := 3) (ty := 26) rfl _ _ w.heap.size 26 _ (0, 0) _ rfl Hset.out Tryz.underlying26 rfl (by kernel_rfl)) rfl HP.out

end Go.Proofs.YtpoibibbkjogpaaGreatDoor

namespace Go.Proofs.YtpoibibbkjogpaaGreatDoor
open Go Go.RowKit Go.Maps Go.Deep

def RowB (w : World) (B base : Nat) (v : Value) (l : List V) : Prop :=
  ∃ (C : Nat → List Value), w.ownsRow base 26 6 v l.length (flat C l.length) ∧ ∀ i (hi : i < l.length), RepV w B l[i] (C i)

theorem RowB.nil (w : World) (B base : Nat) : RowB w B base (.slice none 0 0) [] := ⟨fun _ => [], World.ownsRow_nil _ _ _ _, fun i hi => by simp at hi⟩

theorem kept_row0 {w w' : World} {base : Nat} {e : TypeId} {size : Nat} {v : Value} {n : Nat} {xs : List Value} (h : w.ownsRow base e size v n xs) (hg : w.grownBy w' none) : w'.ownsRow base e size v n xs := by
  refine h.kept hg ?_
  cases v.ownBlock <;> simp

theorem RowB.below {w w' : World} {B base : Nat} {v : Value} {l : List V} (h : RowB w B base v l) (hb : Below w.heap.size w w') (hB : B ≤ w.heap.size) : RowB w' B base v l := by
  obtain ⟨C, ho, hr⟩ := h
  exact ⟨C, kept_row0 ho (below_grown hb none), fun i hi => (hr i hi).carry (hb.mono hB) (Nat.le_refl _)⟩

theorem RowB.step {w w' : World} {B base : Nat} {v v' : Value} {l : List V} {x : V} {cs : List Value} {C : Nat → List Value}
    (hr : ∀ i (hi : i < l.length), RepV w B l[i] (C i)) (hx : RepV w B x cs) (hB : B ≤ base) (hB2 : B ≤ w.heap.size) (hv : ∀ g, v.ownBlock = some g → base ≤ g)
    (hown : w'.ownsRow base 26 6 v' (l.length + 1) (flat C l.length ++ cs)) (hg : w.grownBy w' v.ownBlock) : RowB w' B base v' (l ++ [x]) := by
  have hb : Below B w w' := (Below.refl B w).grown hg hB2 (fun q hq => by have := hv q hq; omega)
  refine ⟨fun i => if i < l.length then C i else cs, ?_, ?_⟩
  · rw [List.length_append, List.length_singleton]
    simp only [flat]
    rw [if_neg (by omega), flat_same (C' := C) (fun i hi => by rw [if_pos hi])]
    exact hown
  · intro i hi
    rw [List.length_append, List.length_singleton] at hi
    by_cases e : i < l.length
    · simp only [e, if_true]
      rw [List.getElem_append_left e]
      exact (hr i e).carry hb (Nat.le_refl _)
    · obtain rfl : i = l.length := by omega
      simp only [Nat.lt_irrefl, if_false]
      rw [List.getElem_append_right (by omega)]
      simp only [Nat.sub_self, List.getElem_cons_zero]
      exact hx.carry hb (Nat.le_refl _)

theorem RowB.parts {w : World} {B base : Nat} {v : Value} {l : List V} (h : RowB w B base v l) :
    ∃ (la : Option Addr) (lc : Nat) (C : Nat → List Value), v = .slice la l.length lc ∧
      (0 < l.length → ∃ b o, la = some ⟨b, o, none⟩ ∧ (base ≤ b ∧ b < w.heap.size) ∧ ∀ i, i < l.length → CellsAt w b (o + i * 6) (C i)) ∧
      (∀ i (hi : i < l.length), RepV w B l[i] (C i)) ∧ l.length ≤ lc := by
  obtain ⟨C, hown, hr⟩ := h
  have h6 : ∀ i, i < l.length → (C i).length = 6 := fun i hi => (hr i hi).toS.six
  rcases hown.2 with ⟨e, h0⟩ | ⟨g, cap, cur, e, hb, hg, hnc, _⟩
  · exact ⟨none, 0, C, by rw [e, h0], fun h => by omega, hr, by omega⟩
  · refine ⟨some ⟨g, 0, none⟩, cap, C, e, fun _ => ⟨g, 0, rfl, ⟨hb, (Array.getElem?_eq_some_iff.1 hg).1⟩, fun i hi j hj => ?_⟩, hr, hnc⟩
    have hj6 : j < 6 := by have := h6 i hi; omega
    have hc := hown.cells (g := g) (by rw [e]; rfl) (i * 6 + j) (C i)[j] (by rw [flat_get h6 i j hi hj6, List.getElem?_eq_getElem hj])
    rw [addr_add] at hc
    rw [Nat.zero_add]
    exact hc

theorem RowB.list {w : World} {B base : Nat} {v : Value} {l : List V} (h : RowB w B base v l) (hl : l.length * 104 ≤ 140737488351232) :
    ∃ la lc, v = .slice la l.length lc ∧ RepS w (fun k => k < B ∨ (base ≤ k ∧ k < w.heap.size)) (.mk 5 0 ⟨#[]⟩ l [] []) [.int .i64 5, .int .i64 0, .string ⟨#[]⟩, .slice la l.length lc, .slice none 0 0, .slice none 0 0] := by
  obtain ⟨la, lc, C, e, cl, rl, hlc⟩ := h.parts
  refine ⟨la, lc, e, .mk (ks := []) (vs := []) C C (by omega) (by omega) (Nat.zero_le _ : (⟨#[]⟩ : ByteArray).size ≤ _) hl (by simp) (by simp) (fun s hs => by simp at hs) (fun h0 => ?_) (fun i hi => (rl i hi).toS.mono fun k hk => .inl hk) (fun h => by simp at h) (fun h => by simp at h) (fun i hi => by simp at hi) hlc⟩
  obtain ⟨b, o, e, hb, hc⟩ := cl h0
  exact ⟨b, o, e, .inr hb, hc⟩

end Go.Proofs.YtpoibibbkjogpaaGreatDoor

namespace Go.Proofs.YtpoibibbkjogpaaGreatDoor
open Go Go.RowKit Go.Deep

theorem of_block12 {w : World} {b : Nat} {c0 c1 c2 c3 c4 c5 c6 c7 c8 c9 c10 c11 : Value} {t : TypeId} (h : w.heap[b]? = some (.cells #[c0, c1, c2, c3, c4, c5, c6, c7, c8, c9, c10, c11] t)) :
    w.cell? ⟨b, 0, none⟩ = some c0 ∧ w.cell? ⟨b, 1, none⟩ = some c1 ∧ w.cell? ⟨b, 2, none⟩ = some c2 ∧ w.cell? ⟨b, 3, none⟩ = some c3 ∧ w.cell? ⟨b, 4, none⟩ = some c4 ∧ w.cell? ⟨b, 5, none⟩ = some c5 ∧ w.cell? ⟨b, 6, none⟩ = some c6 ∧ w.cell? ⟨b, 7, none⟩ = some c7 ∧ w.cell? ⟨b, 8, none⟩ = some c8 ∧ w.cell? ⟨b, 9, none⟩ = some c9 ∧ w.cell? ⟨b, 10, none⟩ = some c10 ∧ w.cell? ⟨b, 11, none⟩ = some c11 := by
  simp [World.cell?, h]
theorem free_block12 {w : World} {b : Nat} {c0 c1 c2 c3 c4 c5 c6 c7 c8 c9 c10 c11 : Value} {t : TypeId} (h : w.heap[b]? = some (.cells #[c0, c1, c2, c3, c4, c5, c6, c7, c8, c9, c10, c11] t)) :
    w.frozen? ⟨b, 0, none⟩ = false ∧ w.frozen? ⟨b, 1, none⟩ = false ∧ w.frozen? ⟨b, 2, none⟩ = false ∧ w.frozen? ⟨b, 3, none⟩ = false ∧ w.frozen? ⟨b, 4, none⟩ = false ∧ w.frozen? ⟨b, 5, none⟩ = false ∧ w.frozen? ⟨b, 6, none⟩ = false ∧ w.frozen? ⟨b, 7, none⟩ = false ∧ w.frozen? ⟨b, 8, none⟩ = false ∧ w.frozen? ⟨b, 9, none⟩ = false ∧ w.frozen? ⟨b, 10, none⟩ = false ∧ w.frozen? ⟨b, 11, none⟩ = false := by
  simp [World.frozen?, h]
theorem set_row12 {w : World} {b : Nat} {c0 c1 c2 c3 c4 c5 c6 c7 c8 c9 c10 c11 : Value} {t : TypeId} (h : w.heap[b]? = some (.cells #[c0, c1, c2, c3, c4, c5, c6, c7, c8, c9, c10, c11] t)) (v0 v1 v2 v3 v4 v5 v6 v7 v8 v9 v10 v11 : Value) :
    ((((((((((((w.setCell ⟨b, 0, none⟩ v0).setCell ⟨b, 1, none⟩ v1).setCell ⟨b, 2, none⟩ v2).setCell ⟨b, 3, none⟩ v3).setCell ⟨b, 4, none⟩ v4).setCell ⟨b, 5, none⟩ v5).setCell ⟨b, 6, none⟩ v6).setCell ⟨b, 7, none⟩ v7).setCell ⟨b, 8, none⟩ v8).setCell ⟨b, 9, none⟩ v9).setCell ⟨b, 10, none⟩ v10).setCell ⟨b, 11, none⟩ v11).heap[b]? = some (.cells #[v0, v1, v2, v3, v4, v5, v6, v7, v8, v9, v10, v11] t) := by
  have h0 := heap_setCell_same _ b 0 _ t v0 h
  have h1 := heap_setCell_same _ b 1 _ t v1 h0
  have h2 := heap_setCell_same _ b 2 _ t v2 h1
  have h3 := heap_setCell_same _ b 3 _ t v3 h2
  have h4 := heap_setCell_same _ b 4 _ t v4 h3
  have h5 := heap_setCell_same _ b 5 _ t v5 h4
  have h6 := heap_setCell_same _ b 6 _ t v6 h5
  have h7 := heap_setCell_same _ b 7 _ t v7 h6
  have h8 := heap_setCell_same _ b 8 _ t v8 h7
  have h9 := heap_setCell_same _ b 9 _ t v9 h8
  have h10 := heap_setCell_same _ b 10 _ t v10 h9
  have h11 := heap_setCell_same _ b 11 _ t v11 h10
  simpa using h11
theorem below_set12 {a w : World} {B b : Nat} (h : Below B a w) (hb : B ≤ b) (v0 v1 v2 v3 v4 v5 v6 v7 v8 v9 v10 v11 : Value) :
    Below B a ((((((((((((w.setCell ⟨b, 0, none⟩ v0).setCell ⟨b, 1, none⟩ v1).setCell ⟨b, 2, none⟩ v2).setCell ⟨b, 3, none⟩ v3).setCell ⟨b, 4, none⟩ v4).setCell ⟨b, 5, none⟩ v5).setCell ⟨b, 6, none⟩ v6).setCell ⟨b, 7, none⟩ v7).setCell ⟨b, 8, none⟩ v8).setCell ⟨b, 9, none⟩ v9).setCell ⟨b, 10, none⟩ v10).setCell ⟨b, 11, none⟩ v11) :=
  (((((((((((h.setCell hb _).setCell hb _).setCell hb _).setCell hb _).setCell hb _).setCell hb _).setCell hb _).setCell hb _).setCell hb _).setCell hb _).setCell hb _).setCell hb _
theorem free_block2 {w : World} {b : Nat} {c0 c1 : Value} {t : TypeId} (h : w.heap[b]? = some (.cells #[c0, c1] t)) :
    w.cell? ⟨b, 0, none⟩ = some c0 ∧ w.cell? ⟨b, 1, none⟩ = some c1 ∧ w.frozen? ⟨b, 0, none⟩ = false ∧ w.frozen? ⟨b, 1, none⟩ = false := by
  simp [World.cell?, World.frozen?, h]
theorem keep_alloc {a w : World} {B : Nat} (h : Below B a w) (hB : B ≤ w.heap.size) (o : Obj) : Below B a (w.alloc o) := h.alloc hB o

end Go.Proofs.YtpoibibbkjogpaaGreatDoor
