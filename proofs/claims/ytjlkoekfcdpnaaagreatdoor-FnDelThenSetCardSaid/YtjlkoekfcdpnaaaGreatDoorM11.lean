/- Contract of impl.listFromGo. -/
/- The library's contracts on maps.Keys, slices.Sorted and slices.Sort at this program, laid in plain words (by the kit's lay-iter and lay-plain, names by wip/marks.py); what they give at a map that holds a tree's entries. -/
/- Contract of impl.mapFromGo: the rows that it grows. No function is walked here. -/
/- A region that draws its order: an operation that only reads may be taken first, where what it reads stands behind each operation that may come before it. (Beside the library's OrdersHeld: the condition may differ from operation to operation.) No program in sight. -/
import Derived.Test.YtjlkoekfcdpnaaaGreatDoorM10
import Derived.Shelf.SlIter.Nil
import Derived.Shelf.SortM.Plain
import Derived.Shelf.SortM.SortNone
import Derived.Ground.GgzProg
import Derived.Ground.SlgmProg
import Derived.Test.YtjlkoekfcdpnaaaGreatDoorM02
import Derived.Test.YtjlkoekfcdpnaaaGreatDoorM01
import Derived.Deep.AppendLies
import Derived.OrdersHeld
namespace Go.Proofs.YtjlkoekfcdpnaaaGreatDoor
open Go Go.RowKit Go.Maps Go.Deep
def FromOK (w0 : World) (B : Nat) (v : V) (x : Value) : Prop := ∀ w, Below B w0 w → B ≤ w.heap.size → Calls Tryz.prog 25 #[x] w (FromP w v)
/-- Block b is an impl.Value of an array whose row is v. -/
def OutAt (w : World) (b : Nat) (v : Value) : Prop := w.heap[b]? = some (.cells #[.int .i64 5, .int .i64 0, .string ⟨#[]⟩, v, .slice none 0 0, .slice none 0 0] 26)
def FromLoop (w : World) (l : List V) (i : Value) (wr : World) : Prop :=
  ∃ (n : Nat) (v : Value), n ≤ l.length ∧ i = .int .i64 (n : Nat) ∧ Below w.heap.size w wr ∧ wr.heap[w.heap.size]? = some (.cells #[.int .i64 0, .int .i64 0, .string ⟨#[]⟩, .slice none 0 0, .slice none 0 0, .slice none 0 0] 26) ∧
    OutAt wr (w.heap.size + 1) v ∧ RowS wr (w.heap.size + 2) (w.heap.size + 2) v (l.take n)
theorem row_form {w : World} {base : Nat} {e : TypeId} {size : Nat} {v : Value} {n : Nat} {xs : List Value} (h : w.ownsRow base e size v n xs) : ∃ la lc, v = .slice la n lc := by
  rcases h.2 with ⟨e, h0⟩ | ⟨g, cap, cur, e, _⟩
  · exact ⟨none, 0, by rw [e, h0]⟩
  · exact ⟨_, _, e⟩
theorem out_set {w : World} {b : Nat} {v : Value} (h : OutAt w b v) (u : Value) : OutAt (w.setCell ⟨b, 3, none⟩ u) b u := heap_setCell_same _ b 3 _ _ u h
theorem RowS.below {w w' : World} {lo base : Nat} {v : Value} {l : List V} (h : RowS w lo base v l) (hb : Below w.heap.size w w') (hlo : lo ≤ base) : RowS w' lo base v l :=
  h.kept none (below_grown hb none) hlo (fun k e => by cases e)
theorem set6_other (w : World) (b k : Nat) (v0 v1 v2 v3 v4 v5 : Value) (h : k ≠ b) :
    ((((((w.setCell ⟨b, 0, none⟩ v0).setCell ⟨b, 1, none⟩ v1).setCell ⟨b, 2, none⟩ v2).setCell ⟨b, 3, none⟩ v3).setCell ⟨b, 4, none⟩ v4).setCell ⟨b, 5, none⟩ v5).heap[k]? = w.heap[k]? := by
  rw [Below.heap_setCell _ _ _ _ h, Below.heap_setCell _ _ _ _ h, Below.heap_setCell _ _ _ _ h, Below.heap_setCell _ _ _ _ h, Below.heap_setCell _ _ _ _ h, Below.heap_setCell _ _ _ _ h]
theorem set6_size (w : World) (b : Nat) (v0 v1 v2 v3 v4 v5 : Value) :
    ((((((w.setCell ⟨b, 0, none⟩ v0).setCell ⟨b, 1, none⟩ v1).setCell ⟨b, 2, none⟩ v2).setCell ⟨b, 3, none⟩ v3).setCell ⟨b, 4, none⟩ v4).setCell ⟨b, 5, none⟩ v5).heap.size = w.heap.size := by simp [World.setCell]
theorem take_snoc {l : List V} {n : Nat} (h : n < l.length) : l.take (n + 1) = l.take n ++ [l[n]] := List.take_succ_eq_append_getElem h
set_option maxHeartbeats 4000000 in
set_option maxRecDepth 100000 in
theorem listFrom_of (w0 : World) (B : Nat) (l : List V) (a : Option Addr) (c : Nat) (f : Nat → Value) (b o N : Nat) (hl : l.length * 104 ≤ 140737488351232)
    (ca : 0 < l.length → a = some ⟨b, o, none⟩ ∧ b < B ∧ w0.rowIs b 20 N f ∧ o + l.length ≤ N)
    (ih : ∀ i (hi : i < l.length), FromOK w0 B l[i] (f (o + i))) (w : World) (hbel : Below B w0 w) (hB : B ≤ w.heap.size) :
    Calls Tryz.prog 34 #[.slice a l.length c] w (FromP w (.mk 5 0 ⟨#[]⟩ l [] [])) := by
  have Hca := Lib.hid ca; clear ca
  have Hih := Lib.hid ih; clear ih
  have Hbel := Lib.hid hbel; clear hbel
  obtain ⟨i0, hi, hz0, hz1, hz2⟩ := info_parts info_value
  have s0 : FromLoop w l (.int .i64 0) ((w.alloc (.cells #[.int .i64 0, .int .i64 0, .string ⟨#[]⟩, .slice none 0 0, .slice none 0 0, .slice none 0 0] 26)).alloc
      (.cells #[.int .i64 5, .int .i64 0, .string ⟨#[]⟩, .slice none 0 0, .slice none 0 0, .slice none 0 0] 26)) :=
    ⟨0, .slice none 0 0, Nat.zero_le _, rfl, below_alloc2 _ _ _, at_alloc20 _ _ _, at_alloc2 _ _ _, RowS.nil _ _ _⟩
  have S0 := Lib.hid s0; clear s0
  go_enter Tryz.func34, Tryz.ntmps34
  go_wp2_with fail
  go_loopw [12] (fun i wr => FromLoop w l i wr) (fun i _ => l.length - (intOf i).toNat)
  case atStart => exact S0.out
  case round =>
    clear S0
    obtain ⟨n, v, hn, rfl, hb, hr0, hout, hrow⟩ := hrel
    have hsz : w.heap.size + 2 ≤ wr.heap.size := by have := (Array.getElem?_eq_some_iff.1 hout).1; omega
    by_cases hn' : n < l.length
    · obtain ⟨rfl, hbB, hro, hN⟩ := Hca.out (by omega)
      have hb0 : Below B w0 wr := Hbel.out.trans (hb.mono hB)
      have hcel : wr.cell? ⟨b, o + n, none⟩ = some (f (o + n)) := (rowIs_carry hro (hb0.block b hbB)).cell (by omega)
      have ih := Hih.out n hn' wr hb0 (by omega)
      have HI := Lib.hid ih
      have Hrow := Lib.hid hrow
      have Hout := Lib.hid hout
      have Hr0 := Lib.hid hr0
      clear ih hrow hout hr0 hb0 hro
      go_wp2_with fail
      refine HI.out.mono ?_
      rintro e w2 ⟨cs, rfl, hx, hb2⟩
      obtain ⟨k, h, t, la, ka, va, nl, cl, nk, ck, nv, cv, hcs⟩ := hx.shape
      have hx6 := hx.six
      have hx1 := hx.one
      have hs2 := hb2.size
      have hout2 : OutAt w2 (w.heap.size + 1) v := (hb2.block (w.heap.size + 1) (by omega)).trans Hout.out
      have hrow2 := Hrow.out.below hb2 (Nat.le_refl _)
      have e3 : w2.cell? ⟨w.heap.size + 1, 3, none⟩ = some v := (of_block6 hout2).2.2.2.1
      have hlt : w.heap.size + 1 < w2.heap.size := by omega
      have hne : ¬ (w.heap.size + 1 = w2.heap.size) := by omega
      -- the world behind the two boxes
      have hb4 := below_alloc2 w2 (.cells cs.toArray 26) (.cells cs.toArray 26)
      have hs4 := size_alloc2 w2 (.cells cs.toArray 26) (.cells cs.toArray 26)
      obtain ⟨C, F, hown, hr1, hF⟩ := hrow2.below hb4 (Nat.le_refl _)
      have hlen : (l.take n).length = n := by rw [List.length_take]; omega
      have hx4 := hx.carry (w' := (w2.alloc (.cells cs.toArray 26)).alloc (.cells cs.toArray 26)) (fun k hk => hb4.block k hk.2)
      have hnews := cells_new (w2.alloc (.cells cs.toArray 26)) cs 26
      rw [size_alloc1] at hnews
      have c1 : n + 1 ≤ maxLen := by unfold maxLen; omega
      have c2 : (n + 1) * 104 ≤ 140737488355328 := by omega
      have hob : ∀ g, v.ownBlock = some g → w.heap.size + 2 ≤ g ∧ g < wr.heap.size := by
        obtain ⟨C', F', hown', _⟩ := Hrow.out
        exact fun g hg => hown'.lt g hg
      have hout4 : OutAt ((w2.alloc (.cells cs.toArray 26)).alloc (.cells cs.toArray 26)) (w.heap.size + 1) v := (hb4.block (w.heap.size + 1) hlt).trans hout2
      rw [hlen] at hown
      have hnext : ∀ v' w', w'.ownsRow (w.heap.size + 2) 26 6 v' (n + 1) (flat C n ++ cs) → ((w2.alloc (.cells cs.toArray 26)).alloc (.cells cs.toArray 26)).grownBy w' v.ownBlock →
          (v'.ownBlock = v.ownBlock ∨ v'.ownBlock = some ((w2.alloc (.cells cs.toArray 26)).alloc (.cells cs.toArray 26)).heap.size) →
          OutAt w' (w.heap.size + 1) v ∧ FromLoop w l (.int .i64 ((n : Int) + 1)) (w'.setCell ⟨w.heap.size + 1, 3, none⟩ v') := by
        intro v' w' ho hg hat
        have hne1 : ∀ q, q < w.heap.size + 2 → some q ≠ v.ownBlock := fun q hq e => by have := hob q e.symm; omega
        have ho1 : OutAt w' (w.heap.size + 1) v := (hg.block _ (by rw [hs4]; omega) (hne1 _ (by omega))).trans hout4
        have hstep := RowS.step (w' := w') (l := l.take n) (x := l[n]) (v' := v') hr1 hF hx4 (fun q hq => ⟨by have := hq.1; omega, by have := hq.2; rw [hs4]; omega, fun e => by have := hob q e; have := hq.1; omega⟩)
          (by rw [hlen]; exact ho) hg hat
        rw [← take_snoc hn'] at hstep
        have hbw : Below w.heap.size w w' := by
          refine (hb.trans ((hb2.mono (by omega)).trans (hb4.mono (by omega)))).grown hg (by rw [hs4]; omega) (fun q hq => by have := hob q hq; omega)
        refine ⟨ho1, n + 1, v', by omega, rfl, hbw.setCell (by simp) _, ?_, out_set ho1 v', ?_⟩
        · rw [Below.heap_setCell _ _ _ _ (by simp)]
          exact ((hg.block _ (by rw [hs4]; omega) (hne1 _ (by omega))).trans ((hb4.block _ (by omega)).trans (hb2.block _ (by omega)))).trans Hr0.out
        · exact hstep.kept (some (w.heap.size + 1)) (grown_setCell _ _ _ _) (Nat.le_refl _) (fun q e => by cases e; omega)
      have Hnext := Lib.hid hnext
      have hbase : w.heap.size + 2 ≤ ((w2.alloc (.cells cs.toArray 26)).alloc (.cells cs.toArray 26)).heap.size := by rw [hs4]; omega
      clear hnext hr1 hF hx4 hout4 hrow2 hob hout2 hx hb4 hs4
      subst hcs
      go_wp2_with (at_builtin; go_loud (refine wpList_append_own_at _ rfl (.tmp 25) (.tmp 27) 23 rfl (w.heap.size + 2) 26 i0 _ 6 104 Tryz.underlying23 hi hz0 hz1 hz2 rfl (by decide) v n (flat C n) rfl hown _ 1 1 _ rfl hx6 hnews hx1 c1 c2 hbase ?_; intro v' w5 hown5 hg5 _ hat5; obtain ⟨hout5, hloop⟩ := Hnext.out v' w5 hown5 hg5 hat5; have e3' := (of_block6 hout5).2.2.2.1; have f3' := (free_block6 hout5).2.2.2.1; have Hloop := Lib.hid hloop; obtain ⟨la', lc', rfl⟩ := row_form hown5; clear hloop hout5 hown5 hg5 hat5))
      go_roundw
      case rel => exact Hloop.out
      case measure => simp [intOf]; omega
    · clear Hih Hca
      have e : n = l.length := by omega
      rw [e, List.take_length] at hrow
      obtain ⟨la, lc, rfl, hrep⟩ := hrow.list (Nat.le_refl _) hl
      obtain ⟨x0, x1, x2, x3, x4, x5⟩ := of_block6 hout
      obtain ⟨y0, y1, y2, y3, y4, y5⟩ := of_block6 hr0
      obtain ⟨f0, f1, f2, f3, f4, f5⟩ := free_block6 hr0
      have hfin := below_set6 hb (Nat.le_refl _) (.int .i64 5) (.int .i64 0) (.string ⟨#[]⟩) (.slice la l.length lc) (.slice none 0 0) (.slice none 0 0)
      have hset := set_row6 hr0 (.int .i64 5) (.int .i64 0) (.string ⟨#[]⟩) (.slice la l.length lc) (.slice none 0 0) (.slice none 0 0)
      have hP : FromP w (.mk 5 0 ⟨#[]⟩ l [] []) (.returned (.tuple #[.agg #[.int .i64 5, .int .i64 0, .string ⟨#[]⟩, .slice la l.length lc, .slice none 0 0, .slice none 0 0], .bool true]))
          ((((((wr.setCell ⟨w.heap.size, 0, none⟩ (.int .i64 5)).setCell ⟨w.heap.size, 1, none⟩ (.int .i64 0)).setCell ⟨w.heap.size, 2, none⟩ (.string ⟨#[]⟩)).setCell ⟨w.heap.size, 3, none⟩ (.slice la l.length lc)).setCell ⟨w.heap.size, 4, none⟩ (.slice none 0 0)).setCell ⟨w.heap.size, 5, none⟩ (.slice none 0 0)) := by
        refine ⟨_, rfl, (hrep.turn fun k hk => ⟨?_, ?_⟩), hfin⟩
        · exact set6_other _ _ _ _ _ _ _ _ _ (by omega)
        · rw [set6_size]
          exact ⟨by omega, hk.2⟩
      have HP := Lib.hid hP
      have Hset := Lib.hid hset
      clear hP hset hfin hrep hrow hout hr0 hb Hbel
      go_wp2_with fail
      exact bodyPost_ret (results_row_tmp (p := 2) (u := 3) (ty := 26) rfl _ _ w.heap.size 26 _ (0, 0) _ rfl Hset.out Tryz.underlying26 rfl (by kernel_rfl)) rfl HP.out
end Go.Proofs.YtjlkoekfcdpnaaaGreatDoor

namespace Go.Proofs.YtjlkoekfcdpnaaaGreatDoor
open Go Go.RowKit Go.Maps Go.Sort Go.Shelf
def keysL_ren : Go.Shelf.Ren := ⟨fun | 7 => 43 | 10 => 60 | n => n, fun | 23 => 53 | 26 => 9 | 3 => 20 | 28 => 83 | 0 => 0 | 27 => 82 | 33 => 79 | 4 => 4 | n => n, fun | n => n⟩
theorem keysL : Go.Proofs.SlLaysZ.n7 Tryz.prog keysL_ren := {
  mixed := by kernel_rfl
  f7 := ⟨Tryz.f43.name, by decide, Tryz.func43.trans (congrArg some (by kernel_rfl))⟩
  f10 := ⟨Tryz.f60.name, by decide, Tryz.func60.trans (congrArg some (by kernel_rfl))⟩
  t0 := Tryz.underlying0
  a0 := Tryz.isAgg0
  z0 := Tryz.sizeOf0
  v0 := Tryz.zeroValue0
  t4 := Tryz.underlying4
  a4 := Tryz.isAgg4
  z4 := Tryz.sizeOf4
  v4 := Tryz.zeroValue4
  t23 := Tryz.underlying53
  a23 := Tryz.isAgg53
  z23 := Tryz.sizeOf53
  v23 := Tryz.zeroValue53
  t26 := Tryz.underlying9
  a26 := Tryz.isAgg9
  z26 := Tryz.sizeOf9
  v26 := Tryz.zeroValue9
  t27 := Tryz.underlying82
  a27 := Tryz.isAgg82
  z27 := Tryz.sizeOf82
  v27 := Tryz.zeroValue82
  t28 := Tryz.underlying83
  a28 := Tryz.isAgg83
  z28 := Tryz.sizeOf83
  v28 := Tryz.zeroValue83
  t33 := Tryz.underlying79
  a33 := Tryz.isAgg79
  z33 := Tryz.sizeOf79
  v33 := Tryz.zeroValue79 }
def sortedL_ren : Go.Shelf.Ren := ⟨fun | 6 => 42 | 8 => 58 | 9 => 59 | 11 => 77 | 13 => 79 | 12 => 78 | 23 => 113 | 24 => 114 | 14 => 104 | 15 => 105 | 16 => 106 | 17 => 107 | 18 => 108 | 19 => 109 | 20 => 110 | 21 => 111 | 22 => 112 | 25 => 128 | 26 => 129 | 27 => 130 | 28 => 131 | 29 => 132 | 30 => 126 | 31 => 143 | n => n, fun | 26 => 9 | 28 => 83 | 24 => 24 | 0 => 0 | 3 => 3 | 37 => 122 | 48 => 184 | 50 => 137 | 4 => 4 | 40 => 178 | 39 => 177 | 45 => 103 | 5 => 5 | 9 => 9 | 51 => 199 | 55 => 202 | 57 => 206 | 58 => 207 | 33 => 79 | n => n, fun | n => n⟩
theorem sortedL : Go.Proofs.SlLaysZ.n6 Tryz.prog sortedL_ren := {
  mixed := by kernel_rfl
  f6 := ⟨Tryz.f42.name, by decide, Tryz.func42.trans (congrArg some (by kernel_rfl))⟩
  f8 := ⟨Tryz.f58.name, by decide, Tryz.func58.trans (congrArg some (by kernel_rfl))⟩
  f11 := ⟨Tryz.f77.name, by decide, Tryz.func77.trans (congrArg some (by kernel_rfl))⟩
  t0 := Tryz.underlying0
  a0 := Tryz.isAgg0
  z0 := Tryz.sizeOf0
  v0 := Tryz.zeroValue0
  t24 := Tryz.underlying24
  a24 := Tryz.isAgg24
  z24 := Tryz.sizeOf24
  v24 := Tryz.zeroValue24
  t26 := Tryz.underlying9
  a26 := Tryz.isAgg9
  z26 := Tryz.sizeOf9
  v26 := Tryz.zeroValue9
  t28 := Tryz.underlying83
  a28 := Tryz.isAgg83
  z28 := Tryz.sizeOf83
  v28 := Tryz.zeroValue83
  i26 := by kernel_rfl }
def sortL_ren : Go.Shelf.Ren := ⟨fun | 6 => 59 | 8 => 79 | 9 => 78 | 19 => 113 | 20 => 114 | 21 => 104 | 22 => 105 | 23 => 106 | 24 => 107 | 25 => 108 | 26 => 109 | 27 => 110 | 28 => 111 | 29 => 112 | 36 => 128 | 31 => 129 | 32 => 130 | 37 => 131 | 38 => 132 | 39 => 126 | 41 => 143 | n => n, fun | 27 => 24 | 29 => 9 | 3 => 3 | 32 => 122 | 26 => 24 | 0 => 0 | 44 => 184 | 46 => 137 | 4 => 4 | 36 => 178 | 35 => 177 | 41 => 103 | 5 => 5 | 9 => 9 | 53 => 199 | 57 => 202 | 63 => 206 | 64 => 207 | n => n, fun | n => n⟩
theorem sortL : Go.Proofs.SlLaysM.n6 Tryz.prog sortL_ren := {
  mixed := by kernel_rfl
  f6 := ⟨Tryz.f59.name, by decide, Tryz.func59.trans (congrArg some (by kernel_rfl))⟩
  f8 := Tryz.func79.trans (congrArg some (by kernel_rfl))
  f9 := ⟨Tryz.f78.name, by decide, Tryz.func78.trans (congrArg some (by kernel_rfl))⟩
  f19 := Tryz.func113.trans (congrArg some (by kernel_rfl))
  f20 := Tryz.func114.trans (congrArg some (by kernel_rfl))
  f21 := ⟨Tryz.f104.name, by decide, Tryz.func104.trans (congrArg some (by kernel_rfl))⟩
  f22 := ⟨Tryz.f105.name, by decide, Tryz.func105.trans (congrArg some (by kernel_rfl))⟩
  f23 := ⟨Tryz.f106.name, by decide, Tryz.func106.trans (congrArg some (by kernel_rfl))⟩
  f24 := ⟨Tryz.f107.name, by decide, Tryz.func107.trans (congrArg some (by kernel_rfl))⟩
  f25 := ⟨Tryz.f108.name, by decide, Tryz.func108.trans (congrArg some (by kernel_rfl))⟩
  f26 := ⟨Tryz.f109.name, by decide, Tryz.func109.trans (congrArg some (by kernel_rfl))⟩
  f27 := ⟨Tryz.f110.name, by decide, Tryz.func110.trans (congrArg some (by kernel_rfl))⟩
  f28 := ⟨Tryz.f111.name, by decide, Tryz.func111.trans (congrArg some (by kernel_rfl))⟩
  f29 := ⟨Tryz.f112.name, by decide, Tryz.func112.trans (congrArg some (by kernel_rfl))⟩
  f31 := Tryz.func129.trans (congrArg some (by kernel_rfl))
  f32 := Tryz.func130.trans (congrArg some (by kernel_rfl))
  f36 := ⟨Tryz.f128.name, by decide, Tryz.func128.trans (congrArg some (by kernel_rfl))⟩
  f37 := ⟨Tryz.f131.name, by decide, Tryz.func131.trans (congrArg some (by kernel_rfl))⟩
  f38 := ⟨Tryz.f132.name, by decide, Tryz.func132.trans (congrArg some (by kernel_rfl))⟩
  f39 := ⟨Tryz.f126.name, by decide, Tryz.func126.trans (congrArg some (by kernel_rfl))⟩
  f41 := ⟨Tryz.f143.name, by decide, Tryz.func143.trans (congrArg some (by kernel_rfl))⟩
  t0 := Tryz.underlying0
  a0 := Tryz.isAgg0
  z0 := Tryz.sizeOf0
  v0 := Tryz.zeroValue0
  t3 := Tryz.underlying3
  a3 := Tryz.isAgg3
  z3 := Tryz.sizeOf3
  v3 := Tryz.zeroValue3
  t4 := Tryz.underlying4
  a4 := Tryz.isAgg4
  z4 := Tryz.sizeOf4
  v4 := Tryz.zeroValue4
  t5 := Tryz.underlying5
  a5 := Tryz.isAgg5
  z5 := Tryz.sizeOf5
  v5 := Tryz.zeroValue5
  t9 := Tryz.underlying9
  a9 := Tryz.isAgg9
  z9 := Tryz.sizeOf9
  v9 := Tryz.zeroValue9
  t26 := Tryz.underlying24
  a26 := Tryz.isAgg24
  z26 := Tryz.sizeOf24
  v26 := Tryz.zeroValue24
  t27 := Tryz.underlying24
  a27 := Tryz.isAgg24
  z27 := Tryz.sizeOf24
  v27 := Tryz.zeroValue24
  t29 := Tryz.underlying9
  a29 := Tryz.isAgg9
  z29 := Tryz.sizeOf9
  v29 := Tryz.zeroValue9
  t32 := Tryz.underlying122
  a32 := Tryz.isAgg122
  z32 := Tryz.sizeOf122
  v32 := Tryz.zeroValue122
  t35 := Tryz.underlying177
  a35 := Tryz.isAgg177
  z35 := Tryz.sizeOf177
  v35 := Tryz.zeroValue177
  t36 := Tryz.underlying178
  a36 := Tryz.isAgg178
  z36 := Tryz.sizeOf178
  v36 := Tryz.zeroValue178
  t41 := Tryz.underlying103
  a41 := Tryz.isAgg103
  z41 := Tryz.sizeOf103
  v41 := Tryz.zeroValue103
  t44 := Tryz.underlying184
  a44 := Tryz.isAgg184
  z44 := Tryz.sizeOf184
  v44 := Tryz.zeroValue184
  t46 := Tryz.underlying137
  a46 := Tryz.isAgg137
  z46 := Tryz.sizeOf137
  v46 := Tryz.zeroValue137
  t53 := Tryz.underlying199
  a53 := Tryz.isAgg199
  z53 := Tryz.sizeOf199
  v53 := Tryz.zeroValue199
  t57 := Tryz.underlying202
  a57 := Tryz.isAgg202
  z57 := Tryz.sizeOf202
  v57 := Tryz.zeroValue202
  t63 := Tryz.underlying206
  a63 := Tryz.isAgg206
  z63 := Tryz.sizeOf206
  v63 := Tryz.zeroValue206
  t64 := Tryz.underlying207
  a64 := Tryz.isAgg207
  z64 := Tryz.sizeOf207
  v64 := Tryz.zeroValue207 }
theorem sortsL (m : Nat) : AnyZ.SortsIn Tryz.prog sortedL_ren Fence.wide m :=
  ⟨fun blk off cap ss W hH hblk hsz => callsIn_wide.2 (AnyM.slices_Sort_string sortL blk off cap ss W hH hblk hsz),
   fun p cap W => callsIn_wide.2 (AnyM.slices_Sort_string_none sortL p cap W)⟩
theorem mapsKeys_any (mb : Option Nat) (w : World) : Calls Tryz.prog 43 #[.map mb] w fun e w' => e = .returned (.func (.func 60) #[] #[.pointer (some ⟨w.heap.size, 0, none⟩)]) ∧ w' = w.alloc (.cells #[.map mb] 53) :=
  (callsIn_wide (n := 5)).1 (AnyZ.keys_in keysL Fence.wide 5 trivial rfl mb w)
/-- What slices.Sorted leaves. -/
def SortedP (w : World) (P : List (List UInt8) → Prop) (e : Ending) (w' : World) : Prop :=
  ∃ (v : Value) (ss : List (List UInt8)), e = .returned v ∧ P ss ∧ w'.ownsRow w.heap.size 9 1 v ss.length ((ss.mergeSort (fun x y => decide (x ≤ y))).map encStr) ∧ Below w.heap.size w w'
set_option maxHeartbeats 1000000 in
theorem sortedKeys_any {H : Type} (b nn : Nat) (D0 : DataW H) (R : Value → Option (DataW H × List MemPlace)) (w : World) (hown : w.ownsMap Tryz.prog 9 R b nn D0) (hmax : Maps.size D0 ≤ maxLen) (hbytes : Maps.size D0 * 16 ≤ 140737488355328) :
    Calls Tryz.prog 42 #[.func (.func 60) #[] #[.pointer (some ⟨w.heap.size, 0, none⟩)]] (w.alloc (.cells #[.map (some b)] 53)) (SortedP (w.alloc (.cells #[.map (some b)] 53)) (fun ss => ss.Perm (strKeys D0))) := by
  have hbl := hown.lt
  have hseq : SeqGives Fence.wide 2 Tryz.prog 60 #[.pointer (some ⟨w.heap.size, 0, none⟩)] encStr (fun ss => ss.Perm (strKeys D0)) (Maps.size D0) (w.alloc (.cells #[.map (some b)] 53)) :=
    AnyZ.keys_gives (ρ := keysL_ren) { keysL with } Fence.wide _ trivial rfl (by omega) w.heap.size b nn D0 _ (by simp) (by simp) (by
      obtain ⟨es, clock, hb, Ft, hs, hD⟩ := hown
      exact ⟨es, clock, (Below.heap_alloc _ _ b hbl).trans hb, Ft, hs, hD⟩)
  refine ((callsIn_wide (n := 5)).1 (AnyZ.sorted_in sortedL Fence.wide 5 trivial trivial trivial trivial rfl (by omega) (sortsL _) (enters_of Tryz.func59 (by kernel_rfl) rfl) 60 #[.pointer (some ⟨w.heap.size, 0, none⟩)] trivial (enters_of Tryz.func60 (by kernel_rfl) rfl) _ _ hmax hbytes _ hseq)).mono ?_
  rintro e w' ⟨v, ss, he, hP, hrow, _, hb⟩
  exact ⟨v, ss, he, hP, hrow, hb⟩
theorem sort_perm {a b : List (List UInt8)} (h : a.Perm b) (hb : b.Pairwise fun x y => decide (x ≤ y) = true) : a.mergeSort (fun x y => decide (x ≤ y)) = b := by
  have hp : (a.mergeSort (fun x y => decide (x ≤ y))).Perm b := (List.mergeSort_perm _ _).trans h
  have hs : (a.mergeSort (fun x y => decide (x ≤ y))).Pairwise fun x y => decide (x ≤ y) = true :=
    List.pairwise_mergeSort (le := fun x y => decide (x ≤ y)) (fun x y z h1 h2 => by simp only [decide_eq_true_eq] at *; exact List.le_trans h1 h2) (fun x y => by simp only [Bool.or_eq_true, decide_eq_true_eq]; exact List.le_total x y) a
  exact hp.eq_of_pairwise (le := fun x y => decide (x ≤ y) = true) (fun x y _ _ h1 h2 => by simp only [decide_eq_true_eq] at h1 h2; exact List.le_antisymm h1 h2) hs hb
theorem strKeys_entries (m : List (ByteArray × J)) (E : Nat → Value) : strKeys (DataW.map (entries m E)) = m.map fun p => p.1.data.toList := by
  unfold strKeys entries
  apply List.ext_getElem?
  intro i
  simp only [List.getElem?_map, List.getElem?_mapIdx]
  cases m[i]? <;> rfl
theorem keys_pairwise {ks : List ByteArray} (rise : ∀ i (hi : i + 1 < ks.length), Op.bytesLess ks[i].toList ks[i + 1].toList = true) : (ks.map fun k => k.data.toList).Pairwise fun x y => decide (x ≤ y) = true := by
  rw [List.pairwise_map, List.pairwise_iff_getElem]
  intro i j hi hj hij
  have := rise_all ks rise j hj i hij
  rw [← ByteArray.toList_eq, ← ByteArray.toList_eq]
  rw [bLess_eq] at this
  simp only [decide_eq_true_eq] at this ⊢
  exact Std.le_of_lt this
theorem enc_keys (ks : List ByteArray) : (ks.map fun k => k.data.toList).map encStr = ks.map .string := by
  rw [List.map_map]
  apply List.map_congr_left
  intro k _
  rfl
end Go.Proofs.YtjlkoekfcdpnaaaGreatDoor

namespace Go.Proofs.YtjlkoekfcdpnaaaGreatDoor
open Go Go.RowKit Go.Maps Go.Deep
/-- kv is a row of the keys, vv one of the values, both of the call's own; the values lie beside both. -/
def MapRows (w : World) (lo : Nat) (kv vv : Value) (ks : List ByteArray) (vs : List V) : Prop :=
  ∃ (C : Nat → List Value) (F : Nat → Nat → Prop), w.ownsRow lo 9 1 kv ks.length (ks.map .string) ∧ w.ownsRow lo 26 6 vv vs.length (flat C vs.length) ∧ (∀ i (hi : i < vs.length), RepS w (F i) vs[i] (C i)) ∧
    (∀ i k, i < vs.length → F i k → lo ≤ k ∧ k < w.heap.size ∧ vv.ownBlock ≠ some k ∧ kv.ownBlock ≠ some k) ∧ ∀ g, kv.ownBlock = some g → vv.ownBlock ≠ some g
theorem MapRows.nil (w : World) (lo : Nat) : MapRows w lo (.slice none 0 0) (.slice none 0 0) [] [] :=
  ⟨fun _ => [], fun _ _ => False, World.ownsRow_nil _ _ _ _, World.ownsRow_nil _ _ _ _, fun i hi => by simp at hi, fun _ _ hi => by simp at hi, fun g e => by cases e⟩
theorem kept_row {w w' : World} {row : Option Nat} {base : Nat} {e : TypeId} {size : Nat} {v : Value} {n : Nat} {xs : List Value} (h : w.ownsRow base e size v n xs) (hg : w.grownBy w' row) (hr : ∀ k, row = some k → k < base) : w'.ownsRow base e size v n xs := by
  refine h.kept hg ?_
  cases hv : v.ownBlock with
  | none => exact .inl rfl
  | some b =>
    refine .inr fun e => ?_
    have := h.lt b hv
    have := hr b e.symm
    omega
theorem MapRows.kept {w w' : World} {lo : Nat} {kv vv : Value} {ks : List ByteArray} {vs : List V} (h : MapRows w lo kv vv ks vs) (row : Option Nat) (hg : w.grownBy w' row) (hr : ∀ k, row = some k → k < lo) : MapRows w' lo kv vv ks vs := by
  obtain ⟨C, F, hk, hv, hr1, hF, hd⟩ := h
  refine ⟨C, F, kept_row hk hg hr, kept_row hv hg hr, fun i hi => (hr1 i hi).carry fun k hk => ?_, fun i k hi hk => ?_, hd⟩
  · obtain ⟨h1, h2, _⟩ := hF i k hi hk
    exact hg.block k h2 (fun e => by have := hr k e.symm; omega)
  · obtain ⟨h1, h2, h3⟩ := hF i k hi hk
    exact ⟨h1, by have := hg.size; omega, h3⟩
theorem MapRows.rows {w : World} {lo : Nat} {kv vv : Value} {ks : List ByteArray} {vs : List V} (h : MapRows w lo kv vv ks vs) : w.ownsRow lo 9 1 kv ks.length (ks.map .string) ∧ RowS w lo lo vv vs := by
  obtain ⟨C, F, hk, hv, hr1, hF, _⟩ := h
  exact ⟨hk, C, F, hv, hr1, fun i k hi hk => ⟨(hF i k hi hk).1, (hF i k hi hk).2.1, (hF i k hi hk).2.2.1⟩⟩
/-- Both rows are appended to, the keys' first. -/
theorem MapRows.step {W X1 w1 X2 w5 : World} {lo : Nat} {kv vv : Value} {ks : List ByteArray} {vs : List V} {C : Nat → List Value} {F : Nat → Nat → Prop} {k : ByteArray} {x : V} {cs : List Value} {S : Nat → Prop} {g1 c1 g2 c2 : Nat}
    (hr1 : ∀ i (hi : i < vs.length), RepS W (F i) vs[i] (C i)) (hF : ∀ i k, i < vs.length → F i k → lo ≤ k ∧ k < W.heap.size ∧ vv.ownBlock ≠ some k ∧ kv.ownBlock ≠ some k) (hd : ∀ g, kv.ownBlock = some g → vv.ownBlock ≠ some g)
    (hlv : ∀ g, vv.ownBlock = some g → g < W.heap.size)
    (hx : RepS W S x cs) (hS : ∀ k, S k → lo ≤ k ∧ k < W.heap.size ∧ vv.ownBlock ≠ some k ∧ kv.ownBlock ≠ some k)
    (gx : W.grownBy X1 none) (ga : X1.grownBy w1 kv.ownBlock) (gy : w1.grownBy X2 none) (gb : X2.grownBy w5 vv.ownBlock)
    (ho1 : w1.ownsRow lo 9 1 (.slice (some ⟨g1, 0, none⟩) (ks.length + 1) c1) (ks.length + 1) (ks.map .string ++ [.string k])) (hat1 : kv.ownBlock = some g1 ∨ g1 = X1.heap.size)
    (ho2 : w5.ownsRow lo 26 6 (.slice (some ⟨g2, 0, none⟩) (vs.length + 1) c2) (vs.length + 1) (flat C vs.length ++ cs)) (hat2 : vv.ownBlock = some g2 ∨ g2 = X2.heap.size) :
    MapRows w5 lo (.slice (some ⟨g1, 0, none⟩) (ks.length + 1) c1) (.slice (some ⟨g2, 0, none⟩) (vs.length + 1) c2) (ks ++ [k]) (vs ++ [x]) := by
  have s1 := gx.size
  have s2 := ga.size
  have s3 := gy.size
  have s4 := gb.size
  have hlt1 : g1 < w1.heap.size := (ho1.lt g1 rfl).2
  have same : ∀ q, q < W.heap.size → vv.ownBlock ≠ some q → kv.ownBlock ≠ some q → w5.heap[q]? = W.heap[q]? := fun q hq h1 h2 =>
    (gb.block q (by omega) (fun e => h1 e.symm)).trans ((gy.block q (by omega) (by simp)).trans ((ga.block q (by omega) (fun e => h2 e.symm)).trans (gx.block q hq (by simp))))
  have new1 : ∀ q, q < W.heap.size → kv.ownBlock ≠ some q → g1 ≠ q := fun q hq h e => by
    rcases hat1 with h' | h'
    · exact h (by rw [h', e])
    · omega
  have new2 : ∀ q, q < W.heap.size → vv.ownBlock ≠ some q → g2 ≠ q := fun q hq h e => by
    rcases hat2 with h' | h'
    · exact h (by rw [h', e])
    · omega
  have key : ∀ q, lo ≤ q ∧ q < W.heap.size ∧ vv.ownBlock ≠ some q ∧ kv.ownBlock ≠ some q → lo ≤ q ∧ q < w5.heap.size ∧ (Value.slice (some ⟨g2, 0, none⟩) (vs.length + 1) c2).ownBlock ≠ some q ∧ (Value.slice (some ⟨g1, 0, none⟩) (ks.length + 1) c1).ownBlock ≠ some q :=
    fun q ⟨h1, h2, h3, h4⟩ => ⟨h1, by omega, by simpa [Value.ownBlock] using new2 q h2 h3, by simpa [Value.ownBlock] using new1 q h2 h4⟩
  have hne : vv.ownBlock ≠ some g1 := by
    intro e
    have hv := hlv g1 e
    rcases hat1 with h' | h'
    · exact hd g1 h' e
    · omega
  have ho1' : w5.ownsRow lo 9 1 (.slice (some ⟨g1, 0, none⟩) (ks.length + 1) c1) (ks.length + 1) (ks.map .string ++ [.string k]) :=
    (ho1.kept gy (.inr (by simp [Value.ownBlock]))).kept gb (.inr (by simp only [Value.ownBlock]; exact fun e => hne e.symm))
  have hd' : g1 ≠ g2 := by
    intro e
    rcases hat2 with h' | h'
    · exact hne (by rw [e]; exact h')
    · omega
  refine ⟨fun i => if i < vs.length then C i else cs, fun i => if i < vs.length then F i else S, ?_, ?_, ?_, ?_, ?_⟩
  · rw [List.length_append, List.length_singleton, List.map_append]
    exact ho1'
  · rw [List.length_append, List.length_singleton]
    simp only [flat]
    rw [if_neg (by omega), flat_same (C' := C) (fun i hi => by rw [if_pos hi])]
    exact ho2
  · intro i hi
    rw [List.length_append, List.length_singleton] at hi
    by_cases e : i < vs.length
    · simp only [e, if_true]
      rw [List.getElem_append_left e]
      exact (hr1 i e).carry fun q hq => same q (hF i q e hq).2.1 (hF i q e hq).2.2.1 (hF i q e hq).2.2.2
    · obtain rfl : i = vs.length := by omega
      simp only [Nat.lt_irrefl, if_false]
      rw [List.getElem_append_right (by omega)]
      simp only [Nat.sub_self, List.getElem_cons_zero]
      exact hx.carry fun q hq => same q (hS q hq).2.1 (hS q hq).2.2.1 (hS q hq).2.2.2
  · intro i q hi hq
    rw [List.length_append, List.length_singleton] at hi
    by_cases e : i < vs.length
    · simp only [e, if_true] at hq
      exact key q (hF i q e hq)
    · simp only [e, if_false] at hq
      exact key q (hS q hq)
  · intro g e
    simp only [Value.ownBlock, Option.some.injEq] at e
    subst e
    simp only [Value.ownBlock, ne_eq, Option.some.injEq]
    exact fun e => hd' e.symm
end Go.Proofs.YtjlkoekfcdpnaaaGreatDoor

namespace Go.Proofs.YtjlkoekfcdpnaaaGreatDoor
open Go
theorem set_cs {α : Type} : (∀ (a v : α) (l : List α), (a :: l).set 0 v = v :: l) ∧ ∀ (a v : α) (l : List α) (n : Nat), (a :: l).set (n + 1) v = a :: l.set n v :=
  ⟨fun _ _ _ => List.set_cons_zero, fun _ _ _ _ => List.set_cons_succ⟩
section
variable {P : Program} {ops : Array Oper} {Q : Exit → Act → World → Prop} {md : Region.Mode} {S : Nat → World → Prop} {T : World → Prop}
/-- Whatever order is picked from here on; behind operation i stands S i. -/
def wpAnyG (P : Program) (md : Region.Mode) (ops : Array Oper) (Q : Exit → Act → World → Prop) (S : Nat → World → Prop) : Nat → Array Bool → Act → World → Prop
  | 0, listed, a, w => Region.ready md ops listed = [] ∧ Q .normal a w
  | fuel + 1, listed, a, w => (Region.ready md ops listed = [] → Q .normal a w) ∧
    ∀ i, i ∈ Region.ready md ops listed → wpOp P ops Q i (fun a' w' => S i w' ∧ wpAnyG P md ops Q S fuel (listed.setIfInBounds i true) a' w') a w
theorem wpAny_of_G : ∀ (fuel : Nat) (listed : Array Bool) (a : Act) (w : World), wpAnyG P md ops Q S fuel listed a w → wpAny P md ops Q fuel listed a w := by
  intro fuel
  induction fuel with
  | zero => exact fun _ _ _ h => h
  | succ fuel ih => exact fun listed a w h => ⟨h.1, fun i hi => wpOp_mono (fun a' w' h' => ih _ a' w' h'.2) (h.2 i hi)⟩
theorem wpAnyG_first {i : Nat} {oi : Oper} {v : Value} (hi : ops[i]? = some oi) (hsel : ∀ (j : Nat) (o : Oper) cs b, ops[j]? = some o → o.op ≠ .select cs b)
    (hQ : ∀ c a w, Q (.panic c) (a.put oi.dst v) w → Q (.panic c) a w) (hTi : ∀ w, T w → S i w) :
    ∀ (fuel : Nat) (listed : Array Bool) (a : Act) (w : World),
      (∀ j oj, ops[j]? = some oj → j ≠ i → listed.getD j true = false → (∀ e ∈ oj.after, Region.binds md e = true → e.on ≠ i) → oi.apart ops oj = true ∧ ∀ w', S j w' → T w') →
      i ∈ Region.ready md ops listed → YieldsIf P ops T oi v a → T w →
      wpAnyG P md ops Q S fuel (listed.setIfInBounds i true) (a.put oi.dst v) w → wpAnyG P md ops Q S (fuel + 1) listed a w := by
  intro fuel
  induction fuel with
  | zero =>
    intro listed a w _ hr hy hT H
    refine ⟨fun h0 => absurd (h0 ▸ hr) (by simp), fun j hj => ?_⟩
    rcases Nat.decEq j i with hne | rfl
    · have := ready_mono hj hne
      rw [H.1] at this
      cases this
    · exact hy.wpOp hi hT ⟨hTi _ hT, H⟩
  | succ fuel ih =>
    intro listed a w hfree hr hy hT H
    refine ⟨fun h0 => absurd (h0 ▸ hr) (by simp), fun j hj => ?_⟩
    rcases Nat.decEq j i with hne | rfl
    · obtain ⟨hun, oj, hoj, hall⟩ := mem_ready.1 hj
      have hiun := (mem_ready.1 hr).1
      have hwait : ∀ e ∈ oj.after, Region.binds md e = true → e.on ≠ i := by
        intro e he hb heq
        have h1 := hall e he hb
        rw [heq] at h1
        by_cases hlt : i < listed.size
        · simp [hlt] at hiun h1
          rw [hiun] at h1
          cases h1
        · simp [Array.getElem?_eq_none (by omega : listed.size ≤ i)] at h1
      obtain ⟨hap, hST⟩ := hfree j oj hoj hne hun hwait
      refine wpOp_mono ?_ (wpOp_putIf hoj hap (fun cs b => hsel i oi cs b hi) (fun cs b => hsel j oj cs b hoj) hQ hy (H.2 j (ready_mono hj hne)))
      rintro a' w' ⟨hy', hS', hrest⟩
      refine ⟨hS', ih (listed.setIfInBounds j true) a' w' ?_ (ready_mono hr (fun e => hne e.symm)) hy' (hST _ hS') ?_⟩
      · intro k ok hk hki hkun hno
        refine hfree k ok hk hki ?_ hno
        rcases Nat.decEq j k with hjk | rfl
        · rw [getD_set_ne true hjk] at hkun; exact hkun
        · exact hun
      · rw [Array.setIfInBounds_comm _ _ hne]
        exact hrest
    · exact hy.wpOp hi hT ⟨hTi _ hT, H⟩
theorem wpAnyG_all {rs : List Nat} {fuel : Nat} {listed : Array Bool} {a : Act} {w : World} (hr : Region.ready md ops listed = rs) (hne : rs ≠ [])
    (h : ∀ i ∈ rs, wpOp P ops Q i (fun a' w' => S i w' ∧ wpAnyG P md ops Q S fuel (listed.setIfInBounds i true) a' w') a w) : wpAnyG P md ops Q S (fuel + 1) listed a w :=
  ⟨fun h0 => absurd (hr ▸ h0) hne, fun i hi => h i (hr ▸ hi)⟩
theorem wpAnyG_done {listed : Array Bool} {a : Act} {w : World} (hr : Region.ready md ops listed = []) (h : Q .normal a w) : wpAnyG P md ops Q S 0 listed a w := ⟨hr, h⟩
/-- The operation at place i runs to a value. -/
theorem wpOp_value {i : Nat} {o : Oper} {v : Value} {w w' : World} {a : Act} {K : Act → World → Prop} (hi : ops[i]? = some o) (hg : o.guard = none) (hrun : (execOp a.eval o).run P w = .ok (.value v) w') (h : K (a.put o.dst v) w') : wpOp P ops Q i K a w := by
  have hw : Region.wanted o (yielded ops a.tmps) = true := by simp [Region.wanted, hg]
  unfold wpOp
  simp only [hi, hw, if_true, Oper.wp, hrun, Oper.upon]
  exact .inl h
theorem wpOp_skip {i : Nat} {o : Oper} {w w' : World} {a : Act} {K : Act → World → Prop} (hi : ops[i]? = some o) (hg : o.guard = none) (hrun : (execOp a.eval o).run P w = .ok .skip w') (h : K (a.put o.dst undef) w') : wpOp P ops Q i K a w := by
  have hw : Region.wanted o (yielded ops a.tmps) = true := by simp [Region.wanted, hg]
  unfold wpOp
  simp only [hi, hw, if_true, Oper.wp, hrun, Oper.upon]
  exact .inl h
/-- Taken first, the side conditions by one look at the region's edges. -/
def freeOf (md : Region.Mode) (ops : Array Oper) (listed : Array Bool) (i : Nat) (oi : Oper) (ok : Nat → Bool) : Bool :=
  (List.range ops.size).all fun j => match ops[j]? with
    | none => true
    | some oj => j == i || listed.getD j true || oj.after.any (fun e => Region.binds md e && e.on == i) || (oi.apart ops oj && ok j)
theorem wpAnyG_take {i : Nat} {oi : Oper} {v : Value} {fuel : Nat} {listed : Array Bool} {a : Act} {w : World} (ok : Nat → Bool) (hi : ops[i]? = some oi) (hs : Region.noSelect ops = true)
    (hf : freeOf md ops listed i oi ok = true) (hr : (Region.ready md ops listed).contains i = true) (hQ : ∀ c a w, Q (.panic c) (a.put oi.dst v) w → Q (.panic c) a w)
    (hok : ∀ j, ok j = true → ∀ w', S j w' → T w') (hTi : ∀ w, T w → S i w) (hg : oi.guard = none) (hy : ∀ w', T w' → (execOp a.eval oi).run P w' = .ok (.value v) w') (hT : T w)
    (h : wpAnyG P md ops Q S fuel (listed.setIfInBounds i true) (a.put oi.dst v) w) : wpAnyG P md ops Q S (fuel + 1) listed a w := by
  refine wpAnyG_first hi (Region.noSelect_spec hs) hQ hTi fuel listed a w ?_ (by simpa using hr) (.inl ⟨by simp [Region.wanted, hg], hy⟩) hT h
  intro j oj hoj hne hun hno
  have hlt : j < ops.size := (Array.getElem?_eq_some_iff.1 hoj).1
  have := List.all_eq_true.1 hf j (by simpa using hlt)
  simp only [hoj] at this
  have e1 : (j == i) = false := by simpa using hne
  have e2 : (oj.after.any fun e => Region.binds md e && e.on == i) = false := by
    rw [Array.any_eq_false']
    intro e he hc
    simp only [Bool.and_eq_true, beq_iff_eq] at hc
    exact hno e he hc.1 hc.2
  rw [e1, hun, e2] at this
  simp only [Bool.false_or, Bool.and_eq_true] at this
  exact ⟨this.1, hok j this.2⟩
end
end Go.Proofs.YtjlkoekfcdpnaaaGreatDoor
