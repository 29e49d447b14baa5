/- Contract of impl.mapToGo, and of impl.toGo. -/
import Derived.Test.YtmcahfcihhddjaaGreatDoorToGo
import Derived.Test.YtmcahfcihhddjaaGreatDoorBytes
import Derived.WalkLawsBesides
namespace Go.Proofs.YtmcahfcihhddjaaGreatDoor
open Go Go.RowKit Go.Maps Go.Deep Go.WideMaps

theorem law_str : Keyed Tryz.prog 9 := string_keyed Tryz.underlying9

theorem entries_take (m : List (ByteArray × J)) (n : Nat) (hn : n < m.length) (E : Nat → Value) (x : Value) :
    entries (m.take (n + 1)) (fun i => if i = n then x else E i) = entries (m.take n) E ++ [(Lit.string m[n].1.data.toList, DataW.held x)] := by
  unfold entries
  rw [List.take_succ_eq_append_getElem hn, List.mapIdx_append]
  have hl : (m.take n).length = n := by rw [List.length_take]; omega
  congr 1
  · apply List.ext_getElem?
    intro i
    simp only [List.getElem?_mapIdx]
    by_cases hi : i < n
    · have : i ≠ n := by omega
      simp [this]
    · rw [List.getElem?_eq_none (by omega)]; rfl
  · simp [hl]

/-- The first n entries of the new map are there. -/
def MInv (H : Nat) (m : List (ByteArray × J)) (n : Nat) (wr : World) : Prop :=
  ∃ (E : Nat → Value) (F : Nat → Nat → Prop), wr.ownsMap Tryz.prog 9 heldR H n (.map (entries (m.take n) E)) ∧ (∀ i k, i < n → F i k → H < k ∧ k < wr.heap.size) ∧
    (∀ i j k, i < j → j < n → F i k → F j k → False) ∧ ∀ i (hi : i < m.length), i < n → RepJ wr (F i) m[i].2 (E i)

theorem MInv.step {H : Nat} {m : List (ByteArray × J)} {n : Nat} {wr w2 w3 : World} {x : Value} {E : Nat → Value} {F : Nat → Nat → Prop} (hH : H < wr.heap.size) (hn : n < m.length)
    (hrise : ∀ i (hi : i < n), Op.bytesLess (m[i]'(by omega)).1.data.toList m[n].1.data.toList = true)
    (hF : ∀ i k, i < n → F i k → H < k ∧ k < wr.heap.size) (hd : ∀ i j k, i < j → j < n → F i k → F j k → False) (hr : ∀ i (hi : i < m.length), i < n → RepJ wr (F i) m[i].2 (E i))
    (hb2 : Below wr.heap.size wr w2) (hx : RepJ w2 (Fresh wr.heap.size w2.heap.size) m[n].2 x)
    (hown : w3.ownsMap Tryz.prog 9 heldR H (n + 1) ((DataW.map (entries (m.take n) E)).put (.string m[n].1.data.toList) (.held x))) (hg : w2.grownBy w3 (some H)) : MInv H m (n + 1) w3 := by
  have s2 := hb2.size
  have s3 := hg.size
  refine ⟨fun i => if i = n then x else E i, fun i => if i = n then Fresh wr.heap.size w2.heap.size else F i, ?_, ?_, ?_, ?_⟩
  · rw [entries_take m n hn E x, ← put_last _ _ _ ?_]
    · exact hown
    · intro p hp
      unfold entries at hp
      rw [List.mem_mapIdx] at hp
      obtain ⟨i, hi, rfl⟩ := hp
      have hi' : i < n := by rw [List.length_take] at hi; omega
      refine ⟨_, rfl, ?_⟩
      simp only [List.getElem_take]
      exact hrise i hi'
  · intro i k hi hk
    by_cases e : i = n
    · simp only [e, if_true] at hk
      exact ⟨by have := hk.1; omega, by have := hk.2; omega⟩
    · simp only [e, if_false] at hk
      have := hF i k (by omega) hk
      omega
  · intro i j k hij hj hik hjk
    by_cases e : j = n
    · simp only [e, if_true] at hjk
      have e2 : i ≠ n := by omega
      simp only [e2, if_false] at hik
      have := hF i k (by omega) hik
      have := hjk.1
      omega
    · have e2 : i ≠ n := by omega
      simp only [e, if_false] at hjk
      simp only [e2, if_false] at hik
      exact hd i j k hij (by omega) hik hjk
  · intro i hi hin
    by_cases e : i = n
    · subst e
      simp only [if_true]
      exact hx.carry fun k hk => hg.block k hk.2 (by have := hk.1; simp; omega)
    · simp only [e, if_false]
      refine (hr i hi (by omega)).carry fun k hk => ?_
      have := hF i k (by omega) hk
      exact (hg.block k (by omega) (by simp; omega)).trans (hb2.block k this.2)

def MLoop (W : World) (H : Nat) (m : List (ByteArray × J)) (i : Value) (wr : World) : Prop :=
  ∃ n : Nat, n ≤ m.length ∧ i = .int .i64 (n : Nat) ∧ Below W.heap.size W wr ∧ H < wr.heap.size ∧ MInv H m n wr

def MapPost (w : World) (m : List (ByteArray × J)) (e : Ending) (w' : World) : Prop :=
  ∃ r, e = .returned (.tuple #[.map (some r), .bool true]) ∧ RepJ w' (Fresh w.heap.size w'.heap.size) (.obj m) (.iface 67 (.map (some r))) ∧ Below w.heap.size w w'

theorem MInv.done {H H0 : Nat} {m : List (ByteArray × J)} {wr : World} (hm : m.length ≤ 140737488351232) (hs : ∀ p ∈ m, p.1.size ≤ 140737488351232) (hH0 : H0 ≤ H) (hH : H < wr.heap.size) (h : MInv H m m.length wr) :
    RepJ wr (Fresh H0 wr.heap.size) (.obj m) (.iface 67 (.map (some H))) := by
  obtain ⟨E, F, hown, hF, hd, hr⟩ := h
  rw [List.take_length] at hown
  exact .obj E F ⟨hH0, hH⟩ ⟨_, hm, hown⟩ hs (fun i hi hk => by have := hF i H (by omega) hk; omega)
    (fun i k hi hk => by have := hF i k (by omega) hk; exact ⟨by omega, this.2⟩) (fun i j k hij hj => hd i j k hij (by omega)) (fun i hi => hr i hi hi)

theorem toJM_len (ks : List ByteArray) (vs : List V) (h : ks.length = vs.length) : (toJM ks vs).length = ks.length := by rw [toJM_eq]; simp; omega
theorem toJM_get (ks : List ByteArray) (vs : List V) (h : ks.length = vs.length) (i : Nat) (hi : i < ks.length) : (toJM ks vs)[i]'(by rw [toJM_len _ _ h]; exact hi) = (ks[i], toJ (vs[i]'(by omega))) := by simp [toJM_eq]

set_option maxHeartbeats 4000000 in
set_option maxRecDepth 100000 in
theorem map_of (w0 : World) (B : Nat) (k hf : Int) (t : ByteArray) (l : List V) (ks : List ByteArray) (vs : List V) (la ka va : Option Addr) (lc kc vc : Nat) (D : Nat → List Value)
    (hks : ks.length * 16 ≤ 140737488351232) (hs : ∀ s ∈ ks, s.size ≤ 140737488351232)
    (rise : ∀ i (hi : i + 1 < ks.length), Op.bytesLess ks[i].toList ks[i + 1].toList = true) (hlen : ks.length = vs.length)
    (ck : 0 < ks.length → ∃ b o, ka = some ⟨b, o, none⟩ ∧ b < B ∧ ∀ i (hi : i < ks.length), w0.cell? ⟨b, o + i, none⟩ = some (.string ks[i]))
    (cv : 0 < vs.length → ∃ b o, va = some ⟨b, o, none⟩ ∧ b < B ∧ ∀ i, i < vs.length → CellsAt w0 b (o + i * 6) (D i)) (rv : ∀ i (hi : i < vs.length), RepV w0 B vs[i] (D i))
    (ih : ∀ i (hi : i < vs.length), ToGoOK w0 B vs[i] (D i)) (w : World) (hbel : Below B w0 w) (hB : B ≤ w.heap.size) :
    Calls Tryz.prog 42 #[.agg #[.int .i64 k, .int .i64 hf, .string t, .slice la l.length lc, .slice ka ks.length kc, .slice va vs.length vc]] w (MapPost w (toJM ks vs)) := by
  have hmk := run_makeMap_hint (P := Tryz.prog) Tryz.underlying67 .i64 ks.length
  have Hck := Lib.hid ck; clear ck
  have Hcv := Lib.hid cv; clear cv
  have Hih := Lib.hid ih; clear ih
  obtain ⟨W, hW⟩ : ∃ W, W = w.alloc (.cells #[.int .i64 k, .int .i64 hf, .string t, .slice la l.length lc, .slice ka ks.length kc, .slice va vs.length vc] 26) := ⟨_, rfl⟩
  have hWs : W.heap.size = w.heap.size + 1 := by rw [hW]; simp
  have hbW : Below w.heap.size w W := by rw [hW]; exact below_alloc1 _ _
  have hat : W.heap[w.heap.size]? = some (.cells #[.int .i64 k, .int .i64 hf, .string t, .slice la l.length lc, .slice ka ks.length kc, .slice va vs.length vc] 26) := by rw [hW]; exact at_alloc _ _
  have boxes : ∀ wx, Below W.heap.size W wx → wx.cell? ⟨w.heap.size, 0, none⟩ = some (.int .i64 k) ∧ wx.cell? ⟨w.heap.size, 1, none⟩ = some (.int .i64 hf) ∧ wx.cell? ⟨w.heap.size, 2, none⟩ = some (.string t) ∧ wx.cell? ⟨w.heap.size, 3, none⟩ = some (.slice la l.length lc) ∧ wx.cell? ⟨w.heap.size, 4, none⟩ = some (.slice ka ks.length kc) ∧ wx.cell? ⟨w.heap.size, 5, none⟩ = some (.slice va vs.length vc) :=
    fun wx hx => of_block6 ((hx.block w.heap.size (by omega)).trans hat)
  have Hbox := Lib.hid boxes; clear boxes
  have key : ∀ wx, Below W.heap.size W wx → Below B w0 wx ∧ Below w.heap.size w wx := fun wx hx => ⟨(hbel.trans (hbW.mono hB)).trans (hx.mono (by omega)), hbW.trans (hx.mono (by omega))⟩
  have Hkey := Lib.hid key; clear key
  have HWs := Lib.hid hWs; clear hWs
  have Hlen := Lib.hid hlen
  have t0 : ((ks.length : Int) != (vs.length : Int)) = false := by rw [hlen]; simp
  clear hat hbW hbel hlen
  go_enter Tryz.func42, Tryz.ntmps42
  go_wp2_with fail
  rw [← hW, ← HWs.out]
  have HW := Lib.hid hW; clear hW
  clear t0
  obtain ⟨m, hm⟩ : ∃ m, toJM ks vs = m := ⟨_, rfl⟩
  have hml : m.length = ks.length := by rw [← hm]; exact toJM_len _ _ Hlen.out
  have Hml := Lib.hid hml; clear hml
  have hmg : ∀ i (hi : i < ks.length), m[i]'(by rw [Hml.out]; exact hi) = (ks[i], toJ (vs[i]'(by rw [← Hlen.out]; exact hi))) := by subst hm; exact toJM_get ks vs Hlen.out
  have Hmg := Lib.hid hmg; clear hmg
  have Hm := Lib.hid hm; clear hm
  have hst : MInv W.heap.size m 0 (W.alloc (.map #[] 0)) := ⟨fun _ => .nilIface, fun _ _ => False, World.ownsMap_made W _ _ _, fun _ _ h => by omega, fun _ _ _ _ h => by omega, fun _ _ h => by omega⟩
  have Hst := Lib.hid hst; clear hst
  go_loopw [23] (fun i wr => MLoop W W.heap.size m i wr) (fun i _ => ks.length - (intOf i).toNat)
  case atStart => exact ⟨0, Nat.zero_le _, rfl, below_alloc1 _ _, by simp, Hst.out⟩
  case round =>
    obtain ⟨n, hn, rfl, hb, hH, hinv⟩ := hrel
    have Hinv := Lib.hid hinv; clear hinv
    rw [Hml.out] at hn
    obtain ⟨x0, x1, x2, x3, x4, x5⟩ := Hbox.out _ hb
    by_cases hn' : n < ks.length
    · obtain ⟨kb, ko, rfl, hkb, hkc⟩ := Hck.out (by omega)
      have hnv : n < vs.length := by rw [← Hlen.out]; exact hn'
      obtain ⟨lb, lo, rfl, hlb, hcel⟩ := Hcv.out (by omega)
      obtain ⟨hb0, hb1⟩ := Hkey.out _ hb
      have cc := (hcel n hnv).below hb0 hlb
      have ih := Hih.out n hnv wr hb0 (by have := hb1.size; omega)
      obtain ⟨k', h', t', la', ka', va', nl', cl', nk', ck', nv', cv', hCn⟩ := (rv n hnv).shape
      rw [hCn] at cc ih
      obtain ⟨y0, y1, y2, y3, y4, y5⟩ := cells6 cc
      have HI := Lib.hid ih
      have k1 : wr.cell? ⟨kb, ko + n, none⟩ = some (.string ks[n]) := (hb0.cell (p := ⟨kb, ko + n, none⟩) hkb).trans (hkc n hn')
      have hksz : ks[n].size ≤ 140737488351232 := hs _ (List.getElem_mem hn')
      obtain ⟨kn, hkn⟩ : ∃ kn, ks[n] = kn := ⟨_, rfl⟩
      rw [hkn] at k1 hksz
      have Hkn := Lib.hid hkn; clear hkn
      have hkey : keyOf Tryz.prog 9 (.string kn) = some (.string kn.data.toList) := keyOf_string_mk Tryz.underlying9 (by unfold maxLen; omega)
      have Hkey2 := Lib.hid hkey; clear hkey
      by_cases hn0 : n ≤ 0
      · clear ih hCn cc hcel hkc
        go_wp2_with fail
        refine HI.out.mono ?_
        rintro e w2 ⟨x, rfl, hx, hb2⟩
        have h63 : n < maxLen := by unfold maxLen; omega
        obtain ⟨E, F, hown, hF, hd, hr⟩ := Hinv.out
        have hown2 := hown.kept (below_grown2 hb2 none) (by simp)
        have HF := Lib.hid hF; clear hF
        have Hd := Lib.hid hd; clear hd
        have Hr := Lib.hid hr; clear hr
        clear hown x0 x1 x2 x3 x4 x5 k1 y0 y1 y2 y3 y4 y5
        go_wp2_with (at_mapUpdate; refine wpList_mapUpdate_own _ rfl _ _ _ 67 rfl 9 20 law_str Tryz.underlying67 heldR W.heap.size n _ rfl hown2 h63 _ _ _ rfl rfl Hkey2.out (.held x) [] rfl ?_; intro w3 hown3 hg3)
        go_roundw
        case rel =>
          have s2 := hb2.size
          have s3 := hg3.size
          have em : m[n]'(by rw [Hml.out]; exact hn') = (kn, toJ (vs[n]'hnv)) := by rw [Hmg.out n hn', Hkn.out]
          refine ⟨n + 1, by rw [Hml.out]; omega, by go_num, hb.grown ((below_grown2 hb2 (some W.heap.size)).trans hg3) hb.size (fun k hk => by cases hk; exact Nat.le_refl _), by omega, ?_⟩
          refine MInv.step (w2 := w2) (x := x) hH (by rw [Hml.out]; exact hn') ?_ HF.out Hd.out Hr.out hb2 (by rw [em]; exact hx) (by rw [em]; exact hown3) hg3
          intro i hi
          rw [em, Hmg.out i (by omega), ← Hkn.out, ← ByteArray.toList_eq, ← ByteArray.toList_eq]
          exact rise_all ks rise n hn' i hi
        case measure => simp [intOf]; omega
      · have k2 : wr.cell? ⟨kb, ko + (n - 1), none⟩ = some (.string ks[n - 1]) := (hb0.cell (p := ⟨kb, ko + (n - 1), none⟩) hkb).trans (hkc (n - 1) (by omega))
        have hlt : Op.bytesLess ks[n - 1].toList kn.toList = true := by
          have := rise (n - 1) (by omega)
          rw [← Hkn.out]
          simpa [show n - 1 + 1 = n from by omega] using this
        generalize ks[n - 1] = pk at k2 hlt
        have t1 : (0 : Int) < (n : Int) := by omega
        clear ih hCn cc hcel hkc
        go_wp2_with fail
        refine HI.out.mono ?_
        rintro e w2 ⟨x, rfl, hx, hb2⟩
        have h63 : n < maxLen := by unfold maxLen; omega
        obtain ⟨E, F, hown, hF, hd, hr⟩ := Hinv.out
        have hown2 := hown.kept (below_grown2 hb2 none) (by simp)
        have HF := Lib.hid hF; clear hF
        have Hd := Lib.hid hd; clear hd
        have Hr := Lib.hid hr; clear hr
        clear hown k2 hlt x0 x1 x2 x3 x4 x5 k1 y0 y1 y2 y3 y4 y5
        go_wp2_with (at_mapUpdate; refine wpList_mapUpdate_own _ rfl _ _ _ 67 rfl 9 20 law_str Tryz.underlying67 heldR W.heap.size n _ rfl hown2 h63 _ _ _ rfl rfl Hkey2.out (.held x) [] rfl ?_; intro w3 hown3 hg3)
        go_roundw
        case rel =>
          have s2 := hb2.size
          have s3 := hg3.size
          have em : m[n]'(by rw [Hml.out]; exact hn') = (kn, toJ (vs[n]'hnv)) := by rw [Hmg.out n hn', Hkn.out]
          refine ⟨n + 1, by rw [Hml.out]; omega, by go_num, hb.grown ((below_grown2 hb2 (some W.heap.size)).trans hg3) hb.size (fun k hk => by cases hk; exact Nat.le_refl _), by omega, ?_⟩
          refine MInv.step (w2 := w2) (x := x) hH (by rw [Hml.out]; exact hn') ?_ HF.out Hd.out Hr.out hb2 (by rw [em]; exact hx) (by rw [em]; exact hown3) hg3
          intro i hi
          rw [em, Hmg.out i (by omega), ← Hkn.out, ← ByteArray.toList_eq, ← ByteArray.toList_eq]
          exact rise_all ks rise n hn' i hi
        case measure => simp [intOf]; omega
    · go_wp2_with fail
      have e : n = ks.length := by omega
      refine bodyPost_ret (results_tmp2 rfl _ _ _) rfl ⟨_, rfl, ?_, (Hkey.out _ hb).2⟩
      rw [Hm.out]
      refine MInv.done (by rw [Hml.out]; omega) ?_ (by rw [HWs.out]; omega) hH (by rw [Hml.out, ← e]; exact Hinv.out)
      intro p hp
      obtain ⟨i, hi, rfl⟩ := List.getElem_of_mem hp
      rw [Hmg.out i (by rw [← Hml.out]; exact hi)]
      exact hs _ (List.getElem_mem _)

end Go.Proofs.YtmcahfcihhddjaaGreatDoor
