/- Contract of impl.mapToGo, and of impl.toGo. -/
/- Go maps that hold a tree's entries: what is read out of them. No function is walked here. -/
/- Plain: what gojq.update makes of a tree: a value set at a path of keys and places. -/
import Derived.Test.YtiphcojcdegnkaaGreatDoorM02
import Derived.WalkLawsBesides
import Derived.Test.YtiphcojcdegnkaaGreatDoorM01
import Derived.WideShapes
import Derived.Maps.Ext
import Derived.Maps.Keyed
namespace Go.Proofs.YtiphcojcdegnkaaGreatDoor
open Go Go.RowKit Go.Maps Go.Deep Go.WideMaps

theorem law_str : Keyed Tryz.prog 9 := string_keyed Tryz.underlying9

theorem entries_take (m : List (ByteArray × J)) (n : Nat) (hn : n < m.length) (E : Nat → Value) (x : Value) :
    entries (m.take (n + 1)) (fun i => if i = n then x else E i) = entries (m.take n) E ++ [(Lit.string m[n].1.data.toList, DataW.held x)] := by
  unfold entries
  rw [List.take_succ_eq_append_getElem hn, List.mapIdx_append]
  have hl : (m.take n).length = n := by rw [List.length_take]; omega
  congr 1
  · apply List.ext_getElem?
    intro i
    simp only [List.getElem?_mapIdx]
    by_cases hi : i < n
    · have : i ≠ n := by omega
      simp [this]
    · rw [List.getElem?_eq_none (by omega)]; rfl
  · simp [hl]

/-- The first n entries of the new map are there. -/
def MInv (H : Nat) (m : List (ByteArray × J)) (n : Nat) (wr : World) : Prop :=
  ∃ (E : Nat → Value) (F : Nat → Nat → Prop), wr.ownsMap Tryz.prog 9 heldR H n (.map (entries (m.take n) E)) ∧ (∀ i k, i < n → F i k → H < k ∧ k < wr.heap.size) ∧
    (∀ i j k, i < j → j < n → F i k → F j k → False) ∧ ∀ i (hi : i < m.length), i < n → RepJ wr (F i) m[i].2 (E i)

theorem MInv.step {H : Nat} {m : List (ByteArray × J)} {n : Nat} {wr w2 w3 : World} {x : Value} {E : Nat → Value} {F : Nat → Nat → Prop} (hH : H < wr.heap.size) (hn : n < m.length)
    (hrise : ∀ i (hi : i < n), Op.bytesLess (m[i]'(by omega)).1.data.toList m[n].1.data.toList = true)
    (hF : ∀ i k, i < n → F i k → H < k ∧ k < wr.heap.size) (hd : ∀ i j k, i < j → j < n → F i k → F j k → False) (hr : ∀ i (hi : i < m.length), i < n → RepJ wr (F i) m[i].2 (E i))
    (hb2 : Below wr.heap.size wr w2) (hx : RepJ w2 (Fresh wr.heap.size w2.heap.size) m[n].2 x)
    (hown : w3.ownsMap Tryz.prog 9 heldR H (n + 1) ((DataW.map (entries (m.take n) E)).put (.string m[n].1.data.toList) (.held x))) (hg : w2.grownBy w3 (some H)) : MInv H m (n + 1) w3 := by
  have s2 := hb2.size
  have s3 := hg.size
  refine ⟨fun i => if i = n then x else E i, fun i => if i = n then Fresh wr.heap.size w2.heap.size else F i, ?_, ?_, ?_, ?_⟩
  · rw [entries_take m n hn E x, ← put_last _ _ _ ?_]
    · exact hown
    · intro p hp
      unfold entries at hp
      rw [List.mem_mapIdx] at hp
      obtain ⟨i, hi, rfl⟩ := hp
      have hi' : i < n := by rw [List.length_take] at hi; omega
      refine ⟨_, rfl, ?_⟩
      simp only [List.getElem_take]
      exact hrise i hi'
  · intro i k hi hk
    by_cases e : i = n
    · simp only [e, if_true] at hk
      exact ⟨by have := hk.1; omega, by have := hk.2; omega⟩
    · simp only [e, if_false] at hk
      have := hF i k (by omega) hk
      omega
  · intro i j k hij hj hik hjk
    by_cases e : j = n
    · simp only [e, if_true] at hjk
      have e2 : i ≠ n := by omega
      simp only [e2, if_false] at hik
      have := hF i k (by omega) hik
      have := hjk.1
      omega
    · have e2 : i ≠ n := by omega
      simp only [e, if_false] at hjk
      simp only [e2, if_false] at hik
      exact hd i j k hij (by omega) hik hjk
  · intro i hi hin
    by_cases e : i = n
    · subst e
      simp only [if_true]
      exact hx.carry fun k hk => hg.block k hk.2 (by have := hk.1; simp; omega)
    · simp only [e, if_false]
      refine (hr i hi (by omega)).carry fun k hk => ?_
      have := hF i k (by omega) hk
      exact (hg.block k (by omega) (by simp; omega)).trans (hb2.block k this.2)

def MLoop (W : World) (H : Nat) (m : List (ByteArray × J)) (i : Value) (wr : World) : Prop :=
  ∃ n : Nat, n ≤ m.length ∧ i = .int .i64 (n : Nat) ∧ Below W.heap.size W wr ∧ H < wr.heap.size ∧ MInv H m n wr

def MapPost (w : World) (m : List (ByteArray × J)) (e : Ending) (w' : World) : Prop :=
  ∃ r, e = .returned (.tuple #[.map (some r), .bool true]) ∧ RepJ w' (Fresh w.heap.size w'.heap.size) (.obj m) (.iface 68 (.map (some r))) ∧ Below w.heap.size w w'

theorem MInv.done {H H0 : Nat} {m : List (ByteArray × J)} {wr : World} (hm : m.length ≤ 140737488351232) (hs : ∀ p ∈ m, p.1.size ≤ 140737488351232) (hH0 : H0 ≤ H) (hH : H < wr.heap.size) (h : MInv H m m.length wr) :
    RepJ wr (Fresh H0 wr.heap.size) (.obj m) (.iface 68 (.map (some H))) := by
  obtain ⟨E, F, hown, hF, hd, hr⟩ := h
  rw [List.take_length] at hown
  exact .obj E F ⟨hH0, hH⟩ ⟨_, hm, hown⟩ hs (fun i hi hk => by have := hF i H (by omega) hk; omega)
    (fun i k hi hk => by have := hF i k (by omega) hk; exact ⟨by omega, this.2⟩) (fun i j k hij hj => hd i j k hij (by omega)) (fun i hi => hr i hi hi)

theorem toJM_len (ks : List ByteArray) (vs : List V) (h : ks.length = vs.length) : (toJM ks vs).length = ks.length := by rw [toJM_eq]; simp; omega
theorem toJM_get (ks : List ByteArray) (vs : List V) (h : ks.length = vs.length) (i : Nat) (hi : i < ks.length) : (toJM ks vs)[i]'(by rw [toJM_len _ _ h]; exact hi) = (ks[i], toJ (vs[i]'(by omega))) := by simp [toJM_eq]

set_option maxHeartbeats 4000000 in
set_option maxRecDepth 100000 in
theorem map_of (w0 : World) (B : Nat) (k hf : Int) (t : ByteArray) (l : List V) (ks : List ByteArray) (vs : List V) (la ka va : Option Addr) (lc kc vc : Nat) (D : Nat → List Value)
    (hks : ks.length * 16 ≤ 140737488351232) (hs : ∀ s ∈ ks, s.size ≤ 140737488351232)
    (rise : ∀ i (hi : i + 1 < ks.length), Op.bytesLess ks[i].toList ks[i + 1].toList = true) (hlen : ks.length = vs.length)
    (ck : 0 < ks.length → ∃ b o, ka = some ⟨b, o, none⟩ ∧ b < B ∧ ∀ i (hi : i < ks.length), w0.cell? ⟨b, o + i, none⟩ = some (.string ks[i]))
    (cv : 0 < vs.length → ∃ b o, va = some ⟨b, o, none⟩ ∧ b < B ∧ ∀ i, i < vs.length → CellsAt w0 b (o + i * 6) (D i)) (rv : ∀ i (hi : i < vs.length), RepV w0 B vs[i] (D i))
    (ih : ∀ i (hi : i < vs.length), ToGoOK w0 B vs[i] (D i)) (w : World) (hbel : Below B w0 w) (hB : B ≤ w.heap.size) :
    Calls Tryz.prog 29 #[.agg #[.int .i64 k, .int .i64 hf, .string t, .slice la l.length lc, .slice ka ks.length kc, .slice va vs.length vc]] w (MapPost w (toJM ks vs)) := by
  have hmk := run_makeMap_hint (P := Tryz.prog) Tryz.underlying68 .i64 ks.length
  have Hck := Lib.hid ck; clear ck
  have Hcv := Lib.hid cv; clear cv
  have Hih := Lib.hid ih; clear ih
  obtain ⟨W, hW⟩ : ∃ W, W = w.alloc (.cells #[.int .i64 k, .int .i64 hf, .string t, .slice la l.length lc, .slice ka ks.length kc, .slice va vs.length vc] 26) := ⟨_, rfl⟩
  have hWs : W.heap.size = w.heap.size + 1 := by rw [hW]; simp
  have hbW : Below w.heap.size w W := by rw [hW]; exact below_alloc1 _ _
  have hat : W.heap[w.heap.size]? = some (.cells #[.int .i64 k, .int .i64 hf, .string t, .slice la l.length lc, .slice ka ks.length kc, .slice va vs.length vc] 26) := by rw [hW]; exact at_alloc _ _
  have boxes : ∀ wx, Below W.heap.size W wx → wx.cell? ⟨w.heap.size, 0, none⟩ = some (.int .i64 k) ∧ wx.cell? ⟨w.heap.size, 1, none⟩ = some (.int .i64 hf) ∧ wx.cell? ⟨w.heap.size, 2, none⟩ = some (.string t) ∧ wx.cell? ⟨w.heap.size, 3, none⟩ = some (.slice la l.length lc) ∧ wx.cell? ⟨w.heap.size, 4, none⟩ = some (.slice ka ks.length kc) ∧ wx.cell? ⟨w.heap.size, 5, none⟩ = some (.slice va vs.length vc) :=
    fun wx hx => of_block6 ((hx.block w.heap.size (by omega)).trans hat)
  have Hbox := Lib.hid boxes; clear boxes
  have key : ∀ wx, Below W.heap.size W wx → Below B w0 wx ∧ Below w.heap.size w wx := fun wx hx => ⟨(hbel.trans (hbW.mono hB)).trans (hx.mono (by omega)), hbW.trans (hx.mono (by omega))⟩
  have Hkey := Lib.hid key; clear key
  have HWs := Lib.hid hWs; clear hWs
  have Hlen := Lib.hid hlen
  have t0 : ((ks.length : Int) != (vs.length : Int)) = false := by rw [hlen]; simp
  clear hat hbW hbel hlen
  go_enter Tryz.func29, Tryz.ntmps29
  go_wp2_with fail
  rw [← hW, ← HWs.out]
  have HW := Lib.hid hW; clear hW
  clear t0
  obtain ⟨m, hm⟩ : ∃ m, toJM ks vs = m := ⟨_, rfl⟩
  have hml : m.length = ks.length := by rw [← hm]; exact toJM_len _ _ Hlen.out
  have Hml := Lib.hid hml; clear hml
  have hmg : ∀ i (hi : i < ks.length), m[i]'(by rw [Hml.out]; exact hi) = (ks[i], toJ (vs[i]'(by rw [← Hlen.out]; exact hi))) := by subst hm; exact toJM_get ks vs Hlen.out
  have Hmg := Lib.hid hmg; clear hmg
  have Hm := Lib.hid hm; clear hm
  have hst : MInv W.heap.size m 0 (W.alloc (.map #[] 0)) := ⟨fun _ => .nilIface, fun _ _ => False, World.ownsMap_made W _ _ _, fun _ _ h => by omega, fun _ _ _ _ h => by omega, fun _ _ h => by omega⟩
  have Hst := Lib.hid hst; clear hst
  go_loopw [23] (fun i wr => MLoop W W.heap.size m i wr) (fun i _ => ks.length - (intOf i).toNat)
  case atStart => exact ⟨0, Nat.zero_le _, rfl, below_alloc1 _ _, by simp, Hst.out⟩
  case round =>
    obtain ⟨n, hn, rfl, hb, hH, hinv⟩ := hrel
    have Hinv := Lib.hid hinv; clear hinv
    rw [Hml.out] at hn
    obtain ⟨x0, x1, x2, x3, x4, x5⟩ := Hbox.out _ hb
    by_cases hn' : n < ks.length
    · obtain ⟨kb, ko, rfl, hkb, hkc⟩ := Hck.out (by omega)
      have hnv : n < vs.length := by rw [← Hlen.out]; exact hn'
      obtain ⟨lb, lo, rfl, hlb, hcel⟩ := Hcv.out (by omega)
      obtain ⟨hb0, hb1⟩ := Hkey.out _ hb
      have cc := (hcel n hnv).below hb0 hlb
      have ih := Hih.out n hnv wr hb0 (by have := hb1.size; omega)
      obtain ⟨k', h', t', la', ka', va', nl', cl', nk', ck', nv', cv', hCn⟩ := (rv n hnv).shape
      rw [hCn] at cc ih
      obtain ⟨y0, y1, y2, y3, y4, y5⟩ := cells6 cc
      have HI := Lib.hid ih
      have k1 : wr.cell? ⟨kb, ko + n, none⟩ = some (.string ks[n]) := (hb0.cell (p := ⟨kb, ko + n, none⟩) hkb).trans (hkc n hn')
      have hksz : ks[n].size ≤ 140737488351232 := hs _ (List.getElem_mem hn')
      obtain ⟨kn, hkn⟩ : ∃ kn, ks[n] = kn := ⟨_, rfl⟩
      rw [hkn] at k1 hksz
      have Hkn := Lib.hid hkn; clear hkn
      have hkey : keyOf Tryz.prog 9 (.string kn) = some (.string kn.data.toList) := keyOf_string_mk Tryz.underlying9 (by unfold maxLen; omega)
      have Hkey2 := Lib.hid hkey; clear hkey
      by_cases hn0 : n ≤ 0
      · clear ih hCn cc hcel hkc
        go_wp2_with fail
        refine HI.out.mono ?_
        rintro e w2 ⟨x, rfl, hx, hb2⟩
        have h63 : n < maxLen := by unfold maxLen; omega
        obtain ⟨E, F, hown, hF, hd, hr⟩ := Hinv.out
        have hown2 := hown.kept (below_grown2 hb2 none) (by simp)
        have HF := Lib.hid hF; clear hF
        have Hd := Lib.hid hd; clear hd
        have Hr := Lib.hid hr; clear hr
        clear hown x0 x1 x2 x3 x4 x5 k1 y0 y1 y2 y3 y4 y5
        go_wp2_with (at_mapUpdate; refine wpList_mapUpdate_own _ rfl _ _ _ 68 rfl 9 20 law_str Tryz.underlying68 heldR W.heap.size n _ rfl hown2 h63 _ _ _ rfl rfl Hkey2.out (.held x) [] rfl ?_; intro w3 hown3 hg3)
        go_roundw
        case rel =>
          have s2 := hb2.size
          have s3 := hg3.size
          have em : m[n]'(by rw [Hml.out]; exact hn') = (kn, toJ (vs[n]'hnv)) := by rw [Hmg.out n hn', Hkn.out]
          refine ⟨n + 1, by rw [Hml.out]; omega, by go_num, hb.grown ((below_grown2 hb2 (some W.heap.size)).trans hg3) hb.size (fun k hk => by cases hk; exact Nat.le_refl _), by omega, ?_⟩
          refine MInv.step (w2 := w2) (x := x) hH (by rw [Hml.out]; exact hn') ?_ HF.out Hd.out Hr.out hb2 (by rw [em]; exact hx) (by rw [em]; exact hown3) hg3
          intro i hi
          rw [em, Hmg.out i (by omega), ← Hkn.out, ← ByteArray.toList_eq, ← ByteArray.toList_eq]
          exact rise_all ks rise n hn' i hi
        case measure => simp [intOf]; omega
      · have k2 : wr.cell? ⟨kb, ko + (n - 1), none⟩ = some (.string ks[n - 1]) := (hb0.cell (p := ⟨kb, ko + (n - 1), none⟩) hkb).trans (hkc (n - 1) (by omega))
        have hlt : Op.bytesLess ks[n - 1].toList kn.toList = true := by
          have := rise (n - 1) (by omega)
          rw [← Hkn.out]
          simpa [show n - 1 + 1 = n from by omega] using this
        generalize ks[n - 1] = pk at k2 hlt
        have t1 : (0 : Int) < (n : Int) := by omega
        clear ih hCn cc hcel hkc
        go_wp2_with fail
        refine HI.out.mono ?_
        rintro e w2 ⟨x, rfl, hx, hb2⟩
        have h63 : n < maxLen := by unfold maxLen; omega
        obtain ⟨E, F, hown, hF, hd, hr⟩ := Hinv.out
        have hown2 := hown.kept (below_grown2 hb2 none) (by simp)
        have HF := Lib.hid hF; clear hF
        have Hd := Lib.hid hd; clear hd
        have Hr := Lib.hid hr; clear hr
        clear hown k2 hlt x0 x1 x2 x3 x4 x5 k1 y0 y1 y2 y3 y4 y5
        go_wp2_with (at_mapUpdate; refine wpList_mapUpdate_own _ rfl _ _ _ 68 rfl 9 20 law_str Tryz.underlying68 heldR W.heap.size n _ rfl hown2 h63 _ _ _ rfl rfl Hkey2.out (.held x) [] rfl ?_; intro w3 hown3 hg3)
        go_roundw
        case rel =>
          have s2 := hb2.size
          have s3 := hg3.size
          have em : m[n]'(by rw [Hml.out]; exact hn') = (kn, toJ (vs[n]'hnv)) := by rw [Hmg.out n hn', Hkn.out]
          refine ⟨n + 1, by rw [Hml.out]; omega, by go_num, hb.grown ((below_grown2 hb2 (some W.heap.size)).trans hg3) hb.size (fun k hk => by cases hk; exact Nat.le_refl _), by omega, ?_⟩
          refine MInv.step (w2 := w2) (x := x) hH (by rw [Hml.out]; exact hn') ?_ HF.out Hd.out Hr.out hb2 (by rw [em]; exact hx) (by rw [em]; exact hown3) hg3
          intro i hi
          rw [em, Hmg.out i (by omega), ← Hkn.out, ← ByteArray.toList_eq, ← ByteArray.toList_eq]
          exact rise_all ks rise n hn' i hi
        case measure => simp [intOf]; omega
    · go_wp2_with fail
      have e : n = ks.length := by omega
      refine bodyPost_ret (results_tmp2 rfl _ _ _) rfl ⟨_, rfl, ?_, (Hkey.out _ hb).2⟩
      rw [Hm.out]
      refine MInv.done (by rw [Hml.out]; omega) ?_ (by rw [HWs.out]; omega) hH (by rw [Hml.out, ← e]; exact Hinv.out)
      intro p hp
      obtain ⟨i, hi, rfl⟩ := List.getElem_of_mem hp
      rw [Hmg.out i (by rw [← Hml.out]; exact hi)]
      exact hs _ (List.getElem_mem _)

end Go.Proofs.YtiphcojcdegnkaaGreatDoor

namespace Go.Proofs.YtiphcojcdegnkaaGreatDoor
open Go Go.RowKit Go.Maps Go.Deep Go.WideMaps

theorem entries_len (m : List (ByteArray × J)) (E : Nat → Value) : (entries m E).length = m.length := by simp [entries]
theorem entries_get (m : List (ByteArray × J)) (E : Nat → Value) (i : Nat) (hi : i < (entries m E).length) :
    (entries m E)[i] = (Lit.string (m[i]'(by rw [← entries_len m E]; exact hi)).1.data.toList, DataW.held (E i)) := by simp [entries]

/-- No key twice. -/
def Apart (m : List (ByteArray × J)) : Prop := ∀ i j (hi : i < m.length) (hj : j < m.length), m[i].1 = m[j].1 → i = j

theorem same_str (a b : List UInt8) : Lit.sameKey (.string a) (.string b) = (a == b) := rfl

theorem data_inj {a b : ByteArray} (h : a.data.toList = b.data.toList) : a = b := by
  obtain ⟨⟨x⟩⟩ := a
  obtain ⟨⟨y⟩⟩ := b
  simp at h
  rw [h]

theorem atKey_at {m : List (ByteArray × J)} {E : Nat → Value} (ha : Apart m) {i : Nat} (hi : i < m.length) (z : DataW Value) :
    (DataW.map (entries m E)).atKey (.string m[i].1.data.toList) z = .held (E i) := by
  have hf : (entries m E).find? (fun p => p.1.sameKey (.string m[i].1.data.toList)) = some (Lit.string m[i].1.data.toList, DataW.held (E i)) := by
    rw [List.find?_eq_some_iff_getElem]
    refine ⟨by simp [same_str], i, by rw [entries_len]; exact hi, entries_get m E i _, fun j hj => ?_⟩
    rw [entries_get]
    simp only [same_str, Bool.not_eq_true', beq_eq_false_iff_ne]
    intro e
    have := ha j i (by omega) hi (data_inj e)
    omega
  simp only [DataW.atKey, hf]
theorem atKey_miss {m : List (ByteArray × J)} {E : Nat → Value} {k : ByteArray} (hk : ∀ p ∈ m, p.1 ≠ k) (z : DataW Value) :
    (DataW.map (entries m E)).atKey (.string k.data.toList) z = z := by
  have hf : (entries m E).find? (fun p => p.1.sameKey (.string k.data.toList)) = none := by
    rw [List.find?_eq_none]
    intro p hp
    obtain ⟨i, hi, rfl⟩ := List.mem_iff_getElem.1 hp
    rw [entries_get]
    simp only [same_str, beq_iff_eq]
    intro e
    exact hk _ (List.getElem_mem (by rw [← entries_len m E]; exact hi)) (data_inj e)
  simp only [DataW.atKey, hf]
theorem has_at {m : List (ByteArray × J)} {E : Nat → Value} {i : Nat} (hi : i < m.length) : Maps.has (DataW.map (entries m E)) (.string m[i].1.data.toList) = true := by
  unfold Maps.has
  rw [List.any_eq_true]
  exact ⟨_, List.getElem_mem (by rw [entries_len]; exact hi), by rw [entries_get m E i]; simp [same_str]⟩
theorem has_miss {m : List (ByteArray × J)} {E : Nat → Value} {k : ByteArray} (hk : ∀ p ∈ m, p.1 ≠ k) : Maps.has (DataW.map (entries m E)) (.string k.data.toList) = false := by
  unfold Maps.has
  rw [List.any_eq_false]
  intro p hp
  obtain ⟨i, hi, rfl⟩ := List.mem_iff_getElem.1 hp
  rw [entries_get]
  simp only [same_str, beq_iff_eq]
  intro e
  exact hk _ (List.getElem_mem (by rw [← entries_len m E]; exact hi)) (data_inj e)

theorem zero_any (w : World) : (zeroValue 20).run Tryz.prog w = .ok .nilIface w := by kernel_rfl
theorem heldR_inv {v : Value} {d : DataW Value} {ps : List MemPlace} (h : heldR v = some (d, ps)) : d = .held v := by
  unfold heldR at h
  simp at h
  exact h.1.symm

theorem MapAt.get {w : World} {r : Nat} {m : List (ByteArray × J)} {E : Nat → Value} (h : MapAt w r m E) (ha : Apart m) {i : Nat} (hi : i < m.length) (hs : m[i].1.size ≤ 140737488351232) :
    (Instr.lookup 68 (.map (some r)) (.string m[i].1) false).run Tryz.prog w = .ok (E i) w := by
  obtain ⟨n, _, hown⟩ := h
  obtain ⟨v, ps, hrun, hv⟩ := hown.lookup law_str Tryz.underlying68 (zero_any w) (zd := .held .nilIface) (zp := []) rfl (keyOf_string_mk (s := m[i].1) Tryz.underlying9 (by unfold maxLen; omega))
  rw [atKey_at ha hi] at hv
  have := heldR_inv hv
  cases this
  exact hrun
theorem MapAt.getOk {w : World} {r : Nat} {m : List (ByteArray × J)} {E : Nat → Value} (h : MapAt w r m E) (ha : Apart m) {i : Nat} (hi : i < m.length) (hs : m[i].1.size ≤ 140737488351232) :
    (Instr.lookup 68 (.map (some r)) (.string m[i].1) true).run Tryz.prog w = .ok (.tuple #[E i, .bool true]) w := by
  obtain ⟨n, _, hown⟩ := h
  obtain ⟨v, ps, hrun, hv⟩ := hown.look_ok law_str Tryz.underlying68 (zero_any w) (zd := .held .nilIface) (zp := []) rfl (keyOf_string_mk (s := m[i].1) Tryz.underlying9 (by unfold maxLen; omega))
  rw [atKey_at ha hi] at hv
  rw [has_at hi] at hrun
  have := heldR_inv hv
  cases this
  exact hrun
theorem MapAt.miss {w : World} {r : Nat} {m : List (ByteArray × J)} {E : Nat → Value} (h : MapAt w r m E) {k : ByteArray} (hk : ∀ p ∈ m, p.1 ≠ k) (hs : k.size ≤ 140737488351232) :
    (Instr.lookup 68 (.map (some r)) (.string k) false).run Tryz.prog w = .ok .nilIface w := by
  obtain ⟨n, _, hown⟩ := h
  obtain ⟨v, ps, hrun, hv⟩ := hown.lookup law_str Tryz.underlying68 (zero_any w) (zd := .held .nilIface) (zp := []) rfl (keyOf_string_mk (s := k) Tryz.underlying9 (by unfold maxLen; omega))
  rw [atKey_miss hk] at hv
  have := heldR_inv hv
  cases this
  exact hrun
theorem MapAt.missOk {w : World} {r : Nat} {m : List (ByteArray × J)} {E : Nat → Value} (h : MapAt w r m E) {k : ByteArray} (hk : ∀ p ∈ m, p.1 ≠ k) (hs : k.size ≤ 140737488351232) :
    (Instr.lookup 68 (.map (some r)) (.string k) true).run Tryz.prog w = .ok (.tuple #[.nilIface, .bool false]) w := by
  obtain ⟨n, _, hown⟩ := h
  obtain ⟨v, ps, hrun, hv⟩ := hown.look_ok law_str Tryz.underlying68 (zero_any w) (zd := .held .nilIface) (zp := []) rfl (keyOf_string_mk (s := k) Tryz.underlying9 (by unfold maxLen; omega))
  rw [atKey_miss hk] at hv
  rw [has_miss hk] at hrun
  have := heldR_inv hv
  cases this
  exact hrun
theorem MapAt.len {w : World} {r : Nat} {m : List (ByteArray × J)} {E : Nat → Value} (h : MapAt w r m E) (ty : TypeId) :
    (Builtin.len_ #[68] ty #[.map (some r)]).run Tryz.prog w = .ok (.int .i64 m.length) w := by
  obtain ⟨n, _, hown⟩ := h
  have := hown.len Tryz.underlying68 ty
  rw [Maps.size_eq, entries_len] at this
  exact this

theorem less_ne {a b : ByteArray} (h : Op.bytesLess a.toList b.toList = true) : a ≠ b := by
  rintro rfl
  rw [bl_irrefl] at h
  cases h

theorem apart_toJM {ks : List ByteArray} {vs : List V} (hlen : ks.length = vs.length) (rise : ∀ i (hi : i + 1 < ks.length), Op.bytesLess ks[i].toList ks[i + 1].toList = true) : Apart (toJM ks vs) := by
  intro i j hi hj h
  rw [toJM_len _ _ hlen] at hi hj
  rw [toJM_get _ _ hlen i hi, toJM_get _ _ hlen j hj] at h
  simp only at h
  rcases Nat.lt_trichotomy i j with c | c | c
  · exact absurd h (less_ne (rise_all ks rise j hj i c))
  · exact c
  · exact absurd h.symm (less_ne (rise_all ks rise i hi j c))

end Go.Proofs.YtiphcojcdegnkaaGreatDoor

namespace Go.Proofs.YtiphcojcdegnkaaGreatDoor
open Go Go.RowKit

/-- A step of a path. -/
inductive Stp where
  | key (k : ByteArray)
  | idx (n : Nat)
def Stp.v : Stp → V
  | .key k => strV k
  | .idx n => numV n

def keyL (k : ByteArray) : Lit := .string k.data.toList
theorem keyL_same (a b : ByteArray) : (keyL a).sameKey (keyL b) = true ↔ a = b := by
  constructor
  · intro h
    have h2 : a.data.toList = b.data.toList := by simpa [keyL, Lit.sameKey] using h
    obtain ⟨⟨x⟩⟩ := a
    obtain ⟨⟨y⟩⟩ := b
    simp at h2
    rw [h2]
  · rintro rfl
    simp [keyL, Lit.sameKey]

section
variable {α β : Type}
def insK (x : ByteArray × α) : List (ByteArray × α) → List (ByteArray × α)
  | [] => [x]
  | y :: r => if (keyL x.1).before (keyL y.1) then x :: y :: r else y :: insK x r
/-- An entry laid into a map's sorted entries. -/
def putK (m : List (ByteArray × α)) (k : ByteArray) (a : α) : List (ByteArray × α) := insK (k, a) (m.filter fun p => !(keyL p.1).sameKey (keyL k))
def getK (m : List (ByteArray × α)) (k : ByteArray) : Option α := (m.find? fun p => (keyL p.1).sameKey (keyL k)).map (·.2)
def RisesK (m : List (ByteArray × α)) : Prop := m.Pairwise fun p q => (keyL p.1).before (keyL q.1) = true

theorem mem_insK {x y : ByteArray × α} : ∀ {l : List (ByteArray × α)}, y ∈ insK x l ↔ y = x ∨ y ∈ l
  | [] => by simp [insK]
  | z :: r => by
    unfold insK
    split
    · simp
    · simp only [List.mem_cons, mem_insK (l := r)]
      constructor
      · rintro (h | h | h) <;> simp [h]
      · rintro (h | h | h) <;> simp [h]
theorem mem_putK {m : List (ByteArray × α)} {k : ByteArray} {a : α} {y : ByteArray × α} : y ∈ putK m k a ↔ y = (k, a) ∨ (y ∈ m ∧ y.1 ≠ k) := by
  unfold putK
  rw [mem_insK, List.mem_filter]
  constructor
  · rintro (h | ⟨h, h2⟩)
    · exact .inl h
    · exact .inr ⟨h, fun e => by rw [(keyL_same _ _).2 e] at h2; cases h2⟩
  · rintro (h | ⟨h, h2⟩)
    · exact .inl h
    · refine .inr ⟨h, ?_⟩
      cases c : (keyL y.1).sameKey (keyL k)
      · rfl
      · exact absurd ((keyL_same _ _).1 c) h2
theorem insK_map (f : α → β) (x : ByteArray × α) : ∀ (l : List (ByteArray × α)), (insK x l).map (fun p => (p.1, f p.2)) = insK (x.1, f x.2) (l.map fun p => (p.1, f p.2))
  | [] => by simp [insK]
  | y :: r => by
    unfold insK
    simp only [List.map_cons]
    split
    · rfl
    · rw [List.map_cons, insK_map f x r]
theorem putK_map (f : α → β) (m : List (ByteArray × α)) (k : ByteArray) (a : α) : (putK m k a).map (fun p => (p.1, f p.2)) = putK (m.map fun p => (p.1, f p.2)) k (f a) := by
  unfold putK
  rw [insK_map, List.filter_map]
  rfl
theorem insK_len (x : ByteArray × α) : ∀ (l : List (ByteArray × α)), (insK x l).length = l.length + 1
  | [] => rfl
  | y :: r => by
    unfold insK
    split
    · rfl
    · simp [insK_len x r]
theorem putK_len (m : List (ByteArray × α)) (k : ByteArray) (a : α) : (putK m k a).length ≤ m.length + 1 := by
  unfold putK
  rw [insK_len]
  have := List.length_filter_le (fun p => !(keyL p.1).sameKey (keyL k)) m
  omega
theorem insK_pair {R : ByteArray × α → ByteArray × α → Prop} {x : ByteArray × α} : ∀ {l : List (ByteArray × α)}, l.Pairwise R → (∀ y ∈ l, R x y ∧ R y x) → (insK x l).Pairwise R
  | [], _, _ => by simp [insK]
  | y :: r, h, hx => by
    obtain ⟨h1, h2⟩ := List.pairwise_cons.1 h
    unfold insK
    split
    · exact List.pairwise_cons.2 ⟨fun z hz => (hx z hz).1, h⟩
    · refine List.pairwise_cons.2 ⟨fun z hz => ?_, insK_pair h2 fun z hz => hx z (List.mem_cons_of_mem _ hz)⟩
      rcases mem_insK.1 hz with rfl | hz
      · exact (hx y (List.mem_cons_self ..)).2
      · exact h1 z hz
theorem putK_pair {R : ByteArray × α → ByteArray × α → Prop} {m : List (ByteArray × α)} {k : ByteArray} {a : α} (h : m.Pairwise R) (hx : ∀ y ∈ m, y.1 ≠ k → R (k, a) y ∧ R y (k, a)) : (putK m k a).Pairwise R := by
  unfold putK
  refine insK_pair (h.filter _) fun y hy => ?_
  obtain ⟨h1, h2⟩ := List.mem_filter.1 hy
  exact hx y h1 fun e => by rw [(keyL_same _ _).2 e] at h2; cases h2
/-- As the model's maps put it. -/
theorem insK_data {H : Type} (g : α → DataW H) (x : ByteArray × α) : ∀ (l : List (ByteArray × α)), (insK x l).map (fun p => (keyL p.1, g p.2)) = DataW.insert (keyL x.1, g x.2) (l.map fun p => (keyL p.1, g p.2))
  | [] => by simp [insK, DataW.insert]
  | y :: r => by
    unfold insK
    simp only [List.map_cons, DataW.insert]
    split
    · rfl
    · rw [List.map_cons, insK_data g x r]
theorem putK_data {H : Type} (g : α → DataW H) (m : List (ByteArray × α)) (k : ByteArray) (a : α) : (DataW.map (m.map fun p => (keyL p.1, g p.2))).put (keyL k) (g a) = .map ((putK m k a).map fun p => (keyL p.1, g p.2)) := by
  unfold putK
  rw [insK_data]
  show DataW.map (DataW.insert (keyL k, g a) (List.filter (fun p => !p.1.sameKey (keyL k)) (m.map fun p => (keyL p.1, g p.2)))) = _
  rw [List.filter_map]
  rfl
theorem rises_irrefl {m : List (ByteArray × α)} (h : RisesK m) : m.Pairwise fun p q => p.1 ≠ q.1 :=
  h.imp fun {a b} hab e => by rw [e, Go.WideShapes.before_irrefl] at hab; cases hab
theorem getK_mem {m : List (ByteArray × α)} {k : ByteArray} {a : α} (h : getK m k = some a) : (k, a) ∈ m := by
  unfold getK at h
  obtain ⟨p, hp, rfl⟩ := Option.map_eq_some_iff.1 h
  have h1 := List.find?_some hp
  have h2 := List.mem_of_find?_eq_some hp
  rw [← (keyL_same _ _).1 h1]
  exact h2
theorem getK_none {m : List (ByteArray × α)} {k : ByteArray} (h : getK m k = none) : ∀ p ∈ m, p.1 ≠ k := by
  unfold getK at h
  have h1 := List.find?_eq_none.1 (Option.map_eq_none_iff.1 h)
  intro p hp e
  exact h1 p hp ((keyL_same _ _).2 e)
theorem getK_of {m : List (ByteArray × α)} (hr : m.Pairwise fun p q => p.1 ≠ q.1) {k : ByteArray} {a : α} (h : (k, a) ∈ m) : getK m k = some a := by
  induction m with
  | nil => cases h
  | cons y r ih =>
    obtain ⟨h1, h2⟩ := List.pairwise_cons.1 hr
    unfold getK
    rw [List.find?_cons]
    rcases List.mem_cons.1 h with rfl | h
    · rw [(keyL_same _ _).2 rfl]
      rfl
    · have : (keyL y.1).sameKey (keyL k) = false := by
        cases c : (keyL y.1).sameKey (keyL k)
        · rfl
        · exact absurd ((keyL_same _ _).1 c) (h1 _ h)
      rw [this]
      exact ih h2 h
theorem before_asymm {a b : ByteArray} (h : (keyL a).before (keyL b) = true) : (keyL b).before (keyL a) = false := by
  cases c : (keyL b).before (keyL a)
  · rfl
  · have := Go.WideShapes.before_trans h c
    rw [Go.WideShapes.before_irrefl] at this
    cases this
/-- What stands there is put there again. -/
theorem putK_same : ∀ {m : List (ByteArray × α)} (_ : RisesK m) {k : ByteArray} {a : α} (_ : (k, a) ∈ m), putK m k a = m
  | [], _, _, _, h => by cases h
  | y :: r, hr, k, a, h => by
    have hne := rises_irrefl hr
    obtain ⟨h1, h2⟩ := List.pairwise_cons.1 hr
    obtain ⟨n1, n2⟩ := List.pairwise_cons.1 hne
    unfold putK
    rw [List.filter_cons]
    rcases List.mem_cons.1 h with rfl | h
    · rw [(keyL_same _ _).2 rfl]
      have e : r.filter (fun p => !(keyL p.1).sameKey (keyL k)) = r := List.filter_eq_self.2 fun p hp => by
        cases c : (keyL p.1).sameKey (keyL k)
        · rfl
        · exact absurd ((keyL_same _ _).1 c).symm (n1 p hp)
      simp only [Bool.not_true, Bool.false_eq_true, if_false, e]
      cases r with
      | nil => rfl
      | cons z s => unfold insK; rw [if_pos (h1 z (List.mem_cons_self ..))]
    · have e : (keyL y.1).sameKey (keyL k) = false := by
        cases c : (keyL y.1).sameKey (keyL k)
        · rfl
        · exact absurd ((keyL_same _ _).1 c) (n1 _ h)
      have hb := before_asymm (h1 _ h)
      simp only [e, Bool.not_false, if_true]
      unfold insK
      rw [if_neg (by simp only at hb ⊢; rw [hb]; simp)]
      congr 1
      exact putK_same h2 h
end

def isHole : J → Bool
  | .hole => true
  | _ => false

/-- An array with u at place i, filled up with null where it is too short. -/
def padJ (l : List J) (i : Nat) (u : J) : List J := (l ++ List.replicate (i + 1 - l.length) J.null).set i u
theorem padJ_in {l : List J} {i : Nat} (h : i < l.length) (u : J) : padJ l i u = l.set i u := by
  unfold padJ
  rw [show i + 1 - l.length = 0 by omega]
  simp

/-- The tree v with n at the path p; none: an error. -/
def updJ : J → List Stp → J → Option J
  | _, [], n => some n
  | v, .key k :: p, n => match v with
    | .null => if isHole n then some .null else (updJ .null p n).map fun u => .obj [(k, u)]
    | .obj m => match getK m k with
      | none => if isHole n then some (.obj m) else (updJ .null p n).map fun u => .obj (putK m k u)
      | some x => (updJ x p n).map fun u => .obj (putK m k u)
    | .hole => some .hole
    | _ => none
  | v, .idx i :: p, n => match v with
    | .null => if isHole n then some .null else (updJ .null p n).map fun u => .arr (padJ [] i u)
    | .arr l => match l[i]? with
      | none => if isHole n then some (.arr l) else (updJ .null p n).map fun u => .arr (padJ l i u)
      | some x => (updJ x p n).map fun u => .arr (padJ l i u)
    | .hole => some .hole
    | _ => none

/-- Where n is the hole, each place on the path p is there in v. -/
def Fine : J → List Stp → J → Prop
  | _, [], _ => True
  | v, .key k :: p, n => match v with
    | .obj m => ∀ x, getK m k = some x → Fine x p n
    | _ => True
  | v, .idx i :: p, n => match v with
    | .arr l => (isHole n = true → i < l.length) ∧ ∀ x, l[i]? = some x → Fine x p n
    | _ => True
theorem fine_null (p : List Stp) (n : J) : Fine .null p n := by
  cases p with
  | nil => trivial
  | cons x p => cases x <;> trivial
theorem fine_all : ∀ (p : List Stp) (v n : J), isHole n = false → Fine v p n
  | [], _, _, _ => by unfold Fine; trivial
  | .key k :: p, v, n, h => by
    cases v <;> try (unfold Fine; trivial)
    exact fun x _ => fine_all p x n h
  | .idx i :: p, v, n, h => by
    cases v <;> try (unfold Fine; trivial)
    exact ⟨fun e => (by rw [h] at e; cases e), fun x _ => fine_all p x n h⟩

theorem toJM_rises : ∀ {ks : List ByteArray} {vs : List V} (_ : ks.length = vs.length) (_ : ks.Pairwise fun a b => (keyL a).before (keyL b) = true), RisesK (toJM ks vs)
  | [], _, _, _ => by unfold toJM RisesK; simp
  | _ :: _, [], h, _ => by simp at h
  | k :: ks, v :: vs, h, hr => by
    obtain ⟨h1, h2⟩ := List.pairwise_cons.1 hr
    unfold toJM RisesK
    refine List.pairwise_cons.2 ⟨fun q hq => ?_, toJM_rises (by simpa using h) h2⟩
    rw [toJM_eq] at hq
    exact h1 _ (List.of_mem_zip hq).1

theorem stps_of {v : V} {p : List V} {y : V} (h : WayTo v p y) : ∃ s : List Stp, p = s.map Stp.v ∧ ∀ n, Stp.idx n ∈ s → n < sizeV v := by
  induction h with
  | here v => exact ⟨[], rfl, fun n h => by cases h⟩
  | @elem k h t l ks vs p y i hi hw ih =>
    obtain ⟨s, rfl, hs⟩ := ih
    have h1 := sizeL_get hi
    have h2 := sizeL_len l
    refine ⟨.idx i :: s, rfl, fun n hn => ?_⟩
    rw [sizeV]
    rcases List.mem_cons.1 hn with e | hn
    · cases e; omega
    · have := hs n hn; omega
  | @key k h t l ks vs p y i hk hi hw ih =>
    obtain ⟨s, rfl, hs⟩ := ih
    have h1 := sizeL_get hi
    refine ⟨.key ks[i] :: s, rfl, fun n hn => ?_⟩
    rw [sizeV]
    rcases List.mem_cons.1 hn with e | hn
    · cases e
    · have := hs n hn; omega

theorem keys_rise {ks : List ByteArray} (rise : ∀ i (hi : i + 1 < ks.length), Op.bytesLess ks[i].toList ks[i + 1].toList = true) : ks.Pairwise fun a b => (keyL a).before (keyL b) = true := by
  rw [List.pairwise_iff_getElem]
  intro i j hi hj hij
  have := rise_all ks rise j hj i hij
  show bytesBefore ks[i].data.toList ks[j].data.toList = true
  rw [before_eq]
  simpa [ByteArray.toList_eq] using this

theorem numV_inj {a b : Nat} (h : numV a = numV b) : a = b := by
  unfold numV at h
  injection h with _ h
  omega
theorem strV_inj {a b : ByteArray} (h : strV a = strV b) : a = b := by
  unfold strV at h
  injection h

/-- Set what stands there: nothing changes. -/
theorem upd_way {v : V} {p : List V} {y : V} (h : WayTo v p y) : ∀ (_ : Good v) (s : List Stp), p = s.map Stp.v → updJ (toJ v) s (toJ y) = some (toJ v) := by
  induction h with
  | here v =>
    intro _ s hs
    obtain rfl : s = [] := List.map_eq_nil_iff.1 hs.symm
    rfl
  | @elem k h t l ks vs p y i hi hw ih =>
    intro g s hs
    cases s with
    | nil => cases hs
    | cons x s =>
      rw [List.map_cons, List.cons.injEq] at hs
      obtain ⟨hx, hs⟩ := hs
      cases x with
      | key k' => exact absurd hx (by simp [Stp.v, numV, strV])
      | idx n =>
        obtain rfl : i = n := numV_inj hx
        obtain ⟨h5, _, _⟩ := g.kinds
        obtain rfl : k = 5 := h5.resolve_right fun e => by rw [e] at hi; simp at hi
        have gi : Good l[i] := by
          cases g with
          | mk shape half valid list rise vkeys vals => exact list i hi
        have e : toJ (.mk 5 h t l ks vs) = .arr (toJL l) := by unfold toJ; simp
        have hl : (toJL l)[i]? = some (toJ l[i]) := by rw [toJL_eq]; simp [hi]
        rw [e]
        simp only [updJ, hl, ih gi s hs, Option.map_some]
        rw [padJ_in (by rw [toJL_eq]; simpa using hi)]
        congr 2
        rw [toJL_eq]
        apply List.ext_getElem (by simp)
        intro j h1 h2
        rw [List.getElem_set]
        split
        · rename_i e; subst e; simp
        · rfl
  | @key k h t l ks vs p y i hk hi hw ih =>
    intro g s hs
    cases s with
    | nil => cases hs
    | cons x s =>
      rw [List.map_cons, List.cons.injEq] at hs
      obtain ⟨hx, hs⟩ := hs
      cases x with
      | idx n => exact absurd hx (by simp [Stp.v, numV, strV])
      | key k' =>
        obtain rfl : ks[i] = k' := strV_inj hx
        obtain ⟨_, h6, hlen⟩ := g.kinds
        obtain rfl : k = 6 := h6.resolve_right fun e => by rw [e] at hk; simp at hk
        have gi : Good vs[i] := by
          cases g with
          | mk shape half valid list rise vkeys vals => exact vals i hi
        have hr : RisesK (toJM ks vs) := by
          cases g with
          | mk shape half valid list rise vkeys vals => exact toJM_rises hlen (keys_rise rise)
        have e : toJ (.mk 6 h t l ks vs) = .obj (toJM ks vs) := by unfold toJ; simp
        have hm : (ks[i], toJ vs[i]) ∈ toJM ks vs := by
          rw [toJM_eq]
          have : (ks.zip (vs.map toJ))[i]? = some (ks[i], toJ vs[i]) := by simp [List.getElem?_zip_eq_some, hk, hi]
          exact List.mem_of_getElem? this
        rw [e]
        simp only [updJ, getK_of (rises_irrefl hr) hm, ih gi s hs, Option.map_some]
        rw [putK_same hr hm]

end Go.Proofs.YtiphcojcdegnkaaGreatDoor
