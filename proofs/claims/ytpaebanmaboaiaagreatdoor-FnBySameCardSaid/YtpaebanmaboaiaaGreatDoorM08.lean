/- The library's contracts on maps.Keys, slices.Sorted and slices.Sort at this program, laid in plain words (by the kit's lay-iter and lay-plain, names by wip/marks.py); what they give at a map that holds a tree's entries. -/
/- Contracts of sort.Strings on a row of one's own and of gojq.keys at a map. -/
/- Contract of gojq.funcKeys at a map. -/
/- Contract of Compare's callback at maps, over what Compare says of their values. -/
import Derived.Shelf.SlIter.Nil
import Derived.Shelf.SortM.Plain
import Derived.Shelf.SortM.SortNone
import Derived.Ground.GgzProg
import Derived.Ground.SlgmProg
import Derived.Test.YtpaebanmaboaiaaGreatDoorM07
import Derived.Test.YtpaebanmaboaiaaGreatDoorM03
import Derived.Sort.KeysCollected
import Derived.Sort.OwnSorted
import Derived.WalkLawsBesides
import Derived.Test.YtpaebanmaboaiaaGreatDoorM05
namespace Go.Proofs.YtpaebanmaboaiaaGreatDoor
open Go Go.RowKit Go.Maps Go.Sort Go.Shelf
def keysL_ren : Go.Shelf.Ren := ⟨fun | 7 => 54 | 10 => 65 | n => n, fun | 23 => 52 | 26 => 9 | 3 => 20 | 28 => 89 | 0 => 0 | 27 => 88 | 33 => 61 | 4 => 4 | n => n, fun | n => n⟩
theorem keysL : Go.Proofs.SlLaysZ.n7 Tryz.prog keysL_ren := {
  mixed := by kernel_rfl
  f7 := ⟨Tryz.f54.name, by decide, Tryz.func54.trans (congrArg some (by kernel_rfl))⟩
  f10 := ⟨Tryz.f65.name, by decide, Tryz.func65.trans (congrArg some (by kernel_rfl))⟩
  t0 := Tryz.underlying0
  a0 := Tryz.isAgg0
  z0 := Tryz.sizeOf0
  v0 := Tryz.zeroValue0
  t4 := Tryz.underlying4
  a4 := Tryz.isAgg4
  z4 := Tryz.sizeOf4
  v4 := Tryz.zeroValue4
  t23 := Tryz.underlying52
  a23 := Tryz.isAgg52
  z23 := Tryz.sizeOf52
  v23 := Tryz.zeroValue52
  t26 := Tryz.underlying9
  a26 := Tryz.isAgg9
  z26 := Tryz.sizeOf9
  v26 := Tryz.zeroValue9
  t27 := Tryz.underlying88
  a27 := Tryz.isAgg88
  z27 := Tryz.sizeOf88
  v27 := Tryz.zeroValue88
  t28 := Tryz.underlying89
  a28 := Tryz.isAgg89
  z28 := Tryz.sizeOf89
  v28 := Tryz.zeroValue89
  t33 := Tryz.underlying61
  a33 := Tryz.isAgg61
  z33 := Tryz.sizeOf61
  v33 := Tryz.zeroValue61 }
def sortedL_ren : Go.Shelf.Ren := ⟨fun | 6 => 53 | 8 => 63 | 9 => 64 | 11 => 84 | 13 => 86 | 12 => 85 | 23 => 109 | 24 => 110 | 14 => 100 | 15 => 101 | 16 => 102 | 17 => 103 | 18 => 104 | 19 => 105 | 20 => 106 | 21 => 107 | 22 => 108 | 25 => 136 | 26 => 137 | 27 => 138 | 28 => 139 | 29 => 140 | 30 => 98 | 31 => 159 | n => n, fun | 26 => 9 | 28 => 89 | 24 => 24 | 0 => 0 | 3 => 3 | 37 => 85 | 48 => 155 | 50 => 102 | 4 => 4 | 40 => 148 | 39 => 147 | 45 => 152 | 5 => 5 | 9 => 9 | 51 => 173 | 55 => 177 | 57 => 196 | 58 => 197 | 33 => 61 | n => n, fun | n => n⟩
theorem sortedL : Go.Proofs.SlLaysZ.n6 Tryz.prog sortedL_ren := {
  mixed := by kernel_rfl
  f6 := ⟨Tryz.f53.name, by decide, Tryz.func53.trans (congrArg some (by kernel_rfl))⟩
  f8 := ⟨Tryz.f63.name, by decide, Tryz.func63.trans (congrArg some (by kernel_rfl))⟩
  f11 := ⟨Tryz.f84.name, by decide, Tryz.func84.trans (congrArg some (by kernel_rfl))⟩
  t0 := Tryz.underlying0
  a0 := Tryz.isAgg0
  z0 := Tryz.sizeOf0
  v0 := Tryz.zeroValue0
  t24 := Tryz.underlying24
  a24 := Tryz.isAgg24
  z24 := Tryz.sizeOf24
  v24 := Tryz.zeroValue24
  t26 := Tryz.underlying9
  a26 := Tryz.isAgg9
  z26 := Tryz.sizeOf9
  v26 := Tryz.zeroValue9
  t28 := Tryz.underlying89
  a28 := Tryz.isAgg89
  z28 := Tryz.sizeOf89
  v28 := Tryz.zeroValue89
  i26 := by kernel_rfl }
def sortL_ren : Go.Shelf.Ren := ⟨fun | 6 => 64 | 8 => 86 | 9 => 85 | 19 => 109 | 20 => 110 | 21 => 100 | 22 => 101 | 23 => 102 | 24 => 103 | 25 => 104 | 26 => 105 | 27 => 106 | 28 => 107 | 29 => 108 | 36 => 136 | 31 => 137 | 32 => 138 | 37 => 139 | 38 => 140 | 39 => 98 | 41 => 159 | n => n, fun | 27 => 24 | 29 => 9 | 3 => 3 | 32 => 85 | 26 => 24 | 0 => 0 | 44 => 155 | 46 => 102 | 4 => 4 | 36 => 148 | 35 => 147 | 41 => 152 | 5 => 5 | 9 => 9 | 53 => 173 | 57 => 177 | 63 => 196 | 64 => 197 | n => n, fun | n => n⟩
theorem sortL : Go.Proofs.SlLaysM.n6 Tryz.prog sortL_ren := {
  mixed := by kernel_rfl
  f6 := ⟨Tryz.f64.name, by decide, Tryz.func64.trans (congrArg some (by kernel_rfl))⟩
  f8 := Tryz.func86.trans (congrArg some (by kernel_rfl))
  f9 := ⟨Tryz.f85.name, by decide, Tryz.func85.trans (congrArg some (by kernel_rfl))⟩
  f19 := Tryz.func109.trans (congrArg some (by kernel_rfl))
  f20 := Tryz.func110.trans (congrArg some (by kernel_rfl))
  f21 := ⟨Tryz.f100.name, by decide, Tryz.func100.trans (congrArg some (by kernel_rfl))⟩
  f22 := ⟨Tryz.f101.name, by decide, Tryz.func101.trans (congrArg some (by kernel_rfl))⟩
  f23 := ⟨Tryz.f102.name, by decide, Tryz.func102.trans (congrArg some (by kernel_rfl))⟩
  f24 := ⟨Tryz.f103.name, by decide, Tryz.func103.trans (congrArg some (by kernel_rfl))⟩
  f25 := ⟨Tryz.f104.name, by decide, Tryz.func104.trans (congrArg some (by kernel_rfl))⟩
  f26 := ⟨Tryz.f105.name, by decide, Tryz.func105.trans (congrArg some (by kernel_rfl))⟩
  f27 := ⟨Tryz.f106.name, by decide, Tryz.func106.trans (congrArg some (by kernel_rfl))⟩
  f28 := ⟨Tryz.f107.name, by decide, Tryz.func107.trans (congrArg some (by kernel_rfl))⟩
  f29 := ⟨Tryz.f108.name, by decide, Tryz.func108.trans (congrArg some (by kernel_rfl))⟩
  f31 := Tryz.func137.trans (congrArg some (by kernel_rfl))
  f32 := Tryz.func138.trans (congrArg some (by kernel_rfl))
  f36 := ⟨Tryz.f136.name, by decide, Tryz.func136.trans (congrArg some (by kernel_rfl))⟩
  f37 := ⟨Tryz.f139.name, by decide, Tryz.func139.trans (congrArg some (by kernel_rfl))⟩
  f38 := ⟨Tryz.f140.name, by decide, Tryz.func140.trans (congrArg some (by kernel_rfl))⟩
  f39 := ⟨Tryz.f98.name, by decide, Tryz.func98.trans (congrArg some (by kernel_rfl))⟩
  f41 := ⟨Tryz.f159.name, by decide, Tryz.func159.trans (congrArg some (by kernel_rfl))⟩
  t0 := Tryz.underlying0
  a0 := Tryz.isAgg0
  z0 := Tryz.sizeOf0
  v0 := Tryz.zeroValue0
  t3 := Tryz.underlying3
  a3 := Tryz.isAgg3
  z3 := Tryz.sizeOf3
  v3 := Tryz.zeroValue3
  t4 := Tryz.underlying4
  a4 := Tryz.isAgg4
  z4 := Tryz.sizeOf4
  v4 := Tryz.zeroValue4
  t5 := Tryz.underlying5
  a5 := Tryz.isAgg5
  z5 := Tryz.sizeOf5
  v5 := Tryz.zeroValue5
  t9 := Tryz.underlying9
  a9 := Tryz.isAgg9
  z9 := Tryz.sizeOf9
  v9 := Tryz.zeroValue9
  t26 := Tryz.underlying24
  a26 := Tryz.isAgg24
  z26 := Tryz.sizeOf24
  v26 := Tryz.zeroValue24
  t27 := Tryz.underlying24
  a27 := Tryz.isAgg24
  z27 := Tryz.sizeOf24
  v27 := Tryz.zeroValue24
  t29 := Tryz.underlying9
  a29 := Tryz.isAgg9
  z29 := Tryz.sizeOf9
  v29 := Tryz.zeroValue9
  t32 := Tryz.underlying85
  a32 := Tryz.isAgg85
  z32 := Tryz.sizeOf85
  v32 := Tryz.zeroValue85
  t35 := Tryz.underlying147
  a35 := Tryz.isAgg147
  z35 := Tryz.sizeOf147
  v35 := Tryz.zeroValue147
  t36 := Tryz.underlying148
  a36 := Tryz.isAgg148
  z36 := Tryz.sizeOf148
  v36 := Tryz.zeroValue148
  t41 := Tryz.underlying152
  a41 := Tryz.isAgg152
  z41 := Tryz.sizeOf152
  v41 := Tryz.zeroValue152
  t44 := Tryz.underlying155
  a44 := Tryz.isAgg155
  z44 := Tryz.sizeOf155
  v44 := Tryz.zeroValue155
  t46 := Tryz.underlying102
  a46 := Tryz.isAgg102
  z46 := Tryz.sizeOf102
  v46 := Tryz.zeroValue102
  t53 := Tryz.underlying173
  a53 := Tryz.isAgg173
  z53 := Tryz.sizeOf173
  v53 := Tryz.zeroValue173
  t57 := Tryz.underlying177
  a57 := Tryz.isAgg177
  z57 := Tryz.sizeOf177
  v57 := Tryz.zeroValue177
  t63 := Tryz.underlying196
  a63 := Tryz.isAgg196
  z63 := Tryz.sizeOf196
  v63 := Tryz.zeroValue196
  t64 := Tryz.underlying197
  a64 := Tryz.isAgg197
  z64 := Tryz.sizeOf197
  v64 := Tryz.zeroValue197 }
theorem sortsL (m : Nat) : AnyZ.SortsIn Tryz.prog sortedL_ren Fence.wide m :=
  ⟨fun blk off cap ss W hH hblk hsz => callsIn_wide.2 (AnyM.slices_Sort_string sortL blk off cap ss W hH hblk hsz),
   fun p cap W => callsIn_wide.2 (AnyM.slices_Sort_string_none sortL p cap W)⟩
theorem mapsKeys_any (mb : Option Nat) (w : World) : Calls Tryz.prog 54 #[.map mb] w fun e w' => e = .returned (.func (.func 65) #[] #[.pointer (some ⟨w.heap.size, 0, none⟩)]) ∧ w' = w.alloc (.cells #[.map mb] 52) :=
  (callsIn_wide (n := 5)).1 (AnyZ.keys_in keysL Fence.wide 5 trivial rfl mb w)
/-- What slices.Sorted leaves. -/
def SortedP (w : World) (P : List (List UInt8) → Prop) (e : Ending) (w' : World) : Prop :=
  ∃ (v : Value) (ss : List (List UInt8)), e = .returned v ∧ P ss ∧ w'.ownsRow w.heap.size 9 1 v ss.length ((ss.mergeSort (fun x y => decide (x ≤ y))).map encStr) ∧ Below w.heap.size w w'
set_option maxHeartbeats 1000000 in
theorem sortedKeys_any {H : Type} (b nn : Nat) (D0 : DataW H) (R : Value → Option (DataW H × List MemPlace)) (w : World) (hown : w.ownsMap Tryz.prog 9 R b nn D0) (hmax : Maps.size D0 ≤ maxLen) (hbytes : Maps.size D0 * 16 ≤ 140737488355328) :
    Calls Tryz.prog 53 #[.func (.func 65) #[] #[.pointer (some ⟨w.heap.size, 0, none⟩)]] (w.alloc (.cells #[.map (some b)] 52)) (SortedP (w.alloc (.cells #[.map (some b)] 52)) (fun ss => ss.Perm (strKeys D0))) := by
  have hbl := hown.lt
  have hseq : SeqGives Fence.wide 2 Tryz.prog 65 #[.pointer (some ⟨w.heap.size, 0, none⟩)] encStr (fun ss => ss.Perm (strKeys D0)) (Maps.size D0) (w.alloc (.cells #[.map (some b)] 52)) :=
    AnyZ.keys_gives (ρ := keysL_ren) { keysL with } Fence.wide _ trivial rfl (by omega) w.heap.size b nn D0 _ (by simp) (by simp) (by
      obtain ⟨es, clock, hb, Ft, hs, hD⟩ := hown
      exact ⟨es, clock, (Below.heap_alloc _ _ b hbl).trans hb, Ft, hs, hD⟩)
  refine ((callsIn_wide (n := 5)).1 (AnyZ.sorted_in sortedL Fence.wide 5 trivial trivial trivial trivial rfl (by omega) (sortsL _) (enters_of Tryz.func64 (by kernel_rfl) rfl) 65 #[.pointer (some ⟨w.heap.size, 0, none⟩)] trivial (enters_of Tryz.func65 (by kernel_rfl) rfl) _ _ hmax hbytes _ hseq)).mono ?_
  rintro e w' ⟨v, ss, he, hP, hrow, _, hb⟩
  exact ⟨v, ss, he, hP, hrow, hb⟩
theorem sort_perm {a b : List (List UInt8)} (h : a.Perm b) (hb : b.Pairwise fun x y => decide (x ≤ y) = true) : a.mergeSort (fun x y => decide (x ≤ y)) = b := by
  have hp : (a.mergeSort (fun x y => decide (x ≤ y))).Perm b := (List.mergeSort_perm _ _).trans h
  have hs : (a.mergeSort (fun x y => decide (x ≤ y))).Pairwise fun x y => decide (x ≤ y) = true :=
    List.pairwise_mergeSort (le := fun x y => decide (x ≤ y)) (fun x y z h1 h2 => by simp only [decide_eq_true_eq] at *; exact List.le_trans h1 h2) (fun x y => by simp only [Bool.or_eq_true, decide_eq_true_eq]; exact List.le_total x y) a
  exact hp.eq_of_pairwise (le := fun x y => decide (x ≤ y) = true) (fun x y _ _ h1 h2 => by simp only [decide_eq_true_eq] at h1 h2; exact List.le_antisymm h1 h2) hs hb
theorem strKeys_entries (m : List (ByteArray × J)) (E : Nat → Value) : strKeys (DataW.map (entries m E)) = m.map fun p => p.1.data.toList := by
  unfold strKeys entries
  apply List.ext_getElem?
  intro i
  simp only [List.getElem?_map, List.getElem?_mapIdx]
  cases m[i]? <;> rfl
theorem keys_pairwise {ks : List ByteArray} (rise : ∀ i (hi : i + 1 < ks.length), Op.bytesLess ks[i].toList ks[i + 1].toList = true) : (ks.map fun k => k.data.toList).Pairwise fun x y => decide (x ≤ y) = true := by
  rw [List.pairwise_map, List.pairwise_iff_getElem]
  intro i j hi hj hij
  have := rise_all ks rise j hj i hij
  rw [← ByteArray.toList_eq, ← ByteArray.toList_eq]
  rw [bLess_eq] at this
  simp only [decide_eq_true_eq] at this ⊢
  exact Std.le_of_lt this
theorem enc_keys (ks : List ByteArray) : (ks.map fun k => k.data.toList).map encStr = ks.map .string := by
  rw [List.map_map]
  apply List.map_congr_left
  intro k _
  rfl
end Go.Proofs.YtpaebanmaboaiaaGreatDoor

namespace Go.Proofs.YtpaebanmaboaiaaGreatDoor
open Go Go.RowKit Go.Maps Go.Sort Go.Deep
/-- What a row of keys holds. -/
def keyAt (ss : List (List UInt8)) (j : Nat) : Value := if h : j < ss.length then encStr ss[j] else .string ⟨#[]⟩
theorem keyAt_push (ss : List (List UInt8)) (x : List UInt8) (j : Nat) : keyAt (ss ++ [x]) j = if j = ss.length then encStr x else keyAt ss j := by
  unfold keyAt
  by_cases h : j < ss.length
  · rw [dif_pos (by simp; omega), if_neg (by omega), dif_pos h, List.getElem_append_left h]
  · by_cases e : j = ss.length
    · subst e
      rw [dif_pos (by simp), if_pos rfl]
      simp
    · rw [dif_neg (by simp; omega), if_neg e, dif_neg h]
theorem holds_row {w : World} {b : Nat} {t : TypeId} {n : Nat} {ss : List (List UInt8)} (h : w.rowIs b t n (keyAt ss)) (hn : ss.length = n) : Holds encStr w b 0 ss.toArray := by
  intro j hj
  have hj' : j < ss.length := by simpa using hj
  refine ⟨?_, h.frozen _⟩
  rw [Nat.zero_add, h.cell (by omega)]
  unfold keyAt
  rw [dif_pos hj']
  simp [hj']
theorem row_sorted {w : World} {b n : Nat} {t : TypeId} {f : Nat → Value} {ts : List (List UInt8)} (h : w.rowIs b t n f) (hn : ts.length = n) (k : Nat) (os : Array Obj) :
    (grow (putRow encStr (Sort.ahead w k) b 0 ts.toArray) os).rowIs b t n (keyAt ts) := by
  obtain ⟨c, hb, hc, _⟩ := h
  refine ⟨_, heap_sorted _ hb, by simp [putCells, hc], fun i hi => ?_⟩
  unfold keyAt
  rw [dif_pos (by omega)]
  simp [putCells, hc, hi, hn]
def StringsP (b : Nat) (n : Nat) (ss : List (List UInt8)) (w : World) (e : Ending) (w' : World) : Prop :=
  e = .returned (.tuple #[]) ∧ w.grownBy w' (some b) ∧ w'.rowIs b 9 n (keyAt (ss.mergeSort fun x y => decide (x ≤ y)))
set_option maxRecDepth 100000 in
theorem strings_any (b cap n : Nat) (ss : List (List UInt8)) (w : World) (h : w.rowIs b 9 n (keyAt ss)) (hn : ss.length = n) (hsz : n < 4611686018427387904) :
    Calls Tryz.prog 135 #[.slice (some ⟨b, 0, none⟩) n cap] w (StringsP b n ss w) := by
  have S := Lib.hid (AnyM.slices_Sort_string sortL b 0 cap ss w (holds_row h hn) h.lt (by omega))
  have Hfin : Hid (∀ k os, StringsP b n ss w (.returned (.tuple #[])) (grow (putRow encStr (Sort.ahead w k) b 0 (ss.mergeSort fun x y => decide (x ≤ y)).toArray) os)) :=
    Lib.hid fun k os => ⟨rfl, grownBy_sorted _, row_sorted h (by simp [hn]) k os⟩
  rw [hn] at S
  clear h hn hsz
  go_enter Tryz.func135, Tryz.ntmps135
  go_wp2_with fail
  refine S.out.mono ?_
  rintro e w2 ⟨rfl, k, os, rfl⟩
  clear S
  have F := Lib.hid (Hfin.out k os)
  clear Hfin
  generalize grow (putRow encStr (Sort.ahead w k) b 0 (ss.mergeSort fun x y => decide (x ≤ y)).toArray) os = w3 at F ⊢
  go_wp2_with fail
  go_end0
  exact F.out
theorem gset (w : World) (a : Addr) (u : Value) : w.grownBy (w.setCell a u) (some a.block) := by
  refine ⟨rfl, rfl, rfl, by simp [World.setCell], fun k hk hne => Below.heap_setCell _ _ _ _ fun e => hne (by rw [e])⟩
/-- A row of the keys, the call's own. -/
def KeysP (w : World) (ks : List ByteArray) (e : Ending) (w' : World) : Prop :=
  ∃ (b c : Nat), e = .returned (.slice (some ⟨b, 0, none⟩) ks.length c) ∧ w.heap.size ≤ b ∧ Below w.heap.size w w' ∧ ∀ i (hi : i < ks.length), w'.cell? ⟨b, i, none⟩ = some (.string ks[i])
def KLoop (w : World) (r n : Nat) (m : List (ByteArray × J)) (E : Nat → Value) (i : Value) (wr : World) : Prop :=
  ∃ (left : Lit → Bool) (cnt : Nat) (ss : List (List UInt8)), wr.ranges Tryz.prog 9 heldR r (w.heap.size + 1) n (.map (entries m E)) left cnt ∧ Collected (.map (entries m E)) left ss ∧ i = .int .i64 (ss.length : Nat) ∧
    Below w.heap.size w wr ∧ wr.rowIs w.heap.size 9 m.length (keyAt ss) ∧ cnt + ss.length ≤ m.length
theorem info_str : (Tryz.prog.info? 9).map (fun i => (i.zero, i.size, i.bytes)) = some (some (.string ⟨#[]⟩), 1, 16) := by kernel_rfl
theorem heldR_val {v : Value} {y : DataW Value × List MemPlace} (_ : heldR v = some y) : ∃ c, v = id c := ⟨v, rfl⟩
set_option maxHeartbeats 2000000 in
set_option maxRecDepth 100000 in
theorem gkeys_any (r : Nat) (m : List (ByteArray × J)) (E : Nat → Value) (ks : List ByteArray) (hks : m.map (fun p => p.1.data.toList) = ks.map fun k => k.data.toList) (hrise : (ks.map fun k => k.data.toList).Pairwise fun x y => decide (x ≤ y) = true)
    (hl : m.length * 16 ≤ 140737488351232) (w : World) (hm : MapAt w r m E) :
    Calls Tryz.prog 99 #[.map (some r)] w (KeysP w ks) := by
  have hlen : m.length = ks.length := by have := congrArg List.length hks; simpa using this
  have hmk := run_make_row' (P := Tryz.prog) 24 9 (.string ⟨#[]⟩) 16 Tryz.underlying24 info_str rfl .i64 .i64 m.length (by omega) (by omega)
  have hln := hm.len
  obtain ⟨n, hn, hown⟩ := hm
  have hrl := hown.lt
  have hown1 : (w.alloc (.cells (madeCells #[.string ⟨#[]⟩] m.length) 9)).ownsMap Tryz.prog 9 heldR r n (.map (entries m E)) := by
    obtain ⟨es, clock, hb, Ft, hs, hD⟩ := hown
    exact ⟨es, clock, (Below.heap_alloc _ _ r hrl).trans hb, Ft, hs, hD⟩
  have Hown1 := Lib.hid hown1
  have hrow0 : (w.alloc (.cells (madeCells #[.string ⟨#[]⟩] m.length) 9)).rowIs w.heap.size 9 m.length (keyAt []) :=
    (World.rowIs_made w (.string ⟨#[]⟩) m.length 9).congr fun i _ => by simp [keyAt]
  have Hrow0 := Lib.hid hrow0
  have Hsz : Hid ((w.alloc (.cells (madeCells #[.string ⟨#[]⟩] m.length) 9)).heap.size = w.heap.size + 1) := Lib.hid (by simp)
  have Hks := Lib.hid hks
  have Hlen := Lib.hid hlen
  have Hrise := Lib.hid hrise
  clear hown hown1 hrow0 hks hrise hlen
  go_enter Tryz.func99, Tryz.ntmps99
  go_wp2_with (first
    | (at_range; refine wpList_range_own _ rfl _ 52 rfl 9 20 law_str Tryz.underlying52 heldR r n (.map (entries m E)) rfl Hown1.out ?_; intro w0 hrg0 hg0 hs0; rw [Hsz.out] at hrg0 ⊢)
    | go_in)
  try go_frame
  go_loopw [4] (fun i wr => KLoop w r n m E i wr) (fun _ wr => wr.rangeLeft r (w.heap.size + 1))
  case atStart =>
    refine ⟨_, _, [], hrg0, Collected.start _, rfl, (below_alloc1 w _).grown hg0 (by simp) (by simp), rowIs_carry Hrow0.out (hg0.block _ (by simp) (by simp)), ?_⟩
    rw [Maps.size_eq, entries_len]
    simp
  case round =>
    obtain ⟨left, cnt, ss, hrg, hC, rfl, hb, hrow, hcnt⟩ := hrel
    go_wp2_with (first
      | (at_next; refine wpList_next_ranges _ rfl _ rfl 9 law_str heldR encStr id (fun key kl h => by obtain ⟨x, hx, _⟩ := Maps.keyOf_str Tryz.underlying9 h; exact ⟨x, hx⟩) (fun _ _ h => heldR_val h) r (w.heap.size + 1) n _ _ _ rfl hrg ?_ ?_)
      | go_in)
    · intro hc0 hl0
      have hp := hC.perm hrg.owns law_str Tryz.underlying9 hl0
      rw [strKeys_entries, Hks.out] at hp
      have hsl : ss.length = m.length := by have := hp.length_eq; have := Hlen.out; simp at *; omega
      have hsort := sort_perm hp Hrise.out
      have T := Lib.hid (strings_any w.heap.size m.length m.length ss wr hrow hsl (by omega))
      have Hb := Lib.hid hb
      have Hsort := Lib.hid hsort
      clear hrow hC hrg hl0 hb hsort
      go_wp2_with fail
      refine T.out.mono ?_
      rintro e w3 ⟨rfl, hg3, hrow3⟩
      clear T
      rw [Hsort.out] at hrow3
      have Hfin : Hid (KeysP w ks (.returned (.slice (some ⟨w.heap.size, 0, none⟩) m.length m.length)) w3) :=
        Lib.hid ⟨w.heap.size, m.length, by rw [Hlen.out], Nat.le_refl _, Hb.out.grown hg3 (Hb.out.size) (fun k hk => by cases hk; exact Nat.le_refl _), fun i hi => by
          rw [hrow3.cell (by have := Hlen.out; omega)]
          simp [keyAt, hi]⟩
      clear hrow3 hg3
      go_wp2_with fail
      go_ret
      exact Hfin.out
    · intro x c kl y y2 w1 cnt1 hkey hlk hy hat hrg1 hlt hg1 hs1 hen
      obtain ⟨x', ex, rfl, _⟩ := Maps.keyOf_str Tryz.underlying9 hkey
      obtain rfl := encStr_inj ex
      have hC1 := hC.step hlk hat
      have hwlt := hb.size
      have hrow1 := rowIs_carry hrow (hg1.block w.heap.size (by have := hrow.lt; omega) (by simp))
      have hcell : w1.cell? ⟨w.heap.size, ss.length, none⟩ = some (keyAt ss ss.length) := hrow1.cell (by omega)
      have hfr : w1.frozen? ⟨w.heap.size, ss.length, none⟩ = false := hrow1.frozen _
      have Hrow2 : Hid ((w1.setCell ⟨w.heap.size, ss.length, none⟩ (encStr x)).rowIs w.heap.size 9 m.length (keyAt (ss ++ [x]))) :=
        Lib.hid ((hrow1.set ss.length (encStr x)).congr fun i _ => (keyAt_push ss x i).symm)
      have Hb1 : Hid (Below w.heap.size w (w1.setCell ⟨w.heap.size, ss.length, none⟩ (encStr x))) :=
        Lib.hid ((hb.grown hg1 hb.size (fun k hk => by cases hk; omega)).setCell (p := ⟨w.heap.size, ss.length, none⟩) (Nat.le_refl _) _)
      have Hrg2 : Hid ((w1.setCell ⟨w.heap.size, ss.length, none⟩ (encStr x)).ranges Tryz.prog 9 heldR r (w.heap.size + 1) n (.map (entries m E)) (fun z => left z && !z.sameKey (.string x)) cnt1) :=
        Lib.hid (hrg1.kept (gset w1 ⟨w.heap.size, ss.length, none⟩ (encStr x)) (by simp; omega) (by simp))
      have HC1 := Lib.hid hC1
      have Hrg := Lib.hid hrg
      have hlt' : ss.length < m.length := by omega
      clear hkey hlk hy hat hrg1 hrg hC1 hC hrow hrow1 hb hg1
      go_wp2_with fail
      go_roundw
      case rel => exact ⟨_, cnt1, ss ++ [x], Hrg2.out, HC1.out, by simp <;> go_num, Hb1.out, Hrow2.out, by simp; omega⟩
      case measure => rw [Hrg2.out.left_eq, Hrg.out.left_eq]; exact hlt
end Go.Proofs.YtpaebanmaboaiaaGreatDoor
namespace Go.Proofs.YtpaebanmaboaiaaGreatDoor
open Go Go.RowKit Go.Maps Go.Deep
attribute [local go_sem] assert_jsonNumber assert_jsonNumber_nil assert_int assert_int_nil assert_float64 assert_float64_nil assert_pbigInt assert_pbigInt_nil assert_string assert_string_nil assert_sl assert_sl_nil assert_m assert_m_nil assert_bool assert_bool_nil
/-- What a row of keys, as anys, holds. -/
def anyKey (ks : List ByteArray) (j : Nat) : Value := if h : j < ks.length then .iface 9 (.string ks[j]) else .nilIface
theorem anyKey_take (ks : List ByteArray) (n : Nat) (hn : n < ks.length) (j : Nat) : anyKey (ks.take (n + 1)) j = if j = n then .iface 9 (.string ks[n]) else anyKey (ks.take n) j := by
  unfold anyKey
  by_cases h : j < n
  · rw [dif_pos (by simp; omega), if_neg (by omega), dif_pos (by simp; omega)]
    simp
  · by_cases e : j = n
    · subst e
      rw [dif_pos (by simp; omega), if_pos rfl]
      simp
    · rw [dif_neg (by simp; omega), if_neg e, dif_neg (by simp; omega)]
def FKeysP (w : World) (ks : List ByteArray) (e : Ending) (w' : World) : Prop :=
  ∃ (b : Nat), e = .returned (.iface 49 (.slice (some ⟨b, 0, none⟩) ks.length ks.length)) ∧ w.heap.size ≤ b ∧ Below w.heap.size w w' ∧ w'.rowIs b 20 ks.length (anyKey ks)
def FLoop (w : World) (ks : List ByteArray) (kb : Nat) (i : Value) (wr : World) : Prop :=
  ∃ n : Nat, n ≤ ks.length ∧ i = .int .i64 (n : Nat) ∧ Below w.heap.size w wr ∧ wr.rowIs w.heap.size 20 ks.length (anyKey (ks.take n)) ∧ ∀ i (hi : i < ks.length), wr.cell? ⟨kb, i, none⟩ = some (.string ks[i])
set_option maxHeartbeats 2000000 in
set_option maxRecDepth 100000 in
theorem fkeys_any (r : Nat) (m : List (ByteArray × J)) (E : Nat → Value) (ks : List ByteArray) (hks : m.map (fun p => p.1.data.toList) = ks.map fun k => k.data.toList) (hrise : (ks.map fun k => k.data.toList).Pairwise fun x y => decide (x ≤ y) = true)
    (hl : m.length * 16 ≤ 140737488351232) (w : World) (hm : MapAt w r m E) :
    Calls Tryz.prog 77 #[.iface 52 (.map (some r))] w (FKeysP w ks) := by
  have hlen : m.length = ks.length := by have := congrArg List.length hks; simpa using this
  have hmk := run_make_row' (P := Tryz.prog) 49 20 .nilIface 16 Tryz.underlying49 info_any rfl .i64 .i64 ks.length (by omega) (by omega)
  have hln := hm.len
  have hrl : r < w.heap.size := by obtain ⟨n, hn, hown⟩ := hm; exact hown.lt
  have T := Lib.hid (gkeys_any r m E ks hks hrise hl (w.alloc (.cells (madeCells #[.nilIface] ks.length) 20)) (hm.carry (Below.heap_alloc _ _ r hrl)))
  have hrow0 : (w.alloc (.cells (madeCells #[.nilIface] ks.length) 20)).rowIs w.heap.size 20 ks.length (anyKey (ks.take 0)) :=
    (World.rowIs_made w .nilIface ks.length 20).congr fun i _ => by simp [anyKey]
  have Hrow0 := Lib.hid hrow0
  rw [hlen] at hl hln
  clear hrow0 hks hrise hm hlen
  go_enter Tryz.func77, Tryz.ntmps77
  go_wp2_with fail
  refine T.out.mono ?_
  rintro e w2 ⟨kb, kc, rfl, hkb, hb2, hcells⟩
  have hkb' : w.heap.size < kb := by simp at hkb; omega
  have Hat : Hid (FLoop w ks kb (.int .i64 0) w2) := Lib.hid ⟨0, Nat.zero_le _, rfl, below_next (below_alloc1 w _) hb2, rowIs_carry Hrow0.out (hb2.block _ (by simp)), hcells⟩
  clear T hkb hb2 hcells Hrow0
  go_wp2_with fail
  go_loopw [44] (fun i wr => FLoop w ks kb i wr) (fun i _ => ks.length - (intOf i).toNat)
  case atStart => exact Hat.out
  case round =>
    obtain ⟨n, hn, rfl, hb, hrow, hcells⟩ := hrel
    by_cases h1 : n < ks.length
    · have y1 := hcells n h1
      have hcell : wr.cell? ⟨w.heap.size, n, none⟩ = some (anyKey (ks.take n) n) := hrow.cell h1
      have hfr : wr.frozen? ⟨w.heap.size, n, none⟩ = false := hrow.frozen _
      have Hn : Hid (∀ i, i = .int .i64 ((n + 1 : Nat) : Int) → FLoop w ks kb i (wr.setCell ⟨w.heap.size, n, none⟩ (.iface 9 (.string ks[n])))) :=
        Lib.hid fun i hi => ⟨n + 1, by omega, hi, hb.setCell (p := ⟨w.heap.size, n, none⟩) (Nat.le_refl _) _, (hrow.set n _).congr fun i _ => (anyKey_take ks n h1 i).symm, fun i hi => by
          rw [← hcells i hi]
          simp [World.cell?, Below.heap_setCell _ ⟨w.heap.size, n, none⟩ _ kb (by simp; omega)]⟩
      have u1 : (n : Int) < (ks.length : Int) := by omega
      have u3 : (0 : Int) ≤ (n : Int) := by omega
      clear hrow hcells Hat
      go_wp2_with fail
      go_roundw
      case rel =>
        exact Hn.out _ (by go_num)
      case measure => simp [intOf]; omega
    · have e : n = ks.length := by omega
      subst e
      rw [List.take_length] at hrow
      have Hfin : Hid (FKeysP w ks (.returned (.iface 49 (.slice (some ⟨w.heap.size, 0, none⟩) ks.length ks.length))) wr) := Lib.hid ⟨_, rfl, Nat.le_refl _, hb, hrow⟩
      clear hrow hcells Hat
      go_wp2_with fail
      go_ret
      exact Hfin.out
end Go.Proofs.YtpaebanmaboaiaaGreatDoor

namespace Go.Proofs.YtpaebanmaboaiaaGreatDoor
open Go Go.RowKit Go.Maps Go.Deep
attribute [local go_sem] assert_jsonNumber assert_jsonNumber_nil assert_int assert_int_nil assert_float64 assert_float64_nil assert_pbigInt assert_pbigInt_nil assert_string assert_string_nil assert_sl assert_sl_nil assert_m assert_m_nil assert_bool assert_bool_nil
theorem run_assert1 {P : Program} {T xT : TypeId} {d : TypeDesc} (hd : P.underlying T = some d) (hni : ∀ ms, d ≠ .interface ms) (v : Value) (w : World) :
    (Instr.typeAssert (.iface T v) xT T false).run P w = .ok v w := by
  unfold Instr.typeAssert
  cases d <;> first | (exact absurd rfl (hni _)) | simp [run_underlying hd, Result.andThen]
theorem assert1_sl (v : Value) (w : World) : (Instr.typeAssert (.iface 49 v) 20 49 false).run Tryz.prog w = .ok v w := run_assert1 Tryz.underlying49 (fun _ h => by cases h) v w
theorem assert1_str (v : Value) (w : World) : (Instr.typeAssert (.iface 9 v) 20 9 false).run Tryz.prog w = .ok v w := run_assert1 Tryz.underlying9 (fun _ h => by cases h) v w
attribute [local go_sem] assert1_sl assert1_str
theorem cmp_strs (s t : ByteArray) (w : World) : Calls Tryz.prog 60 #[.iface 9 (.string s), .iface 9 (.string t)] w (IntP w (textsC s t)) :=
  compare_of _ _ _ w (bini_ss _ _ _ _ _ _ _ _ _ w _ (enters_of Tryz.func74 (by kernel_rfl) rfl) (same_ret (cmps_any _ _ w)))
theorem signI_texts (a b : ByteArray) : signI (textsC a b) = textsC a b := by
  unfold textsC signI
  split
  · rfl
  · split <;> rfl
def keyC (ks ks' : List ByteArray) (i : Nat) : Int := if h : i < ks.length ∧ i < ks'.length then textsC (ks[i]'h.1) (ks'[i]'h.2) else 0
theorem keyC_at (ks ks' : List ByteArray) (i : Nat) (h1 : i < ks.length) (h2 : i < ks'.length) : keyC ks ks' i = textsC ks[i] ks'[i] := dif_pos ⟨h1, h2⟩
theorem keys_firsts (ks ks' : List ByteArray) : Firsts ks.length ks'.length (keyC ks ks') (fun n => signI (keysC (ks.drop n) (ks'.drop n))) := by
  refine ⟨fun n h1 h2 => ?_, fun n h h1 h2 => ?_⟩
  · simp only [keyC_at ks ks' n h1 h2, keysC_drop ks ks' n h1 h2]
    split
    · rfl
    · exact signI_texts _ _
  · show signI _ = _
    rw [keysC_end ks ks' n h h1 h2]
theorem keys_cmp (ks ks' : List ByteArray) (b b' : Nat) (hl : ks.length * 16 ≤ 140737488351232) (w : World) (hr : w.rowIs b 20 ks.length (anyKey ks)) (hr' : w.rowIs b' 20 ks'.length (anyKey ks')) :
    Calls Tryz.prog 60 #[.iface 49 (.slice (some ⟨b, 0, none⟩) ks.length ks.length), .iface 49 (.slice (some ⟨b', 0, none⟩) ks'.length ks'.length)] w (IntP w (signI (keysC ks ks'))) := by
  refine compare_of _ _ _ w (bini_aa _ _ _ _ _ _ _ _ _ _ _ _ _ w _ (enters_of Tryz.func75 (by kernel_rfl) rfl) (intp_ret ?_))
  refine arrs_of w w.heap.size ks.length ks'.length _ _ _ _ (anyKey ks) (anyKey ks') (fun _ => ⟨b, 0, rfl, hr.lt, fun i hi => by rw [Nat.zero_add]; exact hr.cell hi⟩) (fun _ => ⟨b', 0, rfl, hr'.lt, fun i hi => by rw [Nat.zero_add]; exact hr'.cell hi⟩)
    (fun i hi => by unfold anyKey; rw [dif_pos hi]; rfl) (fun i hi => by unfold anyKey; rw [dif_pos hi]; rfl) _ _ (fun i h1 h2 w' _ _ => ?_) (keys_firsts ks ks') hl w (Below.refl _ _) (Nat.le_refl _)
  unfold anyKey
  rw [dif_pos h1, dif_pos h2]
  rw [keyC_at ks ks' i h1 h2]
  exact cmp_strs _ _ w'
def MRest (c : Int) (rest : Nat → Int) : Int := if c = 0 then rest 0 else c
set_option maxHeartbeats 4000000 in
set_option maxRecDepth 100000 in
theorem maps_of (w0 : World) (B r r' : Nat) (ks ks' : List ByteArray) (vs vs' : List V) (E E' : Nat → Value) (hm : MapAt w0 r (toJM ks vs) E) (hm' : MapAt w0 r' (toJM ks' vs') E') (hr : r < B) (hr' : r' < B)
    (p : ks.length = vs.length) (p' : ks'.length = vs'.length) (rise : ∀ i (hi : i + 1 < ks.length), Op.bytesLess ks[i].toList ks[i + 1].toList = true) (rise' : ∀ i (hi : i + 1 < ks'.length), Op.bytesLess ks'[i].toList ks'[i + 1].toList = true)
    (hl : ks.length * 16 ≤ 140737488351232) (hl' : ks'.length * 16 ≤ 140737488351232) (hs : ∀ s ∈ ks, s.size ≤ 140737488351232) (hs' : ∀ s ∈ ks', s.size ≤ 140737488351232)
    (C rest : Nat → Int) (hC : ks = ks' → ∀ i, i < ks.length → CmpAt w0 B (E i) (E' i) (C i)) (hrest : Firsts ks.length ks.length C rest) (w : World) (hbel : Below B w0 w) (hB : B ≤ w.heap.size) :
    Calls Tryz.prog 76 #[.map (some r), .map (some r')] w (IntP w (MRest (signI (keysC ks ks')) rest)) := by
  have ml := toJM_len ks vs p
  have ml' := toJM_len ks' vs' p'
  have hk1 : (toJM ks vs).map (fun p => p.1.data.toList) = ks.map fun k => k.data.toList := by
    apply List.ext_getElem (by simp [ml])
    intro i h1 h2
    simp only [List.getElem_map]
    rw [toJM_get ks vs p i (by simpa using h2)]
  have hk2 : (toJM ks' vs').map (fun p => p.1.data.toList) = ks'.map fun k => k.data.toList := by
    apply List.ext_getElem (by simp [ml'])
    intro i h1 h2
    simp only [List.getElem_map]
    rw [toJM_get ks' vs' p' i (by simpa using h2)]
  have T1 := Lib.hid (fkeys_any r _ E ks hk1 (keys_pairwise rise) (by omega) w (hm.carry (hbel.block _ hr)))
  have T2 : Hid (∀ w1, Below w.heap.size w w1 → Calls Tryz.prog 77 #[.iface 52 (.map (some r'))] w1 (FKeysP w1 ks')) :=
    Lib.hid fun w1 hb1 => fkeys_any r' _ E' ks' hk2 (keys_pairwise rise') (by omega) w1 (hm'.carry ((hb1.block _ (by omega)).trans (hbel.block _ hr')))
  have G1 : Hid (∀ w1, Below w.heap.size w w1 → ∀ i (hi : i < ks.length), (Instr.lookup 52 (.map (some r)) (.string ks[i]) false).run Tryz.prog w1 = .ok (E i) w1) :=
    Lib.hid fun w1 hb1 i hi => by
      have := (hm.carry ((hb1.block r (by omega)).trans (hbel.block _ hr))).get (apart_toJM p rise) (i := i) (by omega) (by rw [toJM_get ks vs p i hi]; exact hs _ (List.getElem_mem hi))
      rw [toJM_get ks vs p i hi] at this
      exact this
  have G2 : Hid (∀ w1, Below w.heap.size w w1 → ∀ i (hi : i < ks'.length), (Instr.lookup 52 (.map (some r')) (.string ks'[i]) false).run Tryz.prog w1 = .ok (E' i) w1) :=
    Lib.hid fun w1 hb1 i hi => by
      have := (hm'.carry ((hb1.block r' (by omega)).trans (hbel.block _ hr'))).get (apart_toJM p' rise') (i := i) (by omega) (by rw [toJM_get ks' vs' p' i hi]; exact hs' _ (List.getElem_mem hi))
      rw [toJM_get ks' vs' p' i hi] at this
      exact this
  have HC : Hid (ks = ks' → ∀ w1, Below w.heap.size w w1 → ∀ i, i < ks.length → Calls Tryz.prog 60 #[E i, E' i] w1 (IntP w1 (C i))) :=
    Lib.hid fun e w1 hb1 i hi => hC e i hi w1 (hbel.trans (hb1.mono hB)) (by have := hb1.size; omega)
  have Hrest := Lib.hid hrest
  have hll := hl
  clear hm hm' hbel hC hrest rise rise' hk1 hk2 ml ml' hs hs' hr hr' hB hl'
  clear p p'
  go_enter Tryz.func76, Tryz.ntmps76
  go_wp2_with fail
  refine T1.out.mono ?_
  rintro e w1 ⟨b1, rfl, hb1, hbel1, hrow1⟩
  have T3 := Lib.hid (T2.out w1 hbel1)
  have Hbel1 := Lib.hid hbel1
  have Hrow1 := Lib.hid hrow1
  clear T1 T2 hb1 hbel1 hrow1
  go_wp2_with fail
  refine T3.out.mono ?_
  rintro e w2 ⟨b2, rfl, hb2, hbel2, hrow2⟩
  have hrow1 := rowIs_carry Hrow1.out (hbel2.block b1 Hrow1.out.lt)
  have hbw2 := below_next Hbel1.out hbel2
  have T4 := Lib.hid (keys_cmp ks ks' b1 b2 hll w2 hrow1 hrow2)
  have Hrow := Lib.hid hrow1
  have Hbw2 := Lib.hid hbw2
  clear T3 Hbel1 Hrow1 hb2 hbel2 hrow2 hrow1 hbw2
  go_wp2_with fail
  refine T4.out.mono ?_
  rintro e w3 ⟨rfl, hbel3⟩
  have hbw3 := below_next Hbw2.out hbel3
  have Hrow3 := Lib.hid (rowIs_carry Hrow.out (hbel3.block b1 Hrow.out.lt))
  have Hbw3 := Lib.hid hbw3
  clear T4 Hrow Hbw2 hbel3 hbw3
  by_cases hz : signI (keysC ks ks') = 0
  · have ek := keysC_zero.1 (signI_zero.1 hz)
    have HF : Hid (MRest (signI (keysC ks ks')) rest = rest 0) := Lib.hid (by unfold MRest; rw [if_pos hz])
    rw [hz]
    have HC2 := Lib.hid (HC.out ek)
    clear hz HC
    subst ek
    go_wp2_with fail
    go_loopw [26] (fun i wr => TwoLoop w3 ks.length ks.length rest (rest 0) i wr) (fun i _ => ks.length - (intOf i).toNat)
    case atStart => exact ⟨0, Nat.zero_le _, Nat.zero_le _, rfl, Below.refl _ _, rfl⟩
    case round =>
      obtain ⟨n, hn, hn', rfl, hb, hfin⟩ := hrel
      have Hfin := Lib.hid hfin; clear hfin
      have hbw := below_next Hbw3.out hb
      by_cases h1 : n < ks.length
      · have y1 : wr.cell? ⟨b1, n, none⟩ = some (.iface 9 (.string ks[n])) := by
          have := (rowIs_carry Hrow3.out (hb.block b1 Hrow3.out.lt)).cell h1
          unfold anyKey at this
          rw [dif_pos h1] at this
          exact this
        have g1 := G1.out wr.drew hbw.drew n h1
        have g2 := G2.out wr.drew hbw.drew n h1
        have HI := Lib.hid (HC2.out wr.drew hbw.drew n h1)
        have a1 := fun w => assert1_str (.string ks[n]) w
        have hd := Hrest.out.1 n h1 h1
        have Hd := Lib.hid (Hfin.out.symm.trans hd); clear hd
        have u1 : (n : Int) < (ks.length : Int) := by omega
        have u3 : (0 : Int) ≤ (n : Int) := by omega
        have a2 := fun v w => assert1_sl v w
        go_wp2_with fail
        refine wp_region_tail 8 (by kernel_rfl) (by kernel_rfl) ?_
        simp only [List.take_succ_cons, List.take_zero, List.drop_succ_cons, List.drop_zero]
        repeat (go_big_quiet_step (fail))
        refine wpQuiet_nil ?_
        clear u1 u3 y1 g1 g2 a1 a2
        go_wp2_with fail
        refine HI.out.mono ?_
        rintro e w4 ⟨rfl, hb3⟩
        have hb4 : Below w3.heap.size w3 w4 := hb.drew.trans (hb3.mono hb.size)
        have hb5 := below_next Hbw3.out hb4
        clear HI
        generalize C n = cc at Hd
        by_cases hc : cc = 0
        · have Hd2 := Lib.hid (Hd.out.trans (if_pos hc)); clear Hd
          subst hc
          go_wp2_with fail
          go_roundw
          case rel => exact ⟨n + 1, by omega, by omega, by go_num, hb4, Hd2.out.symm⟩
          case measure => simp [intOf]; omega
        · have Hd2 := Lib.hid (Hd.out.trans (if_neg hc)); clear Hd
          have tc : (cc != 0) = true := by simpa using hc
          clear hc
          go_wp2_with fail
          go_ret
          exact ⟨by rw [HF.out, Hd2.out]; rfl, hb5⟩
      · have hd := Hrest.out.2 n (by omega) hn hn
        have Hd := Lib.hid (Hfin.out.symm.trans (hd.trans (by rw [Int.sub_self]; rfl : _ = (0 : Int)))); clear hd
        go_wp2_with fail
        go_ret
        exact ⟨by rw [HF.out, Hd.out]; rfl, hbw⟩
  · have HF : Hid (MRest (signI (keysC ks ks')) rest = signI (keysC ks ks')) := Lib.hid (by unfold MRest; rw [if_neg hz])
    obtain ⟨cc, hcc⟩ : ∃ cc, signI (keysC ks ks') = cc := ⟨_, rfl⟩
    have HF2 := Lib.hid (HF.out.trans hcc)
    rw [hcc] at hz ⊢
    have tc : (cc != 0) = true := by simpa using hz
    clear HF HC hcc
    go_wp2_with fail
    go_ret
    exact ⟨by rw [HF2.out]; rfl, Hbw3.out⟩
end Go.Proofs.YtpaebanmaboaiaaGreatDoor
