/- The library's contracts on maps.Keys, slices.Sorted and slices.Sort at this program, laid in plain words (by the kit's lay-iter and lay-plain, names by wip/marks.py); what they give at a map that holds a tree's entries. -/
import Derived.Shelf.SlIter.Nil
import Derived.Shelf.SortM.Plain
import Derived.Shelf.SortM.SortNone
import Derived.Ground.GgzProg
import Derived.Ground.SlgmProg
import Derived.Test.YtmcahfcihhddjaaGreatDoorMapJ
import Derived.Test.YtmcahfcihhddjaaGreatDoorCmpV
namespace Go.Proofs.YtmcahfcihhddjaaGreatDoor
open Go Go.RowKit Go.Maps Go.Sort Go.Shelf

def keysL_ren : Go.Shelf.Ren := ⟨fun | 7 => 81 | 10 => 104 | n => n, fun | 23 => 67 | 26 => 9 | 3 => 20 | 28 => 114 | 0 => 0 | 27 => 113 | 33 => 110 | 4 => 4 | n => n, fun | n => n⟩
theorem keysL : Go.Proofs.SlLaysZ.n7 Tryz.prog keysL_ren := {
  mixed := by kernel_rfl
  f7 := ⟨Tryz.f81.name, by decide, Tryz.func81.trans (congrArg some (by kernel_rfl))⟩
  f10 := ⟨Tryz.f104.name, by decide, Tryz.func104.trans (congrArg some (by kernel_rfl))⟩
  t0 := Tryz.underlying0
  a0 := Tryz.isAgg0
  z0 := Tryz.sizeOf0
  v0 := Tryz.zeroValue0
  t4 := Tryz.underlying4
  a4 := Tryz.isAgg4
  z4 := Tryz.sizeOf4
  v4 := Tryz.zeroValue4
  t23 := Tryz.underlying67
  a23 := Tryz.isAgg67
  z23 := Tryz.sizeOf67
  v23 := Tryz.zeroValue67
  t26 := Tryz.underlying9
  a26 := Tryz.isAgg9
  z26 := Tryz.sizeOf9
  v26 := Tryz.zeroValue9
  t27 := Tryz.underlying113
  a27 := Tryz.isAgg113
  z27 := Tryz.sizeOf113
  v27 := Tryz.zeroValue113
  t28 := Tryz.underlying114
  a28 := Tryz.isAgg114
  z28 := Tryz.sizeOf114
  v28 := Tryz.zeroValue114
  t33 := Tryz.underlying110
  a33 := Tryz.isAgg110
  z33 := Tryz.sizeOf110
  v33 := Tryz.zeroValue110 }
def sortedL_ren : Go.Shelf.Ren := ⟨fun | 6 => 80 | 8 => 102 | 9 => 103 | 11 => 131 | 13 => 133 | 12 => 132 | 23 => 159 | 24 => 160 | 14 => 150 | 15 => 151 | 16 => 152 | 17 => 153 | 18 => 154 | 19 => 155 | 20 => 156 | 21 => 157 | 22 => 158 | 25 => 173 | 26 => 174 | 27 => 175 | 28 => 176 | 29 => 177 | 30 => 126 | 31 => 187 | n => n, fun | 26 => 9 | 28 => 114 | 24 => 24 | 0 => 0 | 3 => 3 | 37 => 140 | 48 => 155 | 50 => 121 | 4 => 4 | 40 => 189 | 39 => 188 | 45 => 54 | 5 => 5 | 9 => 9 | 51 => 208 | 55 => 211 | 57 => 223 | 58 => 224 | 33 => 110 | n => n, fun | n => n⟩
theorem sortedL : Go.Proofs.SlLaysZ.n6 Tryz.prog sortedL_ren := {
  mixed := by kernel_rfl
  f6 := ⟨Tryz.f80.name, by decide, Tryz.func80.trans (congrArg some (by kernel_rfl))⟩
  f8 := ⟨Tryz.f102.name, by decide, Tryz.func102.trans (congrArg some (by kernel_rfl))⟩
  f11 := ⟨Tryz.f131.name, by decide, Tryz.func131.trans (congrArg some (by kernel_rfl))⟩
  t0 := Tryz.underlying0
  a0 := Tryz.isAgg0
  z0 := Tryz.sizeOf0
  v0 := Tryz.zeroValue0
  t24 := Tryz.underlying24
  a24 := Tryz.isAgg24
  z24 := Tryz.sizeOf24
  v24 := Tryz.zeroValue24
  t26 := Tryz.underlying9
  a26 := Tryz.isAgg9
  z26 := Tryz.sizeOf9
  v26 := Tryz.zeroValue9
  t28 := Tryz.underlying114
  a28 := Tryz.isAgg114
  z28 := Tryz.sizeOf114
  v28 := Tryz.zeroValue114
  i26 := by kernel_rfl }
def sortL_ren : Go.Shelf.Ren := ⟨fun | 6 => 103 | 8 => 133 | 9 => 132 | 19 => 159 | 20 => 160 | 21 => 150 | 22 => 151 | 23 => 152 | 24 => 153 | 25 => 154 | 26 => 155 | 27 => 156 | 28 => 157 | 29 => 158 | 36 => 173 | 31 => 174 | 32 => 175 | 37 => 176 | 38 => 177 | 39 => 126 | 41 => 187 | n => n, fun | 27 => 24 | 29 => 9 | 3 => 3 | 32 => 140 | 26 => 24 | 0 => 0 | 44 => 155 | 46 => 121 | 4 => 4 | 36 => 189 | 35 => 188 | 41 => 54 | 5 => 5 | 9 => 9 | 53 => 208 | 57 => 211 | 63 => 223 | 64 => 224 | n => n, fun | n => n⟩
theorem sortL : Go.Proofs.SlLaysM.n6 Tryz.prog sortL_ren := {
  mixed := by kernel_rfl
  f6 := ⟨Tryz.f103.name, by decide, Tryz.func103.trans (congrArg some (by kernel_rfl))⟩
  f8 := Tryz.func133.trans (congrArg some (by kernel_rfl))
  f9 := ⟨Tryz.f132.name, by decide, Tryz.func132.trans (congrArg some (by kernel_rfl))⟩
  f19 := Tryz.func159.trans (congrArg some (by kernel_rfl))
  f20 := Tryz.func160.trans (congrArg some (by kernel_rfl))
  f21 := ⟨Tryz.f150.name, by decide, Tryz.func150.trans (congrArg some (by kernel_rfl))⟩
  f22 := ⟨Tryz.f151.name, by decide, Tryz.func151.trans (congrArg some (by kernel_rfl))⟩
  f23 := ⟨Tryz.f152.name, by decide, Tryz.func152.trans (congrArg some (by kernel_rfl))⟩
  f24 := ⟨Tryz.f153.name, by decide, Tryz.func153.trans (congrArg some (by kernel_rfl))⟩
  f25 := ⟨Tryz.f154.name, by decide, Tryz.func154.trans (congrArg some (by kernel_rfl))⟩
  f26 := ⟨Tryz.f155.name, by decide, Tryz.func155.trans (congrArg some (by kernel_rfl))⟩
  f27 := ⟨Tryz.f156.name, by decide, Tryz.func156.trans (congrArg some (by kernel_rfl))⟩
  f28 := ⟨Tryz.f157.name, by decide, Tryz.func157.trans (congrArg some (by kernel_rfl))⟩
  f29 := ⟨Tryz.f158.name, by decide, Tryz.func158.trans (congrArg some (by kernel_rfl))⟩
  f31 := Tryz.func174.trans (congrArg some (by kernel_rfl))
  f32 := Tryz.func175.trans (congrArg some (by kernel_rfl))
  f36 := ⟨Tryz.f173.name, by decide, Tryz.func173.trans (congrArg some (by kernel_rfl))⟩
  f37 := ⟨Tryz.f176.name, by decide, Tryz.func176.trans (congrArg some (by kernel_rfl))⟩
  f38 := ⟨Tryz.f177.name, by decide, Tryz.func177.trans (congrArg some (by kernel_rfl))⟩
  f39 := ⟨Tryz.f126.name, by decide, Tryz.func126.trans (congrArg some (by kernel_rfl))⟩
  f41 := ⟨Tryz.f187.name, by decide, Tryz.func187.trans (congrArg some (by kernel_rfl))⟩
  t0 := Tryz.underlying0
  a0 := Tryz.isAgg0
  z0 := Tryz.sizeOf0
  v0 := Tryz.zeroValue0
  t3 := Tryz.underlying3
  a3 := Tryz.isAgg3
  z3 := Tryz.sizeOf3
  v3 := Tryz.zeroValue3
  t4 := Tryz.underlying4
  a4 := Tryz.isAgg4
  z4 := Tryz.sizeOf4
  v4 := Tryz.zeroValue4
  t5 := Tryz.underlying5
  a5 := Tryz.isAgg5
  z5 := Tryz.sizeOf5
  v5 := Tryz.zeroValue5
  t9 := Tryz.underlying9
  a9 := Tryz.isAgg9
  z9 := Tryz.sizeOf9
  v9 := Tryz.zeroValue9
  t26 := Tryz.underlying24
  a26 := Tryz.isAgg24
  z26 := Tryz.sizeOf24
  v26 := Tryz.zeroValue24
  t27 := Tryz.underlying24
  a27 := Tryz.isAgg24
  z27 := Tryz.sizeOf24
  v27 := Tryz.zeroValue24
  t29 := Tryz.underlying9
  a29 := Tryz.isAgg9
  z29 := Tryz.sizeOf9
  v29 := Tryz.zeroValue9
  t32 := Tryz.underlying140
  a32 := Tryz.isAgg140
  z32 := Tryz.sizeOf140
  v32 := Tryz.zeroValue140
  t35 := Tryz.underlying188
  a35 := Tryz.isAgg188
  z35 := Tryz.sizeOf188
  v35 := Tryz.zeroValue188
  t36 := Tryz.underlying189
  a36 := Tryz.isAgg189
  z36 := Tryz.sizeOf189
  v36 := Tryz.zeroValue189
  t41 := Tryz.underlying54
  a41 := Tryz.isAgg54
  z41 := Tryz.sizeOf54
  v41 := Tryz.zeroValue54
  t44 := Tryz.underlying155
  a44 := Tryz.isAgg155
  z44 := Tryz.sizeOf155
  v44 := Tryz.zeroValue155
  t46 := Tryz.underlying121
  a46 := Tryz.isAgg121
  z46 := Tryz.sizeOf121
  v46 := Tryz.zeroValue121
  t53 := Tryz.underlying208
  a53 := Tryz.isAgg208
  z53 := Tryz.sizeOf208
  v53 := Tryz.zeroValue208
  t57 := Tryz.underlying211
  a57 := Tryz.isAgg211
  z57 := Tryz.sizeOf211
  v57 := Tryz.zeroValue211
  t63 := Tryz.underlying223
  a63 := Tryz.isAgg223
  z63 := Tryz.sizeOf223
  v63 := Tryz.zeroValue223
  t64 := Tryz.underlying224
  a64 := Tryz.isAgg224
  z64 := Tryz.sizeOf224
  v64 := Tryz.zeroValue224 }

theorem sortsL (m : Nat) : AnyZ.SortsIn Tryz.prog sortedL_ren Fence.wide m :=
  ⟨fun blk off cap ss W hH hblk hsz => callsIn_wide.2 (AnyM.slices_Sort_string sortL blk off cap ss W hH hblk hsz),
   fun p cap W => callsIn_wide.2 (AnyM.slices_Sort_string_none sortL p cap W)⟩

theorem mapsKeys_any (mb : Option Nat) (w : World) : Calls Tryz.prog 81 #[.map mb] w fun e w' => e = .returned (.func (.func 104) #[] #[.pointer (some ⟨w.heap.size, 0, none⟩)]) ∧ w' = w.alloc (.cells #[.map mb] 67) :=
  (callsIn_wide (n := 5)).1 (AnyZ.keys_in keysL Fence.wide 5 trivial rfl mb w)

/-- What slices.Sorted leaves. -/
def SortedP (w : World) (P : List (List UInt8) → Prop) (e : Ending) (w' : World) : Prop :=
  ∃ (v : Value) (ss : List (List UInt8)), e = .returned v ∧ P ss ∧ w'.ownsRow w.heap.size 9 1 v ss.length ((ss.mergeSort (fun x y => decide (x ≤ y))).map encStr) ∧ Below w.heap.size w w'

set_option maxHeartbeats 1000000 in
theorem sortedKeys_any {H : Type} (b nn : Nat) (D0 : DataW H) (R : Value → Option (DataW H × List MemPlace)) (w : World) (hown : w.ownsMap Tryz.prog 9 R b nn D0) (hmax : Maps.size D0 ≤ maxLen) (hbytes : Maps.size D0 * 16 ≤ 140737488355328) :
    Calls Tryz.prog 80 #[.func (.func 104) #[] #[.pointer (some ⟨w.heap.size, 0, none⟩)]] (w.alloc (.cells #[.map (some b)] 67)) (SortedP (w.alloc (.cells #[.map (some b)] 67)) (fun ss => ss.Perm (strKeys D0))) := by
  have hbl := hown.lt
  have hseq : SeqGives Fence.wide 2 Tryz.prog 104 #[.pointer (some ⟨w.heap.size, 0, none⟩)] encStr (fun ss => ss.Perm (strKeys D0)) (Maps.size D0) (w.alloc (.cells #[.map (some b)] 67)) :=
    AnyZ.keys_gives (ρ := keysL_ren) { keysL with } Fence.wide _ trivial rfl (by omega) w.heap.size b nn D0 _ (by simp) (by simp) (by
      obtain ⟨es, clock, hb, Ft, hs, hD⟩ := hown
      exact ⟨es, clock, (Below.heap_alloc _ _ b hbl).trans hb, Ft, hs, hD⟩)
  refine ((callsIn_wide (n := 5)).1 (AnyZ.sorted_in sortedL Fence.wide 5 trivial trivial trivial trivial rfl (by omega) (sortsL _) (enters_of Tryz.func103 (by kernel_rfl) rfl) 104 #[.pointer (some ⟨w.heap.size, 0, none⟩)] trivial (enters_of Tryz.func104 (by kernel_rfl) rfl) _ _ hmax hbytes _ hseq)).mono ?_
  rintro e w' ⟨v, ss, he, hP, hrow, _, hb⟩
  exact ⟨v, ss, he, hP, hrow, hb⟩

theorem sort_perm {a b : List (List UInt8)} (h : a.Perm b) (hb : b.Pairwise fun x y => decide (x ≤ y) = true) : a.mergeSort (fun x y => decide (x ≤ y)) = b := by
  have hp : (a.mergeSort (fun x y => decide (x ≤ y))).Perm b := (List.mergeSort_perm _ _).trans h
  have hs : (a.mergeSort (fun x y => decide (x ≤ y))).Pairwise fun x y => decide (x ≤ y) = true :=
    List.pairwise_mergeSort (le := fun x y => decide (x ≤ y)) (fun x y z h1 h2 => by simp only [decide_eq_true_eq] at *; exact List.le_trans h1 h2) (fun x y => by simp only [Bool.or_eq_true, decide_eq_true_eq]; exact List.le_total x y) a
  exact hp.eq_of_pairwise (le := fun x y => decide (x ≤ y) = true) (fun x y _ _ h1 h2 => by simp only [decide_eq_true_eq] at h1 h2; exact List.le_antisymm h1 h2) hs hb

theorem strKeys_entries (m : List (ByteArray × J)) (E : Nat → Value) : strKeys (DataW.map (entries m E)) = m.map fun p => p.1.data.toList := by
  unfold strKeys entries
  apply List.ext_getElem?
  intro i
  simp only [List.getElem?_map, List.getElem?_mapIdx]
  cases m[i]? <;> rfl

theorem keys_pairwise {ks : List ByteArray} (rise : ∀ i (hi : i + 1 < ks.length), Op.bytesLess ks[i].toList ks[i + 1].toList = true) : (ks.map fun k => k.data.toList).Pairwise fun x y => decide (x ≤ y) = true := by
  rw [List.pairwise_map, List.pairwise_iff_getElem]
  intro i j hi hj hij
  have := rise_all ks rise j hj i hij
  rw [← ByteArray.toList_eq, ← ByteArray.toList_eq]
  rw [bLess_eq] at this
  simp only [decide_eq_true_eq] at this ⊢
  exact Std.le_of_lt this

theorem enc_keys (ks : List ByteArray) : (ks.map fun k => k.data.toList).map encStr = ks.map .string := by
  rw [List.map_map]
  apply List.map_congr_left
  intro k _
  rfl

end Go.Proofs.YtmcahfcihhddjaaGreatDoor
