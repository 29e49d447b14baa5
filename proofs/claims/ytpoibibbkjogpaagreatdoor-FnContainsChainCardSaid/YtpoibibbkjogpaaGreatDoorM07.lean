/- Go maps that hold a tree's entries: what is read out of them. No function is walked here. -/
/- The library's contracts on maps.Keys, slices.Sorted and slices.Sort at this program, laid in plain words (by the kit's lay-iter and lay-plain, names by wip/marks.py); what they give at a map that holds a tree's entries. -/
/- Contract of impl.mapFromGo: the rows that it grows. No function is walked here. -/
/- A region that draws its order: an operation that only reads may be taken first, where what it reads stands behind each operation that may come before it. (Beside the library's OrdersHeld: the condition may differ from operation to operation.) No program in sight. -/
import Derived.Test.YtpoibibbkjogpaaGreatDoorM06
import Derived.Shelf.SlIter.Nil
import Derived.Shelf.SortM.Plain
import Derived.Shelf.SortM.SortNone
import Derived.Ground.GgzProg
import Derived.Ground.SlgmProg
import Derived.Test.YtpoibibbkjogpaaGreatDoorM01
import Derived.Test.YtpoibibbkjogpaaGreatDoorM05
import Derived.Deep.AppendLies
import Derived.OrdersHeld
namespace Go.Proofs.YtpoibibbkjogpaaGreatDoor
open Go Go.RowKit Go.Maps Go.Deep Go.WideMaps

theorem entries_len (m : List (ByteArray × J)) (E : Nat → Value) : (entries m E).length = m.length := by simp [entries]
theorem entries_get (m : List (ByteArray × J)) (E : Nat → Value) (i : Nat) (hi : i < (entries m E).length) :
    (entries m E)[i] = (Lit.string (m[i]'(by rw [← entries_len m E]; exact hi)).1.data.toList, DataW.held (E i)) := by simp [entries]

/-- No key twice. -/
def Apart (m : List (ByteArray × J)) : Prop := ∀ i j (hi : i < m.length) (hj : j < m.length), m[i].1 = m[j].1 → i = j

theorem same_str (a b : List UInt8) : Lit.sameKey (.string a) (.string b) = (a == b) := rfl

theorem data_inj {a b : ByteArray} (h : a.data.toList = b.data.toList) : a = b := by
  obtain ⟨⟨x⟩⟩ := a
  obtain ⟨⟨y⟩⟩ := b
  simp at h
  rw [h]

theorem atKey_at {m : List (ByteArray × J)} {E : Nat → Value} (ha : Apart m) {i : Nat} (hi : i < m.length) (z : DataW Value) :
    (DataW.map (entries m E)).atKey (.string m[i].1.data.toList) z = .held (E i) := by
  have hf : (entries m E).find? (fun p => p.1.sameKey (.string m[i].1.data.toList)) = some (Lit.string m[i].1.data.toList, DataW.held (E i)) := by
    rw [List.find?_eq_some_iff_getElem]
    refine ⟨by simp [same_str], i, by rw [entries_len]; exact hi, entries_get m E i _, fun j hj => ?_⟩
    rw [entries_get]
    simp only [same_str, Bool.not_eq_true', beq_eq_false_iff_ne]
    intro e
    have := ha j i (by omega) hi (data_inj e)
    omega
  simp only [DataW.atKey, hf]
theorem atKey_miss {m : List (ByteArray × J)} {E : Nat → Value} {k : ByteArray} (hk : ∀ p ∈ m, p.1 ≠ k) (z : DataW Value) :
    (DataW.map (entries m E)).atKey (.string k.data.toList) z = z := by
  have hf : (entries m E).find? (fun p => p.1.sameKey (.string k.data.toList)) = none := by
    rw [List.find?_eq_none]
    intro p hp
    obtain ⟨i, hi, rfl⟩ := List.mem_iff_getElem.1 hp
    rw [entries_get]
    simp only [same_str, beq_iff_eq]
    intro e
    exact hk _ (List.getElem_mem (by rw [← entries_len m E]; exact hi)) (data_inj e)
  simp only [DataW.atKey, hf]
theorem has_at {m : List (ByteArray × J)} {E : Nat → Value} {i : Nat} (hi : i < m.length) : Maps.has (DataW.map (entries m E)) (.string m[i].1.data.toList) = true := by
  unfold Maps.has
  rw [List.any_eq_true]
  exact ⟨_, List.getElem_mem (by rw [entries_len]; exact hi), by rw [entries_get m E i]; simp [same_str]⟩
theorem has_miss {m : List (ByteArray × J)} {E : Nat → Value} {k : ByteArray} (hk : ∀ p ∈ m, p.1 ≠ k) : Maps.has (DataW.map (entries m E)) (.string k.data.toList) = false := by
  unfold Maps.has
  rw [List.any_eq_false]
  intro p hp
  obtain ⟨i, hi, rfl⟩ := List.mem_iff_getElem.1 hp
  rw [entries_get]
  simp only [same_str, beq_iff_eq]
  intro e
  exact hk _ (List.getElem_mem (by rw [← entries_len m E]; exact hi)) (data_inj e)

theorem zero_any (w : World) : (zeroValue 20).run Tryz.prog w = .ok .nilIface w := by kernel_rfl
theorem heldR_inv {v : Value} {d : DataW Value} {ps : List MemPlace} (h : heldR v = some (d, ps)) : d = .held v := by
  unfold heldR at h
  simp at h
  exact h.1.symm

theorem MapAt.get {w : World} {r : Nat} {m : List (ByteArray × J)} {E : Nat → Value} (h : MapAt w r m E) (ha : Apart m) {i : Nat} (hi : i < m.length) (hs : m[i].1.size ≤ 140737488351232) :
    (Instr.lookup 62 (.map (some r)) (.string m[i].1) false).run Tryz.prog w = .ok (E i) w := by
  obtain ⟨n, _, hown⟩ := h
  obtain ⟨v, ps, hrun, hv⟩ := hown.lookup law_str Tryz.underlying62 (zero_any w) (zd := .held .nilIface) (zp := []) rfl (keyOf_string_mk (s := m[i].1) Tryz.underlying9 (by unfold maxLen; omega))
  rw [atKey_at ha hi] at hv
  have := heldR_inv hv
  cases this
  exact hrun
theorem MapAt.getOk {w : World} {r : Nat} {m : List (ByteArray × J)} {E : Nat → Value} (h : MapAt w r m E) (ha : Apart m) {i : Nat} (hi : i < m.length) (hs : m[i].1.size ≤ 140737488351232) :
    (Instr.lookup 62 (.map (some r)) (.string m[i].1) true).run Tryz.prog w = .ok (.tuple #[E i, .bool true]) w := by
  obtain ⟨n, _, hown⟩ := h
  obtain ⟨v, ps, hrun, hv⟩ := hown.look_ok law_str Tryz.underlying62 (zero_any w) (zd := .held .nilIface) (zp := []) rfl (keyOf_string_mk (s := m[i].1) Tryz.underlying9 (by unfold maxLen; omega))
  rw [atKey_at ha hi] at hv
  rw [has_at hi] at hrun
  have := heldR_inv hv
  cases this
  exact hrun
theorem MapAt.miss {w : World} {r : Nat} {m : List (ByteArray × J)} {E : Nat → Value} (h : MapAt w r m E) {k : ByteArray} (hk : ∀ p ∈ m, p.1 ≠ k) (hs : k.size ≤ 140737488351232) :
    (Instr.lookup 62 (.map (some r)) (.string k) false).run Tryz.prog w = .ok .nilIface w := by
  obtain ⟨n, _, hown⟩ := h
  obtain ⟨v, ps, hrun, hv⟩ := hown.lookup law_str Tryz.underlying62 (zero_any w) (zd := .held .nilIface) (zp := []) rfl (keyOf_string_mk (s := k) Tryz.underlying9 (by unfold maxLen; omega))
  rw [atKey_miss hk] at hv
  have := heldR_inv hv
  cases this
  exact hrun
theorem MapAt.missOk {w : World} {r : Nat} {m : List (ByteArray × J)} {E : Nat → Value} (h : MapAt w r m E) {k : ByteArray} (hk : ∀ p ∈ m, p.1 ≠ k) (hs : k.size ≤ 140737488351232) :
    (Instr.lookup 62 (.map (some r)) (.string k) true).run Tryz.prog w = .ok (.tuple #[.nilIface, .bool false]) w := by
  obtain ⟨n, _, hown⟩ := h
  obtain ⟨v, ps, hrun, hv⟩ := hown.look_ok law_str Tryz.underlying62 (zero_any w) (zd := .held .nilIface) (zp := []) rfl (keyOf_string_mk (s := k) Tryz.underlying9 (by unfold maxLen; omega))
  rw [atKey_miss hk] at hv
  rw [has_miss hk] at hrun
  have := heldR_inv hv
  cases this
  exact hrun
theorem MapAt.len {w : World} {r : Nat} {m : List (ByteArray × J)} {E : Nat → Value} (h : MapAt w r m E) (ty : TypeId) :
    (Builtin.len_ #[62] ty #[.map (some r)]).run Tryz.prog w = .ok (.int .i64 m.length) w := by
  obtain ⟨n, _, hown⟩ := h
  have := hown.len Tryz.underlying62 ty
  rw [Maps.size_eq, entries_len] at this
  exact this

theorem less_ne {a b : ByteArray} (h : Op.bytesLess a.toList b.toList = true) : a ≠ b := by
  rintro rfl
  rw [bl_irrefl] at h
  cases h

theorem apart_toJM {ks : List ByteArray} {vs : List V} (hlen : ks.length = vs.length) (rise : ∀ i (hi : i + 1 < ks.length), Op.bytesLess ks[i].toList ks[i + 1].toList = true) : Apart (toJM ks vs) := by
  intro i j hi hj h
  rw [toJM_len _ _ hlen] at hi hj
  rw [toJM_get _ _ hlen i hi, toJM_get _ _ hlen j hj] at h
  simp only at h
  rcases Nat.lt_trichotomy i j with c | c | c
  · exact absurd h (less_ne (rise_all ks rise j hj i c))
  · exact c
  · exact absurd h.symm (less_ne (rise_all ks rise i hi j c))

end Go.Proofs.YtpoibibbkjogpaaGreatDoor

namespace Go.Proofs.YtpoibibbkjogpaaGreatDoor
open Go Go.RowKit Go.Maps Go.Sort Go.Shelf

def keysL_ren : Go.Shelf.Ren := ⟨fun | 7 => 64 | 10 => 89 | n => n, fun | 23 => 62 | 26 => 9 | 3 => 20 | 28 => 106 | 0 => 0 | 27 => 105 | 33 => 102 | 4 => 4 | n => n, fun | n => n⟩
theorem keysL : Go.Proofs.SlLaysZ.n7 Tryz.prog keysL_ren := {
  mixed := by kernel_rfl
  f7 := ⟨Tryz.f64.name, by decide, Tryz.func64.trans (congrArg some (by kernel_rfl))⟩
  f10 := ⟨Tryz.f89.name, by decide, Tryz.func89.trans (congrArg some (by kernel_rfl))⟩
  t0 := Tryz.underlying0
  a0 := Tryz.isAgg0
  z0 := Tryz.sizeOf0
  v0 := Tryz.zeroValue0
  t4 := Tryz.underlying4
  a4 := Tryz.isAgg4
  z4 := Tryz.sizeOf4
  v4 := Tryz.zeroValue4
  t23 := Tryz.underlying62
  a23 := Tryz.isAgg62
  z23 := Tryz.sizeOf62
  v23 := Tryz.zeroValue62
  t26 := Tryz.underlying9
  a26 := Tryz.isAgg9
  z26 := Tryz.sizeOf9
  v26 := Tryz.zeroValue9
  t27 := Tryz.underlying105
  a27 := Tryz.isAgg105
  z27 := Tryz.sizeOf105
  v27 := Tryz.zeroValue105
  t28 := Tryz.underlying106
  a28 := Tryz.isAgg106
  z28 := Tryz.sizeOf106
  v28 := Tryz.zeroValue106
  t33 := Tryz.underlying102
  a33 := Tryz.isAgg102
  z33 := Tryz.sizeOf102
  v33 := Tryz.zeroValue102 }
def sortedL_ren : Go.Shelf.Ren := ⟨fun | 6 => 63 | 8 => 87 | 9 => 88 | 11 => 117 | 13 => 119 | 12 => 118 | 23 => 161 | 24 => 162 | 14 => 152 | 15 => 153 | 16 => 154 | 17 => 155 | 18 => 156 | 19 => 157 | 20 => 158 | 21 => 159 | 22 => 160 | 25 => 181 | 26 => 182 | 27 => 183 | 28 => 184 | 29 => 185 | 30 => 179 | 31 => 199 | n => n, fun | 26 => 9 | 28 => 106 | 24 => 24 | 0 => 0 | 3 => 3 | 37 => 156 | 48 => 175 | 50 => 182 | 4 => 4 | 40 => 226 | 39 => 225 | 45 => 138 | 5 => 5 | 9 => 9 | 51 => 252 | 55 => 255 | 57 => 269 | 58 => 270 | 33 => 102 | n => n, fun | n => n⟩
theorem sortedL : Go.Proofs.SlLaysZ.n6 Tryz.prog sortedL_ren := {
  mixed := by kernel_rfl
  f6 := ⟨Tryz.f63.name, by decide, Tryz.func63.trans (congrArg some (by kernel_rfl))⟩
  f8 := ⟨Tryz.f87.name, by decide, Tryz.func87.trans (congrArg some (by kernel_rfl))⟩
  f11 := ⟨Tryz.f117.name, by decide, Tryz.func117.trans (congrArg some (by kernel_rfl))⟩
  t0 := Tryz.underlying0
  a0 := Tryz.isAgg0
  z0 := Tryz.sizeOf0
  v0 := Tryz.zeroValue0
  t24 := Tryz.underlying24
  a24 := Tryz.isAgg24
  z24 := Tryz.sizeOf24
  v24 := Tryz.zeroValue24
  t26 := Tryz.underlying9
  a26 := Tryz.isAgg9
  z26 := Tryz.sizeOf9
  v26 := Tryz.zeroValue9
  t28 := Tryz.underlying106
  a28 := Tryz.isAgg106
  z28 := Tryz.sizeOf106
  v28 := Tryz.zeroValue106
  i26 := by kernel_rfl }
def sortL_ren : Go.Shelf.Ren := ⟨fun | 6 => 88 | 8 => 119 | 9 => 118 | 19 => 161 | 20 => 162 | 21 => 152 | 22 => 153 | 23 => 154 | 24 => 155 | 25 => 156 | 26 => 157 | 27 => 158 | 28 => 159 | 29 => 160 | 36 => 181 | 31 => 182 | 32 => 183 | 37 => 184 | 38 => 185 | 39 => 179 | 41 => 199 | n => n, fun | 27 => 24 | 29 => 9 | 3 => 3 | 32 => 156 | 26 => 24 | 0 => 0 | 44 => 175 | 46 => 182 | 4 => 4 | 36 => 226 | 35 => 225 | 41 => 138 | 5 => 5 | 9 => 9 | 53 => 252 | 57 => 255 | 63 => 269 | 64 => 270 | n => n, fun | n => n⟩
theorem sortL : Go.Proofs.SlLaysM.n6 Tryz.prog sortL_ren := {
  mixed := by kernel_rfl
  f6 := ⟨Tryz.f88.name, by decide, Tryz.func88.trans (congrArg some (by kernel_rfl))⟩
  f8 := Tryz.func119.trans (congrArg some (by kernel_rfl))
  f9 := ⟨Tryz.f118.name, by decide, Tryz.func118.trans (congrArg some (by kernel_rfl))⟩
  f19 := Tryz.func161.trans (congrArg some (by kernel_rfl))
  f20 := Tryz.func162.trans (congrArg some (by kernel_rfl))
  f21 := ⟨Tryz.f152.name, by decide, Tryz.func152.trans (congrArg some (by kernel_rfl))⟩
  f22 := ⟨Tryz.f153.name, by decide, Tryz.func153.trans (congrArg some (by kernel_rfl))⟩
  f23 := ⟨Tryz.f154.name, by decide, Tryz.func154.trans (congrArg some (by kernel_rfl))⟩
  f24 := ⟨Tryz.f155.name, by decide, Tryz.func155.trans (congrArg some (by kernel_rfl))⟩
  f25 := ⟨Tryz.f156.name, by decide, Tryz.func156.trans (congrArg some (by kernel_rfl))⟩
  f26 := ⟨Tryz.f157.name, by decide, Tryz.func157.trans (congrArg some (by kernel_rfl))⟩
  f27 := ⟨Tryz.f158.name, by decide, Tryz.func158.trans (congrArg some (by kernel_rfl))⟩
  f28 := ⟨Tryz.f159.name, by decide, Tryz.func159.trans (congrArg some (by kernel_rfl))⟩
  f29 := ⟨Tryz.f160.name, by decide, Tryz.func160.trans (congrArg some (by kernel_rfl))⟩
  f31 := Tryz.func182.trans (congrArg some (by kernel_rfl))
  f32 := Tryz.func183.trans (congrArg some (by kernel_rfl))
  f36 := ⟨Tryz.f181.name, by decide, Tryz.func181.trans (congrArg some (by kernel_rfl))⟩
  f37 := ⟨Tryz.f184.name, by decide, Tryz.func184.trans (congrArg some (by kernel_rfl))⟩
  f38 := ⟨Tryz.f185.name, by decide, Tryz.func185.trans (congrArg some (by kernel_rfl))⟩
  f39 := ⟨Tryz.f179.name, by decide, Tryz.func179.trans (congrArg some (by kernel_rfl))⟩
  f41 := ⟨Tryz.f199.name, by decide, Tryz.func199.trans (congrArg some (by kernel_rfl))⟩
  t0 := Tryz.underlying0
  a0 := Tryz.isAgg0
  z0 := Tryz.sizeOf0
  v0 := Tryz.zeroValue0
  t3 := Tryz.underlying3
  a3 := Tryz.isAgg3
  z3 := Tryz.sizeOf3
  v3 := Tryz.zeroValue3
  t4 := Tryz.underlying4
  a4 := Tryz.isAgg4
  z4 := Tryz.sizeOf4
  v4 := Tryz.zeroValue4
  t5 := Tryz.underlying5
  a5 := Tryz.isAgg5
  z5 := Tryz.sizeOf5
  v5 := Tryz.zeroValue5
  t9 := Tryz.underlying9
  a9 := Tryz.isAgg9
  z9 := Tryz.sizeOf9
  v9 := Tryz.zeroValue9
  t26 := Tryz.underlying24
  a26 := Tryz.isAgg24
  z26 := Tryz.sizeOf24
  v26 := Tryz.zeroValue24
  t27 := Tryz.underlying24
  a27 := Tryz.isAgg24
  z27 := Tryz.sizeOf24
  v27 := Tryz.zeroValue24
  t29 := Tryz.underlying9
  a29 := Tryz.isAgg9
  z29 := Tryz.sizeOf9
  v29 := Tryz.zeroValue9
  t32 := Tryz.underlying156
  a32 := Tryz.isAgg156
  z32 := Tryz.sizeOf156
  v32 := Tryz.zeroValue156
  t35 := Tryz.underlying225
  a35 := Tryz.isAgg225
  z35 := Tryz.sizeOf225
  v35 := Tryz.zeroValue225
  t36 := Tryz.underlying226
  a36 := Tryz.isAgg226
  z36 := Tryz.sizeOf226
  v36 := Tryz.zeroValue226
  t41 := Tryz.underlying138
  a41 := Tryz.isAgg138
  z41 := Tryz.sizeOf138
  v41 := Tryz.zeroValue138
  t44 := Tryz.underlying175
  a44 := Tryz.isAgg175
  z44 := Tryz.sizeOf175
  v44 := Tryz.zeroValue175
  t46 := Tryz.underlying182
  a46 := Tryz.isAgg182
  z46 := Tryz.sizeOf182
  v46 := Tryz.zeroValue182
  t53 := Tryz.underlying252
  a53 := Tryz.isAgg252
  z53 := Tryz.sizeOf252
  v53 := Tryz.zeroValue252
  t57 := Tryz.underlying255
  a57 := Tryz.isAgg255
  z57 := Tryz.sizeOf255
  v57 := Tryz.zeroValue255
  t63 := Tryz.underlying269
  a63 := Tryz.isAgg269
  z63 := Tryz.sizeOf269
  v63 := Tryz.zeroValue269
  t64 := Tryz.underlying270
  a64 := Tryz.isAgg270
  z64 := Tryz.sizeOf270
  v64 := Tryz.zeroValue270 }

theorem sortsL (m : Nat) : AnyZ.SortsIn Tryz.prog sortedL_ren Fence.wide m :=
  ⟨fun blk off cap ss W hH hblk hsz => callsIn_wide.2 (AnyM.slices_Sort_string sortL blk off cap ss W hH hblk hsz),
   fun p cap W => callsIn_wide.2 (AnyM.slices_Sort_string_none sortL p cap W)⟩

theorem mapsKeys_any (mb : Option Nat) (w : World) : Calls Tryz.prog 64 #[.map mb] w fun e w' => e = .returned (.func (.func 89) #[] #[.pointer (some ⟨w.heap.size, 0, none⟩)]) ∧ w' = w.alloc (.cells #[.map mb] 62) :=
  (callsIn_wide (n := 5)).1 (AnyZ.keys_in keysL Fence.wide 5 trivial rfl mb w)

/-- What slices.Sorted leaves. -/
def SortedP (w : World) (P : List (List UInt8) → Prop) (e : Ending) (w' : World) : Prop :=
  ∃ (v : Value) (ss : List (List UInt8)), e = .returned v ∧ P ss ∧ w'.ownsRow w.heap.size 9 1 v ss.length ((ss.mergeSort (fun x y => decide (x ≤ y))).map encStr) ∧ Below w.heap.size w w'

set_option maxHeartbeats 1000000 in
theorem sortedKeys_any {H : Type} (b nn : Nat) (D0 : DataW H) (R : Value → Option (DataW H × List MemPlace)) (w : World) (hown : w.ownsMap Tryz.prog 9 R b nn D0) (hmax : Maps.size D0 ≤ maxLen) (hbytes : Maps.size D0 * 16 ≤ 140737488355328) :
    Calls Tryz.prog 63 #[.func (.func 89) #[] #[.pointer (some ⟨w.heap.size, 0, none⟩)]] (w.alloc (.cells #[.map (some b)] 62)) (SortedP (w.alloc (.cells #[.map (some b)] 62)) (fun ss => ss.Perm (strKeys D0))) := by
  have hbl := hown.lt
  have hseq : SeqGives Fence.wide 2 Tryz.prog 89 #[.pointer (some ⟨w.heap.size, 0, none⟩)] encStr (fun ss => ss.Perm (strKeys D0)) (Maps.size D0) (w.alloc (.cells #[.map (some b)] 62)) :=
    AnyZ.keys_gives (ρ := keysL_ren) { keysL with } Fence.wide _ trivial rfl (by omega) w.heap.size b nn D0 _ (by simp) (by simp) (by
      obtain ⟨es, clock, hb, Ft, hs, hD⟩ := hown
      exact ⟨es, clock, (Below.heap_alloc _ _ b hbl).trans hb, Ft, hs, hD⟩)
  refine ((callsIn_wide (n := 5)).1 (AnyZ.sorted_in sortedL Fence.wide 5 trivial trivial trivial trivial rfl (by omega) (sortsL _) (enters_of Tryz.func88 (by kernel_rfl) rfl) 89 #[.pointer (some ⟨w.heap.size, 0, none⟩)] trivial (enters_of Tryz.func89 (by kernel_rfl) rfl) _ _ hmax hbytes _ hseq)).mono ?_
  rintro e w' ⟨v, ss, he, hP, hrow, _, hb⟩
  exact ⟨v, ss, he, hP, hrow, hb⟩

theorem sort_perm {a b : List (List UInt8)} (h : a.Perm b) (hb : b.Pairwise fun x y => decide (x ≤ y) = true) : a.mergeSort (fun x y => decide (x ≤ y)) = b := by
  have hp : (a.mergeSort (fun x y => decide (x ≤ y))).Perm b := (List.mergeSort_perm _ _).trans h
  have hs : (a.mergeSort (fun x y => decide (x ≤ y))).Pairwise fun x y => decide (x ≤ y) = true :=
    List.pairwise_mergeSort (le := fun x y => decide (x ≤ y)) (fun x y z h1 h2 => by simp only [decide_eq_true_eq] at *; exact List.le_trans h1 h2) (fun x y => by simp only [Bool.or_eq_true, decide_eq_true_eq]; exact List.le_total x y) a
  exact hp.eq_of_pairwise (le := fun x y => decide (x ≤ y) = true) (fun x y _ _ h1 h2 => by simp only [decide_eq_true_eq] at h1 h2; exact List.le_antisymm h1 h2) hs hb

theorem strKeys_entries (m : List (ByteArray × J)) (E : Nat → Value) : strKeys (DataW.map (entries m E)) = m.map fun p => p.1.data.toList := by
  unfold strKeys entries
  apply List.ext_getElem?
  intro i
  simp only [List.getElem?_map, List.getElem?_mapIdx]
  cases m[i]? <;> rfl

theorem keys_pairwise {ks : List ByteArray} (rise : ∀ i (hi : i + 1 < ks.length), Op.bytesLess ks[i].toList ks[i + 1].toList = true) : (ks.map fun k => k.data.toList).Pairwise fun x y => decide (x ≤ y) = true := by
  rw [List.pairwise_map, List.pairwise_iff_getElem]
  intro i j hi hj hij
  have := rise_all ks rise j hj i hij
  rw [← ByteArray.toList_eq, ← ByteArray.toList_eq]
  rw [bLess_eq] at this
  simp only [decide_eq_true_eq] at this ⊢
  exact Std.le_of_lt this

theorem enc_keys (ks : List ByteArray) : (ks.map fun k => k.data.toList).map encStr = ks.map .string := by
  rw [List.map_map]
  apply List.map_congr_left
  intro k _
  rfl

end Go.Proofs.YtpoibibbkjogpaaGreatDoor

namespace Go.Proofs.YtpoibibbkjogpaaGreatDoor
open Go Go.RowKit Go.Maps Go.Deep

/-- kv is a row of the keys, vv one of the values, both of the call's own; the values lie beside both. -/
def MapRows (w : World) (lo : Nat) (kv vv : Value) (ks : List ByteArray) (vs : List V) : Prop :=
  ∃ (C : Nat → List Value) (F : Nat → Nat → Prop), w.ownsRow lo 9 1 kv ks.length (ks.map .string) ∧ w.ownsRow lo 26 6 vv vs.length (flat C vs.length) ∧ (∀ i (hi : i < vs.length), RepS w (F i) vs[i] (C i)) ∧
    (∀ i k, i < vs.length → F i k → lo ≤ k ∧ k < w.heap.size ∧ vv.ownBlock ≠ some k ∧ kv.ownBlock ≠ some k) ∧ ∀ g, kv.ownBlock = some g → vv.ownBlock ≠ some g

theorem MapRows.nil (w : World) (lo : Nat) : MapRows w lo (.slice none 0 0) (.slice none 0 0) [] [] :=
  ⟨fun _ => [], fun _ _ => False, World.ownsRow_nil _ _ _ _, World.ownsRow_nil _ _ _ _, fun i hi => by simp at hi, fun _ _ hi => by simp at hi, fun g e => by cases e⟩

theorem kept_row {w w' : World} {row : Option Nat} {base : Nat} {e : TypeId} {size : Nat} {v : Value} {n : Nat} {xs : List Value} (h : w.ownsRow base e size v n xs) (hg : w.grownBy w' row) (hr : ∀ k, row = some k → k < base) : w'.ownsRow base e size v n xs := by
  refine h.kept hg ?_
  cases hv : v.ownBlock with
  | none => exact .inl rfl
  | some b =>
    refine .inr fun e => ?_
    have := h.lt b hv
    have := hr b e.symm
    omega

theorem MapRows.kept {w w' : World} {lo : Nat} {kv vv : Value} {ks : List ByteArray} {vs : List V} (h : MapRows w lo kv vv ks vs) (row : Option Nat) (hg : w.grownBy w' row) (hr : ∀ k, row = some k → k < lo) : MapRows w' lo kv vv ks vs := by
  obtain ⟨C, F, hk, hv, hr1, hF, hd⟩ := h
  refine ⟨C, F, kept_row hk hg hr, kept_row hv hg hr, fun i hi => (hr1 i hi).carry fun k hk => ?_, fun i k hi hk => ?_, hd⟩
  · obtain ⟨h1, h2, _⟩ := hF i k hi hk
    exact hg.block k h2 (fun e => by have := hr k e.symm; omega)
  · obtain ⟨h1, h2, h3⟩ := hF i k hi hk
    exact ⟨h1, by have := hg.size; omega, h3⟩

theorem MapRows.rows {w : World} {lo : Nat} {kv vv : Value} {ks : List ByteArray} {vs : List V} (h : MapRows w lo kv vv ks vs) : w.ownsRow lo 9 1 kv ks.length (ks.map .string) ∧ RowS w lo lo vv vs := by
  obtain ⟨C, F, hk, hv, hr1, hF, _⟩ := h
  exact ⟨hk, C, F, hv, hr1, fun i k hi hk => ⟨(hF i k hi hk).1, (hF i k hi hk).2.1, (hF i k hi hk).2.2.1⟩⟩

/-- Both rows are appended to, the keys' first. -/
theorem MapRows.step {W X1 w1 X2 w5 : World} {lo : Nat} {kv vv : Value} {ks : List ByteArray} {vs : List V} {C : Nat → List Value} {F : Nat → Nat → Prop} {k : ByteArray} {x : V} {cs : List Value} {S : Nat → Prop} {g1 c1 g2 c2 : Nat}
    (hr1 : ∀ i (hi : i < vs.length), RepS W (F i) vs[i] (C i)) (hF : ∀ i k, i < vs.length → F i k → lo ≤ k ∧ k < W.heap.size ∧ vv.ownBlock ≠ some k ∧ kv.ownBlock ≠ some k) (hd : ∀ g, kv.ownBlock = some g → vv.ownBlock ≠ some g)
    (hlv : ∀ g, vv.ownBlock = some g → g < W.heap.size)
    (hx : RepS W S x cs) (hS : ∀ k, S k → lo ≤ k ∧ k < W.heap.size ∧ vv.ownBlock ≠ some k ∧ kv.ownBlock ≠ some k)
    (gx : W.grownBy X1 none) (ga : X1.grownBy w1 kv.ownBlock) (gy : w1.grownBy X2 none) (gb : X2.grownBy w5 vv.ownBlock)
    (ho1 : w1.ownsRow lo 9 1 (.slice (some ⟨g1, 0, none⟩) (ks.length + 1) c1) (ks.length + 1) (ks.map .string ++ [.string k])) (hat1 : kv.ownBlock = some g1 ∨ g1 = X1.heap.size)
    (ho2 : w5.ownsRow lo 26 6 (.slice (some ⟨g2, 0, none⟩) (vs.length + 1) c2) (vs.length + 1) (flat C vs.length ++ cs)) (hat2 : vv.ownBlock = some g2 ∨ g2 = X2.heap.size) :
    MapRows w5 lo (.slice (some ⟨g1, 0, none⟩) (ks.length + 1) c1) (.slice (some ⟨g2, 0, none⟩) (vs.length + 1) c2) (ks ++ [k]) (vs ++ [x]) := by
  have s1 := gx.size
  have s2 := ga.size
  have s3 := gy.size
  have s4 := gb.size
  have hlt1 : g1 < w1.heap.size := (ho1.lt g1 rfl).2
  have same : ∀ q, q < W.heap.size → vv.ownBlock ≠ some q → kv.ownBlock ≠ some q → w5.heap[q]? = W.heap[q]? := fun q hq h1 h2 =>
    (gb.block q (by omega) (fun e => h1 e.symm)).trans ((gy.block q (by omega) (by simp)).trans ((ga.block q (by omega) (fun e => h2 e.symm)).trans (gx.block q hq (by simp))))
  have new1 : ∀ q, q < W.heap.size → kv.ownBlock ≠ some q → g1 ≠ q := fun q hq h e => by
    rcases hat1 with h' | h'
    · exact h (by rw [h', e])
    · omega
  have new2 : ∀ q, q < W.heap.size → vv.ownBlock ≠ some q → g2 ≠ q := fun q hq h e => by
    rcases hat2 with h' | h'
    · exact h (by rw [h', e])
    · omega
  have key : ∀ q, lo ≤ q ∧ q < W.heap.size ∧ vv.ownBlock ≠ some q ∧ kv.ownBlock ≠ some q → lo ≤ q ∧ q < w5.heap.size ∧ (Value.slice (some ⟨g2, 0, none⟩) (vs.length + 1) c2).ownBlock ≠ some q ∧ (Value.slice (some ⟨g1, 0, none⟩) (ks.length + 1) c1).ownBlock ≠ some q :=
    fun q ⟨h1, h2, h3, h4⟩ => ⟨h1, by omega, by simpa [Value.ownBlock] using new2 q h2 h3, by simpa [Value.ownBlock] using new1 q h2 h4⟩
  have hne : vv.ownBlock ≠ some g1 := by
    intro e
    have hv := hlv g1 e
    rcases hat1 with h' | h'
    · exact hd g1 h' e
    · omega
  have ho1' : w5.ownsRow lo 9 1 (.slice (some ⟨g1, 0, none⟩) (ks.length + 1) c1) (ks.length + 1) (ks.map .string ++ [.string k]) :=
    (ho1.kept gy (.inr (by simp [Value.ownBlock]))).kept gb (.inr (by simp only [Value.ownBlock]; exact fun e => hne e.symm))
  have hd' : g1 ≠ g2 := by
    intro e
    rcases hat2 with h' | h'
    · exact hne (by rw [e]; exact h')
    · omega
  refine ⟨fun i => if i < vs.length then C i else cs, fun i => if i < vs.length then F i else S, ?_, ?_, ?_, ?_, ?_⟩
  · rw [List.length_append, List.length_singleton, List.map_append]
    exact ho1'
  · rw [List.length_append, List.length_singleton]
    simp only [flat]
    rw [if_neg (by omega), flat_same (C' := C) (fun i hi => by rw [if_pos hi])]
    exact ho2
  · intro i hi
    rw [List.length_append, List.length_singleton] at hi
    by_cases e : i < vs.length
    · simp only [e, if_true]
      rw [List.getElem_append_left e]
      exact (hr1 i e).carry fun q hq => same q (hF i q e hq).2.1 (hF i q e hq).2.2.1 (hF i q e hq).2.2.2
    · obtain rfl : i = vs.length := by omega
      simp only [Nat.lt_irrefl, if_false]
      rw [List.getElem_append_right (by omega)]
      simp only [Nat.sub_self, List.getElem_cons_zero]
      exact hx.carry fun q hq => same q (hS q hq).2.1 (hS q hq).2.2.1 (hS q hq).2.2.2
  · intro i q hi hq
    rw [List.length_append, List.length_singleton] at hi
    by_cases e : i < vs.length
    · simp only [e, if_true] at hq
      exact key q (hF i q e hq)
    · simp only [e, if_false] at hq
      exact key q (hS q hq)
  · intro g e
    simp only [Value.ownBlock, Option.some.injEq] at e
    subst e
    simp only [Value.ownBlock, ne_eq, Option.some.injEq]
    exact fun e => hd' e.symm

end Go.Proofs.YtpoibibbkjogpaaGreatDoor

namespace Go.Proofs.YtpoibibbkjogpaaGreatDoor
open Go

theorem set_cs {α : Type} : (∀ (a v : α) (l : List α), (a :: l).set 0 v = v :: l) ∧ ∀ (a v : α) (l : List α) (n : Nat), (a :: l).set (n + 1) v = a :: l.set n v :=
  ⟨fun _ _ _ => List.set_cons_zero, fun _ _ _ _ => List.set_cons_succ⟩

section
variable {P : Program} {ops : Array Oper} {Q : Exit → Act → World → Prop} {md : Region.Mode} {S : Nat → World → Prop} {T : World → Prop}

/-- Whatever order is picked from here on; behind operation i stands S i. -/
def wpAnyG (P : Program) (md : Region.Mode) (ops : Array Oper) (Q : Exit → Act → World → Prop) (S : Nat → World → Prop) : Nat → Array Bool → Act → World → Prop
  | 0, listed, a, w => Region.ready md ops listed = [] ∧ Q .normal a w
  | fuel + 1, listed, a, w => (Region.ready md ops listed = [] → Q .normal a w) ∧
    ∀ i, i ∈ Region.ready md ops listed → wpOp P ops Q i (fun a' w' => S i w' ∧ wpAnyG P md ops Q S fuel (listed.setIfInBounds i true) a' w') a w

theorem wpAny_of_G : ∀ (fuel : Nat) (listed : Array Bool) (a : Act) (w : World), wpAnyG P md ops Q S fuel listed a w → wpAny P md ops Q fuel listed a w := by
  intro fuel
  induction fuel with
  | zero => exact fun _ _ _ h => h
  | succ fuel ih => exact fun listed a w h => ⟨h.1, fun i hi => wpOp_mono (fun a' w' h' => ih _ a' w' h'.2) (h.2 i hi)⟩

theorem wpAnyG_first {i : Nat} {oi : Oper} {v : Value} (hi : ops[i]? = some oi) (hsel : ∀ (j : Nat) (o : Oper) cs b, ops[j]? = some o → o.op ≠ .select cs b)
    (hQ : ∀ c a w, Q (.panic c) (a.put oi.dst v) w → Q (.panic c) a w) (hTi : ∀ w, T w → S i w) :
    ∀ (fuel : Nat) (listed : Array Bool) (a : Act) (w : World),
      (∀ j oj, ops[j]? = some oj → j ≠ i → listed.getD j true = false → (∀ e ∈ oj.after, Region.binds md e = true → e.on ≠ i) → oi.apart ops oj = true ∧ ∀ w', S j w' → T w') →
      i ∈ Region.ready md ops listed → YieldsIf P ops T oi v a → T w →
      wpAnyG P md ops Q S fuel (listed.setIfInBounds i true) (a.put oi.dst v) w → wpAnyG P md ops Q S (fuel + 1) listed a w := by
  intro fuel
  induction fuel with
  | zero =>
    intro listed a w _ hr hy hT H
    refine ⟨fun h0 => absurd (h0 ▸ hr) (by simp), fun j hj => ?_⟩
    rcases Nat.decEq j i with hne | rfl
    · have := ready_mono hj hne
      rw [H.1] at this
      cases this
    · exact hy.wpOp hi hT ⟨hTi _ hT, H⟩
  | succ fuel ih =>
    intro listed a w hfree hr hy hT H
    refine ⟨fun h0 => absurd (h0 ▸ hr) (by simp), fun j hj => ?_⟩
    rcases Nat.decEq j i with hne | rfl
    · obtain ⟨hun, oj, hoj, hall⟩ := mem_ready.1 hj
      have hiun := (mem_ready.1 hr).1
      have hwait : ∀ e ∈ oj.after, Region.binds md e = true → e.on ≠ i := by
        intro e he hb heq
        have h1 := hall e he hb
        rw [heq] at h1
        by_cases hlt : i < listed.size
        · simp [hlt] at hiun h1
          rw [hiun] at h1
          cases h1
        · simp [Array.getElem?_eq_none (by omega : listed.size ≤ i)] at h1
      obtain ⟨hap, hST⟩ := hfree j oj hoj hne hun hwait
      refine wpOp_mono ?_ (wpOp_putIf hoj hap (fun cs b => hsel i oi cs b hi) (fun cs b => hsel j oj cs b hoj) hQ hy (H.2 j (ready_mono hj hne)))
      rintro a' w' ⟨hy', hS', hrest⟩
      refine ⟨hS', ih (listed.setIfInBounds j true) a' w' ?_ (ready_mono hr (fun e => hne e.symm)) hy' (hST _ hS') ?_⟩
      · intro k ok hk hki hkun hno
        refine hfree k ok hk hki ?_ hno
        rcases Nat.decEq j k with hjk | rfl
        · rw [getD_set_ne true hjk] at hkun; exact hkun
        · exact hun
      · rw [Array.setIfInBounds_comm _ _ hne]
        exact hrest
    · exact hy.wpOp hi hT ⟨hTi _ hT, H⟩

theorem wpAnyG_all {rs : List Nat} {fuel : Nat} {listed : Array Bool} {a : Act} {w : World} (hr : Region.ready md ops listed = rs) (hne : rs ≠ [])
    (h : ∀ i ∈ rs, wpOp P ops Q i (fun a' w' => S i w' ∧ wpAnyG P md ops Q S fuel (listed.setIfInBounds i true) a' w') a w) : wpAnyG P md ops Q S (fuel + 1) listed a w :=
  ⟨fun h0 => absurd (hr ▸ h0) hne, fun i hi => h i (hr ▸ hi)⟩

theorem wpAnyG_done {listed : Array Bool} {a : Act} {w : World} (hr : Region.ready md ops listed = []) (h : Q .normal a w) : wpAnyG P md ops Q S 0 listed a w := ⟨hr, h⟩

/-- The operation at place i runs to a value. -/
theorem wpOp_value {i : Nat} {o : Oper} {v : Value} {w w' : World} {a : Act} {K : Act → World → Prop} (hi : ops[i]? = some o) (hg : o.guard = none) (hrun : (execOp a.eval o).run P w = .ok (.value v) w') (h : K (a.put o.dst v) w') : wpOp P ops Q i K a w := by
  have hw : Region.wanted o (yielded ops a.tmps) = true := by simp [Region.wanted, hg]
  unfold wpOp
  simp only [hi, hw, if_true, Oper.wp, hrun, Oper.upon]
  exact .inl h
theorem wpOp_skip {i : Nat} {o : Oper} {w w' : World} {a : Act} {K : Act → World → Prop} (hi : ops[i]? = some o) (hg : o.guard = none) (hrun : (execOp a.eval o).run P w = .ok .skip w') (h : K (a.put o.dst undef) w') : wpOp P ops Q i K a w := by
  have hw : Region.wanted o (yielded ops a.tmps) = true := by simp [Region.wanted, hg]
  unfold wpOp
  simp only [hi, hw, if_true, Oper.wp, hrun, Oper.upon]
  exact .inl h

/-- Taken first, the side conditions by one look at the region's edges. -/
def freeOf (md : Region.Mode) (ops : Array Oper) (listed : Array Bool) (i : Nat) (oi : Oper) (ok : Nat → Bool) : Bool :=
  (List.range ops.size).all fun j => match ops[j]? with
    | none => true
    | some oj => j == i || listed.getD j true || oj.after.any (fun e => Region.binds md e && e.on == i) || (oi.apart ops oj && ok j)

theorem wpAnyG_take {i : Nat} {oi : Oper} {v : Value} {fuel : Nat} {listed : Array Bool} {a : Act} {w : World} (ok : Nat → Bool) (hi : ops[i]? = some oi) (hs : Region.noSelect ops = true)
    (hf : freeOf md ops listed i oi ok = true) (hr : (Region.ready md ops listed).contains i = true) (hQ : ∀ c a w, Q (.panic c) (a.put oi.dst v) w → Q (.panic c) a w)
    (hok : ∀ j, ok j = true → ∀ w', S j w' → T w') (hTi : ∀ w, T w → S i w) (hg : oi.guard = none) (hy : ∀ w', T w' → (execOp a.eval oi).run P w' = .ok (.value v) w') (hT : T w)
    (h : wpAnyG P md ops Q S fuel (listed.setIfInBounds i true) (a.put oi.dst v) w) : wpAnyG P md ops Q S (fuel + 1) listed a w := by
  refine wpAnyG_first hi (Region.noSelect_spec hs) hQ hTi fuel listed a w ?_ (by simpa using hr) (.inl ⟨by simp [Region.wanted, hg], hy⟩) hT h
  intro j oj hoj hne hun hno
  have hlt : j < ops.size := (Array.getElem?_eq_some_iff.1 hoj).1
  have := List.all_eq_true.1 hf j (by simpa using hlt)
  simp only [hoj] at this
  have e1 : (j == i) = false := by simpa using hne
  have e2 : (oj.after.any fun e => Region.binds md e && e.on == i) = false := by
    rw [Array.any_eq_false']
    intro e he hc
    simp only [Bool.and_eq_true, beq_iff_eq] at hc
    exact hno e he hc.1 hc.2
  rw [e1, hun, e2] at this
  simp only [Bool.false_or, Bool.and_eq_true] at this
  exact ⟨this.1, hok j this.2⟩

end
end Go.Proofs.YtpoibibbkjogpaaGreatDoor
