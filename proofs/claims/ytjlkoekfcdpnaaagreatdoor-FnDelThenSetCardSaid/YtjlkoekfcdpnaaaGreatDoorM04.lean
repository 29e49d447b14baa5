/- Contracts of what gojq.update calls: the allocator's makers, maps.Copy. -/
import Derived.Test.YtjlkoekfcdpnaaaGreatDoorM03
import Derived.Ground.SlmpProg
import Derived.Shelf.SlMaps.Copy
import Derived.Laws.MakeOwn
import Derived.Laws.CopyOwn
namespace Go.Proofs
open Go.Shelf
def Tryz.copyM_ren : Go.Shelf.Ren := ⟨fun | 5 => 82 | n => n, fun | 23 => 53 | 24 => 53 | 26 => 9 | 27 => 20 | 0 => 0 | 4 => 4 | n => n, fun | n => n⟩
theorem Tryz.copyM : Go.Proofs.SlLaysX.n5 Tryz.prog Tryz.copyM_ren := {
  mixed := by kernel_rfl
  f5 := ⟨Tryz.f82.name, by decide, Tryz.func82.trans (congrArg some (by kernel_rfl))⟩
  t0 := Tryz.underlying0
  a0 := Tryz.isAgg0
  z0 := Tryz.sizeOf0
  v0 := Tryz.zeroValue0
  t4 := Tryz.underlying4
  a4 := Tryz.isAgg4
  z4 := Tryz.sizeOf4
  v4 := Tryz.zeroValue4
  t23 := Tryz.underlying53
  a23 := Tryz.isAgg53
  z23 := Tryz.sizeOf53
  v23 := Tryz.zeroValue53
  t24 := Tryz.underlying53
  a24 := Tryz.isAgg53
  z24 := Tryz.sizeOf53
  v24 := Tryz.zeroValue53
  a26 := Tryz.isAgg9
  z26 := Tryz.sizeOf9
  a27 := Tryz.isAgg20
  z27 := Tryz.sizeOf20 }
end Go.Proofs
namespace Go.Proofs.YtjlkoekfcdpnaaaGreatDoor
open Go Go.RowKit Go.Maps Go.Deep
theorem allocated_any (a x : Value) (w : World) : Calls Tryz.prog 80 #[a, x] w fun e w' => e = .returned (.bool false) ∧ w' = w := by
  go_enter Tryz.func80, Tryz.ntmps80
  go_wp2_with fail
  go_ret
  exact ⟨rfl, rfl⟩
theorem makeObject_any (a : Value) (n : Int) (w : World) : Calls Tryz.prog 81 #[a, .int .i64 n] w fun e w' => e = .returned (.map (some w.heap.size)) ∧ w' = w.alloc (.map #[] 0) := by
  have hmk := run_makeMap_hint (P := Tryz.prog) Tryz.underlying53 .i64 n w
  go_enter Tryz.func81, Tryz.ntmps81
  go_wp2_with fail
  go_ret
  exact ⟨rfl, rfl⟩
set_option maxRecDepth 100000 in
theorem makeArray_any (a : Value) (l c : Nat) (hl : l ≤ capMax) (hc : c ≤ capMax) (w : World) : Calls Tryz.prog 83 #[a, .int .i64 l, .int .i64 c] w fun e w' => e = .returned (.slice (some ⟨w.heap.size, 0, none⟩) l (max l c)) ∧ w' = w.alloc (.cells (madeCells #[.nilIface] (max l c)) 20) := by
  obtain ⟨i0, hi, hz0, hz1, hz2⟩ := info_parts info_any
  have hmax : max l c ≤ capMax := by omega
  have hmk := run_make (P := Tryz.prog) w 50 20 i0 .nilIface Tryz.underlying50 hi hz0 .i64 .i64 l (max l c : Nat) (by omega) (by omega) (by rw [hz2]; unfold capMax at hmax; omega) (by unfold capMax at hmax; omega)
  have em : (max l c : Nat) = if (l : Int) < (c : Int) then c else l := by split <;> omega
  simp only [Int.toNat_natCast, hz1, Nat.mul_one] at hmk
  have e2 : ((max l c : Nat) : Int) = max (l : Int) (c : Int) := by omega
  have hmk2 := hmk
  rw [e2] at hmk2
  go_enter Tryz.func83, Tryz.ntmps83
  first
    | (go_wp2_with fail
       all_goals go_ret
       all_goals exact ⟨rfl, rfl⟩)
    | (by_cases h : (l : Int) < (c : Int)
       · rw [em, if_pos h] at hmk ⊢
         go_wp2_with fail
         go_ret
         exact ⟨rfl, rfl⟩
       · rw [em, if_neg h] at hmk ⊢
         go_wp2_with fail
         go_ret
         exact ⟨rfl, rfl⟩)
/-- maps.Copy into a new map. -/
theorem copy_any (bd : Nat) (t : List (ByteArray × Part)) (bs : Nat) (w : World) (hd : w.ownsMap Tryz.prog 9 heldR bd 0 (.map [])) (hs : MapE w bs t) (hne : bs ≠ bd) :
    Calls Tryz.prog 82 #[.map (some bd), .map (some bs)] w fun e w' => e = .returned (.tuple #[]) ∧ w'.ownsMap Tryz.prog 9 heldR bd t.length (.map (entT t)) ∧ w.grownBy w' (some bd) := by
  have hr := hs.rises
  obtain ⟨n, hn, ho⟩ := hs
  have hsz := ho.size_le
  have h := AnyX.maps_Copy_opt Tryz.copyM law_str heldR bd 0 (some bs) (.map []) _ w hd (.inr ⟨bs, n, rfl, ho⟩) (fun e => hne (Option.some.inj e)) (by rw [entT_size] at hsz ⊢; unfold maxLen; omega)
  rw [merge_new hr, entT_size, Nat.zero_add] at h
  exact h
theorem copy_none (bd : Nat) (w : World) : Calls Tryz.prog 82 #[.map (some bd), .map none] w fun e w' => e = .returned (.tuple #[]) ∧ w' = w.alloc (.mapIter none 0 #[] 0) :=
  AnyX.maps_Copy_nil Tryz.copyM (some bd) w
end Go.Proofs.YtjlkoekfcdpnaaaGreatDoor
