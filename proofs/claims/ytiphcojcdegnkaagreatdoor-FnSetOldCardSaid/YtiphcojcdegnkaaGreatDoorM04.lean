/- A tree's own memory opened and closed: a map's entries, an array's elements, each with its footprint. -/
/- Type assertions at this program's types. -/
/- A float turned into an int, whatever it is. -/
/- Contracts of gojq.floatToInt, of the callbacks of gojq.funcOpMod. -/
/- The package's errors, as values. -/
/- Contracts of gojq.clampIndex, toInt, toIntCeil, index, slice, funcSlice, funcIndex2. -/
/- Contracts of what gojq.update calls: the allocator's makers, maps.Copy. -/
import Derived.Test.YtiphcojcdegnkaaGreatDoorM03
import Derived.Lib.SlMapMerge
import Derived.Test.YtiphcojcdegnkaaGreatDoorM02
import Derived.Test.YtiphcojcdegnkaaGreatDoorProg
import Derived.WalkLawsBesides
import Derived.KernelRfl
import Derived.Laws.FloatArith
import Derived.Deep.QuietTactic
import Derived.BigQuiet
import Derived.Test.YtiphcojcdegnkaaGreatDoorM01
import Derived.Ground.SlmpProg
import Derived.Shelf.SlMaps.Copy
import Derived.Laws.MakeOwn
import Derived.Laws.CopyOwn
namespace Go.Proofs.YtiphcojcdegnkaaGreatDoor
open Go Go.RowKit Go.Maps Go.Deep

/-- A part of a tree: what it is, the value that holds it, the blocks that it lies in. -/
structure Part where
  j : J
  v : Value
  f : Nat → Prop
def Part.ok (w : World) (x : Part) : Prop := RepJ w x.f x.j x.v

def entT (t : List (ByteArray × Part)) : List (Lit × DataW Value) := t.map fun x => (keyL x.1, DataW.held x.2.v)
def MapE (w : World) (r : Nat) (t : List (ByteArray × Part)) : Prop := ∃ n, n ≤ 140737488351232 ∧ w.ownsMap Tryz.prog 9 heldR r n (.map (entT t))
def jOf (t : List (ByteArray × Part)) : List (ByteArray × J) := t.map fun x => (x.1, x.2.j)

theorem MapE.at {w : World} {r : Nat} {t : List (ByteArray × Part)} : MapE w r t ↔ MapAt w r (jOf t) (fun i => (t[i]?.map (·.2.v)).getD .nilIface) := by
  have e : entT t = entries (jOf t) (fun i => (t[i]?.map (·.2.v)).getD .nilIface) := by
    apply List.ext_getElem
    · simp [entT, entries, jOf]
    · intro i h1 h2
      have hi : i < t.length := by simpa [entT] using h1
      simp [entT, entries, jOf, keyL, hi]
  unfold MapE MapAt
  rw [e]

/-- Footprints of two parts have no block in common. -/
def Off (x y : ByteArray × Part) : Prop := ∀ k, x.2.f k → y.2.f k → False
theorem Off.symm {x y : ByteArray × Part} (h : Off x y) : Off y x := fun k a b => h k b a

def EntOK (w : World) (S : Nat → Prop) (r : Nat) (x : ByteArray × Part) : Prop := x.1.size ≤ 140737488351232 ∧ ¬ x.2.f r ∧ (∀ k, x.2.f k → S k) ∧ RepJ w x.2.f x.2.j x.2.v

theorem obj_open {w : World} {S : Nat → Prop} {m : List (ByteArray × J)} {v : Value} (h : RepJ w S (.obj m) v) :
    ∃ r t, v = .iface 68 (.map (some r)) ∧ S r ∧ m = jOf t ∧ MapE w r t ∧ (∀ x ∈ t, EntOK w S r x) ∧ t.Pairwise Off := by
  cases h with
  | @obj _ _ r E F hr hm hs own sub dis rm =>
    have hlen : (m.mapIdx fun i p => (p.1, (⟨p.2, E i, F i⟩ : Part))).length = m.length := by simp
    have hget : ∀ i (hi : i < m.length), (m.mapIdx fun i p => (p.1, (⟨p.2, E i, F i⟩ : Part)))[i]'(by rw [hlen]; exact hi) = (m[i].1, ⟨m[i].2, E i, F i⟩) := fun i hi => by simp
    have hj : m = jOf (m.mapIdx fun i p => (p.1, (⟨p.2, E i, F i⟩ : Part))) := by
      apply List.ext_getElem
      · simp [jOf]
      · intro i h1 h2
        simp [jOf]
    refine ⟨r, m.mapIdx fun i p => (p.1, ⟨p.2, E i, F i⟩), rfl, hr, hj, ?_, fun x hx => ?_, ?_⟩
    · obtain ⟨n, hn, ho⟩ := hm
      refine ⟨n, hn, ?_⟩
      have e : entT (m.mapIdx fun i p => (p.1, (⟨p.2, E i, F i⟩ : Part))) = entries m E := by
        apply List.ext_getElem
        · simp [entT, entries]
        · intro i h1 h2
          simp [entT, entries, keyL]
      rw [e]
      exact ho
    · obtain ⟨i, hi, rfl⟩ := List.mem_iff_getElem.1 hx
      rw [hlen] at hi
      rw [hget i hi]
      exact ⟨hs _ (List.getElem_mem hi), own i hi, fun k hk => sub i k hi hk, rm i hi⟩
    · rw [List.pairwise_iff_getElem]
      intro i j hi hj hij
      rw [hlen] at hi hj
      rw [hget i hi, hget j hj]
      exact fun k h1 h2 => dis i j k hij hj h1 h2

theorem obj_close {w : World} {S : Nat → Prop} {r : Nat} {t : List (ByteArray × Part)} (hr : S r) (hm : MapE w r t) (hx : ∀ x ∈ t, EntOK w S r x) (hp : t.Pairwise Off) : RepJ w S (.obj (jOf t)) (.iface 68 (.map (some r))) := by
  have hlen : (jOf t).length = t.length := by simp [jOf]
  have hE : ∀ i (hi : i < t.length), ((t[i]?.map (·.2.v)).getD .nilIface) = t[i].2.v := fun i hi => by simp [hi]
  have hF : ∀ i (hi : i < t.length) k, ((t[i]?.map (·.2.f)).getD (fun _ => False)) k = t[i].2.f k := fun i hi k => by simp [hi]
  have hg : ∀ i (hi : i < t.length), (jOf t)[i]'(by rw [hlen]; exact hi) = (t[i].1, t[i].2.j) := fun i hi => by simp [jOf]
  refine .obj (fun i => (t[i]?.map (·.2.v)).getD .nilIface) (fun i => (t[i]?.map (·.2.f)).getD (fun _ => False)) hr (MapE.at.1 hm) (fun p hp => ?_) (fun i hi => ?_) (fun i k hi hk => ?_) (fun i j k hij hj h1 h2 => ?_) (fun i hi => ?_)
  · obtain ⟨i, hi, rfl⟩ := List.mem_iff_getElem.1 hp
    rw [hlen] at hi
    rw [hg i hi]
    exact (hx _ (List.getElem_mem hi)).1
  · rw [hlen] at hi
    rw [hF i hi]
    exact (hx _ (List.getElem_mem hi)).2.1
  · rw [hlen] at hi
    rw [hF i hi] at hk
    exact (hx _ (List.getElem_mem hi)).2.2.1 k hk
  · rw [hlen] at hj
    rw [hF i (by omega)] at h1
    rw [hF j hj] at h2
    exact List.pairwise_iff_getElem.1 hp i j (by omega) hj hij k h1 h2
  · rw [hlen] at hi
    have := (hx _ (List.getElem_mem hi)).2.2.2
    rw [hg i hi, hE i hi]
    have e : (t[i]?.map (·.2.f)).getD (fun _ => False) = t[i].2.f := by simp [hi]
    rw [e]
    exact this

theorem MapE.rises {w : World} {r : Nat} {t : List (ByteArray × Part)} (h : MapE w r t) : RisesK t := by
  obtain ⟨n, _, ho⟩ := h
  obtain ⟨es, e, hp, _⟩ := ho.canon law_str
  injection e with e
  subst e
  unfold entT at hp
  rw [List.pairwise_map] at hp
  exact hp
theorem MapE.carry {w w' : World} {r : Nat} {t : List (ByteArray × Part)} (h : MapE w r t) (hr : w'.heap[r]? = w.heap[r]?) : MapE w' r t := MapE.at.2 ((MapE.at.1 h).carry hr)
theorem MapE.lt {w : World} {r : Nat} {t : List (ByteArray × Part)} (h : MapE w r t) : r < w.heap.size := by
  obtain ⟨n, _, ho⟩ := h
  exact ho.lt
theorem entT_size (t : List (ByteArray × Part)) : Maps.size (.map (entT t)) = t.length := by
  rw [Maps.size_eq]; simp [entT]
theorem MapE.tight {w : World} {r n : Nat} {t : List (ByteArray × Part)} (h : w.ownsMap Tryz.prog 9 heldR r n (.map (entT t))) (hl : t.length ≤ 140737488351232) : MapE w r t := by
  obtain ⟨es, clock, hb, F, hs, eD⟩ := h
  refine ⟨es.size, ?_, es, clock, hb, F, Nat.le_refl _, eD⟩
  have e1 : Maps.size (DataW.map ((es.toList.map (WideElems.rg Tryz.prog 9 heldR)).foldr DataW.insert [])) = es.size := by simp [Maps.size, length_sorted]
  rw [← eD, entT_size] at e1
  omega
theorem entT_put (t : List (ByteArray × Part)) (k : ByteArray) (a : Part) : (DataW.map (entT t)).put (keyL k) (.held a.v) = .map (entT (putK t k a)) := putK_data (fun x : Part => DataW.held x.v) t k a
theorem jOf_put (t : List (ByteArray × Part)) (k : ByteArray) (a : Part) : jOf (putK t k a) = putK (jOf t) k a.j := putK_map (fun x : Part => x.j) t k a
theorem getK_jOf (t : List (ByteArray × Part)) (k : ByteArray) : getK (jOf t) k = (getK t k).map (·.j) := by
  unfold getK jOf
  rw [List.find?_map, Option.map_map, Option.map_map]
  rfl

theorem fold_put : ∀ (t s : List (ByteArray × Part)), RisesK (s ++ t) → (entT t).foldl (fun (D : DataW Value) p => D.put p.1 p.2) (DataW.map (entT s)) = DataW.map (entT (s ++ t))
  | [], s, _ => by simp [entT]
  | x :: t, s, h => by
    have h' : RisesK (s ++ [x] ++ t) := by rw [List.append_assoc]; exact h
    have hlt : ∀ p ∈ entT s, ∃ u, p.1 = .string u ∧ Op.bytesLess u x.1.data.toList = true := by
      intro p hp
      obtain ⟨y, hy, rfl⟩ := List.mem_map.1 hp
      refine ⟨y.1.data.toList, rfl, ?_⟩
      have := (List.pairwise_append.1 h).2.2 y hy x (List.mem_cons_self ..)
      rw [← before_eq]
      exact this
    have e : entT (x :: t) = (keyL x.1, DataW.held x.2.v) :: entT t := rfl
    rw [e, List.foldl_cons]
    show List.foldl _ ((DataW.map (entT s)).put (.string x.1.data.toList) (.held x.2.v)) _ = _
    rw [put_last _ _ _ hlt]
    have e2 : entT s ++ [(Lit.string x.1.data.toList, DataW.held x.2.v)] = entT (s ++ [x]) := by simp [entT, keyL]
    rw [e2, fold_put t (s ++ [x]) h', List.append_assoc]
    rfl
/-- A map's entries laid into a new one. -/
theorem merge_new {t : List (ByteArray × Part)} (h : RisesK t) : Lib.mergeD (.map []) (.map (entT t)) = .map (entT t) := fold_put t [] h

/-- An array's elements, each with its footprint. -/
def ArrAt (w : World) (a : Option Addr) (c : Nat) (S : Nat → Prop) (t : List Part) : Prop :=
  t.length * 16 ≤ 140737488351232 ∧ t.length ≤ c ∧ c ≤ capMax ∧ (0 < t.length → ∃ b o, a = some ⟨b, o, none⟩ ∧ S b ∧ (∀ i (hi : i < t.length), w.cell? ⟨b, o + i, none⟩ = some t[i].v) ∧ ∀ x ∈ t, ¬ x.f b) ∧
  (∀ x ∈ t, (∀ k, x.f k → S k) ∧ RepJ w x.f x.j x.v) ∧ t.Pairwise fun x y => ∀ k, x.f k → y.f k → False
theorem arr_open {w : World} {S : Nat → Prop} {l : List J} {v : Value} (h : RepJ w S (.arr l) v) : ∃ a c t, v = .iface 65 (.slice a t.length c) ∧ l = t.map (·.j) ∧ ArrAt w a c S t := by
  cases h with
  | @arr _ _ a c f b o N F hl hc ca own sub dis ra hcb =>
    have hlen : (l.mapIdx fun i j => (⟨j, f (o + i), F i⟩ : Part)).length = l.length := by simp
    have hget : ∀ i (hi : i < l.length), (l.mapIdx fun i j => (⟨j, f (o + i), F i⟩ : Part))[i]'(by rw [hlen]; exact hi) = ⟨l[i], f (o + i), F i⟩ := fun i hi => by simp
    refine ⟨a, c, l.mapIdx fun i j => ⟨j, f (o + i), F i⟩, by rw [hlen], ?_, by rw [hlen]; exact hl, by rw [hlen]; exact hc, hcb, fun h0 => ?_, fun x hx => ?_, ?_⟩
    · apply List.ext_getElem
      · simp
      · intro i h1 h2
        simp
    · rw [hlen] at h0
      obtain ⟨e, hb, hrow, hN⟩ := ca h0
      refine ⟨b, o, e, hb, fun i hi => ?_, fun x hx => ?_⟩
      · rw [hlen] at hi
        rw [hget i hi]
        exact hrow.cell (by omega)
      · obtain ⟨i, hi, rfl⟩ := List.mem_iff_getElem.1 hx
        rw [hlen] at hi
        rw [hget i hi]
        exact own i hi
    · obtain ⟨i, hi, rfl⟩ := List.mem_iff_getElem.1 hx
      rw [hlen] at hi
      rw [hget i hi]
      exact ⟨fun k hk => sub i k hi hk, ra i hi⟩
    · rw [List.pairwise_iff_getElem]
      intro i j hi hj hij
      rw [hlen] at hi hj
      rw [hget i hi, hget j hj]
      exact fun k h1 h2 => dis i j k hij hj h1 h2
theorem arr_close {w : World} {S : Nat → Prop} {t : List Part} {b N c : Nat} {f : Nat → Value} (hl : t.length * 16 ≤ 140737488351232) (hc : t.length ≤ c) (hcb : c ≤ capMax) (hS : S b) (hrow : w.rowIs b 20 N f) (hN : t.length ≤ N) (hv : ∀ i (hi : i < t.length), f i = t[i].v)
    (hx : ∀ x ∈ t, ¬ x.f b ∧ (∀ k, x.f k → S k) ∧ RepJ w x.f x.j x.v) (hp : t.Pairwise fun x y => ∀ k, x.f k → y.f k → False) : RepJ w S (.arr (t.map (·.j))) (.iface 65 (.slice (some ⟨b, 0, none⟩) t.length c)) := by
  have hF : ∀ i (hi : i < t.length), ((t[i]?.map (·.f)).getD (fun _ => False)) = t[i].f := fun i hi => by simp [hi]
  have hlen : (t.map (·.j)).length = t.length := by simp
  have := @RepJ.arr w S (t.map (·.j)) (some ⟨b, 0, none⟩) c f b 0 N (fun i => (t[i]?.map (·.f)).getD (fun _ => False)) (by rw [hlen]; exact hl) (by rw [hlen]; exact hc) (fun _ => ⟨rfl, hS, hrow, by rw [hlen]; omega⟩)
    (fun i hi => by rw [hlen] at hi; rw [hF i hi]; exact (hx _ (List.getElem_mem hi)).1) (fun i k hi hk => by rw [hlen] at hi; rw [hF i hi] at hk; exact (hx _ (List.getElem_mem hi)).2.1 k hk)
    (fun i j k hij hj h1 h2 => by rw [hlen] at hj; rw [hF i (by omega)] at h1; rw [hF j hj] at h2; exact List.pairwise_iff_getElem.1 hp i j (by omega) hj hij k h1 h2)
    (fun i hi => by rw [hlen] at hi; simp only [hF i hi, List.getElem_map, Nat.zero_add]; rw [hv i hi]; exact (hx _ (List.getElem_mem hi)).2.2) hcb
  rwa [hlen] at this

end Go.Proofs.YtiphcojcdegnkaaGreatDoor

namespace Go.Proofs.YtiphcojcdegnkaaGreatDoor
open Go Go.RowKit

theorem run_assert {P : Program} {T xT : TypeId} {d : TypeDesc} {z : Value} (hd : P.underlying T = some d) (hni : ∀ ms, d ≠ .interface ms) (hz : ∀ w : World, (zeroValue T).run P w = .ok z w) (t : TypeId) (v : Value) (w : World) :
    (Instr.typeAssert (.iface t v) xT T true).run P w = .ok (if t = T then .tuple #[v, .bool true] else .tuple #[z, .bool false]) w := by
  unfold Instr.typeAssert
  by_cases h : t = T
  · subst h
    cases d <;> first | (exact absurd rfl (hni _)) | simp [run_underlying hd, Result.andThen]
  · cases d <;> first | (exact absurd rfl (hni _)) | simp [run_underlying hd, Result.andThen, h, hz]

theorem run_assert_nil {P : Program} {T xT : TypeId} {d : TypeDesc} {z : Value} (hd : P.underlying T = some d) (hni : ∀ ms, d ≠ .interface ms) (hz : ∀ w : World, (zeroValue T).run P w = .ok z w) (w : World) :
    (Instr.typeAssert .nilIface xT T true).run P w = .ok (.tuple #[z, .bool false]) w := by
  unfold Instr.typeAssert
  cases d <;> first | (exact absurd rfl (hni _)) | simp [run_underlying hd, Result.andThen, hz]

theorem part_some (p : String → Bool) (l : List String) (hne : l ≠ []) : (l.partition p).1 ≠ [] ∨ (l.partition p).2 ≠ [] := by
  cases l with
  | nil => exact absurd rfl hne
  | cons a r =>
    rw [List.partition_eq_filter_filter]
    by_cases hc : p a = true
    · refine .inl fun (e : List.filter p (a :: r) = []) => ?_
      have := List.mem_filter.2 ⟨List.mem_cons_self (a := a) (l := r), hc⟩
      rw [e] at this
      cases this
    · refine .inr fun (e : List.filter (Bool.not ∘ p) (a :: r) = []) => ?_
      have := List.mem_filter.2 ⟨List.mem_cons_self (a := a) (l := r), (by simpa using hc : (Bool.not ∘ p) a = true)⟩
      rw [e] at this
      cases this

open Go.Instr in
theorem missing_some (want : Array (String × TypeId)) (h : want.toList ≠ []) : ∃ m, missingMethod want #[] = some m := by
  unfold missingMethod
  have e : (want.toList.filter fun x => match x with | (name, sig) => !(#[] : Array Method).any fun m => m.name == name && m.sig == sig) = want.toList := by
    rw [List.filter_eq_self]
    intro p _
    simp
  simp only [e]
  generalize hl : want.toList.map (·.1) = l
  have hne : l ≠ [] := by rw [← hl]; simpa using h
  generalize hp : l.partition _ = q
  have hq : q.1 ≠ [] ∨ q.2 ≠ [] := by rw [← hp]; exact part_some _ l hne
  obtain ⟨u, x⟩ := q
  cases x with
  | cons a r => exact ⟨_, rfl⟩
  | nil =>
    cases u with
    | nil => exact absurd rfl (hq.resolve_right (fun n => n rfl))
    | cons a r => exact ⟨_, rfl⟩

theorem run_assert_iface {P : Program} {T xT t : TypeId} {want : Array (String × TypeId)} (hd : P.underlying T = some (.interface want)) (hw : want.toList ≠ []) (hz : ∀ w : World, (zeroValue T).run P w = .ok .nilIface w) (hi : (P.info? t).map (·.methods) = some #[]) (v : Value) (w : World) :
    (Instr.typeAssert (.iface t v) xT T true).run P w = .ok (.tuple #[.nilIface, .bool false]) w := by
  obtain ⟨i, hi, hm⟩ := Option.map_eq_some_iff.1 hi
  obtain ⟨m, hmm⟩ := missing_some want hw
  unfold Instr.typeAssert
  simp [run_underlying hd, run_typeInfo _ hi, Result.andThen, hm, hmm, hz]

theorem assert_jsonNumber (t : TypeId) (v : Value) (w : World) : (Instr.typeAssert (.iface t v) 20 117 true).run Tryz.prog w = .ok (if t = 117 then .tuple #[v, .bool true] else .tuple #[.string ByteArray.empty, .bool false]) w :=
  run_assert Tryz.underlying117 (fun _ h => by cases h) (fun _ => by kernel_rfl) t v w
theorem assert_jsonNumber_nil (w : World) : (Instr.typeAssert .nilIface 20 117 true).run Tryz.prog w = .ok (.tuple #[.string ByteArray.empty, .bool false]) w :=
  run_assert_nil Tryz.underlying117 (fun _ h => by cases h) (fun _ => by kernel_rfl) w
theorem assert_int (t : TypeId) (v : Value) (w : World) : (Instr.typeAssert (.iface t v) 20 3 true).run Tryz.prog w = .ok (if t = 3 then .tuple #[v, .bool true] else .tuple #[.int .i64 0, .bool false]) w :=
  run_assert Tryz.underlying3 (fun _ h => by cases h) (fun _ => by kernel_rfl) t v w
theorem assert_int_nil (w : World) : (Instr.typeAssert .nilIface 20 3 true).run Tryz.prog w = .ok (.tuple #[.int .i64 0, .bool false]) w :=
  run_assert_nil Tryz.underlying3 (fun _ h => by cases h) (fun _ => by kernel_rfl) w
theorem assert_float64 (t : TypeId) (v : Value) (w : World) : (Instr.typeAssert (.iface t v) 20 64 true).run Tryz.prog w = .ok (if t = 64 then .tuple #[v, .bool true] else .tuple #[.float .f64 0, .bool false]) w :=
  run_assert Tryz.underlying64 (fun _ h => by cases h) (fun _ => by kernel_rfl) t v w
theorem assert_float64_nil (w : World) : (Instr.typeAssert .nilIface 20 64 true).run Tryz.prog w = .ok (.tuple #[.float .f64 0, .bool false]) w :=
  run_assert_nil Tryz.underlying64 (fun _ h => by cases h) (fun _ => by kernel_rfl) w
theorem assert_pbigInt (t : TypeId) (v : Value) (w : World) : (Instr.typeAssert (.iface t v) 20 116 true).run Tryz.prog w = .ok (if t = 116 then .tuple #[v, .bool true] else .tuple #[.pointer none, .bool false]) w :=
  run_assert Tryz.underlying116 (fun _ h => by cases h) (fun _ => by kernel_rfl) t v w
theorem assert_pbigInt_nil (w : World) : (Instr.typeAssert .nilIface 20 116 true).run Tryz.prog w = .ok (.tuple #[.pointer none, .bool false]) w :=
  run_assert_nil Tryz.underlying116 (fun _ h => by cases h) (fun _ => by kernel_rfl) w
theorem assert_string (t : TypeId) (v : Value) (w : World) : (Instr.typeAssert (.iface t v) 20 9 true).run Tryz.prog w = .ok (if t = 9 then .tuple #[v, .bool true] else .tuple #[.string ByteArray.empty, .bool false]) w :=
  run_assert Tryz.underlying9 (fun _ h => by cases h) (fun _ => by kernel_rfl) t v w
theorem assert_string_nil (w : World) : (Instr.typeAssert .nilIface 20 9 true).run Tryz.prog w = .ok (.tuple #[.string ByteArray.empty, .bool false]) w :=
  run_assert_nil Tryz.underlying9 (fun _ h => by cases h) (fun _ => by kernel_rfl) w
theorem assert_sl (t : TypeId) (v : Value) (w : World) : (Instr.typeAssert (.iface t v) 20 65 true).run Tryz.prog w = .ok (if t = 65 then .tuple #[v, .bool true] else .tuple #[.slice none 0 0, .bool false]) w :=
  run_assert Tryz.underlying65 (fun _ h => by cases h) (fun _ => by kernel_rfl) t v w
theorem assert_sl_nil (w : World) : (Instr.typeAssert .nilIface 20 65 true).run Tryz.prog w = .ok (.tuple #[.slice none 0 0, .bool false]) w :=
  run_assert_nil Tryz.underlying65 (fun _ h => by cases h) (fun _ => by kernel_rfl) w
theorem assert_m (t : TypeId) (v : Value) (w : World) : (Instr.typeAssert (.iface t v) 20 68 true).run Tryz.prog w = .ok (if t = 68 then .tuple #[v, .bool true] else .tuple #[.map none, .bool false]) w :=
  run_assert Tryz.underlying68 (fun _ h => by cases h) (fun _ => by kernel_rfl) t v w
theorem assert_m_nil (w : World) : (Instr.typeAssert .nilIface 20 68 true).run Tryz.prog w = .ok (.tuple #[.map none, .bool false]) w :=
  run_assert_nil Tryz.underlying68 (fun _ h => by cases h) (fun _ => by kernel_rfl) w
theorem assert_bool (t : TypeId) (v : Value) (w : World) : (Instr.typeAssert (.iface t v) 20 4 true).run Tryz.prog w = .ok (if t = 4 then .tuple #[v, .bool true] else .tuple #[.bool false, .bool false]) w :=
  run_assert Tryz.underlying4 (fun _ h => by cases h) (fun _ => by kernel_rfl) t v w
theorem assert_bool_nil (w : World) : (Instr.typeAssert .nilIface 20 4 true).run Tryz.prog w = .ok (.tuple #[.bool false, .bool false]) w :=
  run_assert_nil Tryz.underlying4 (fun _ h => by cases h) (fun _ => by kernel_rfl) w

end Go.Proofs.YtiphcojcdegnkaaGreatDoor

namespace Go.Proofs.YtiphcojcdegnkaaGreatDoor
open Go Go.RowKit

theorem conv_any (w : World) (b : Nat) : ∃ n : Int, ∃ w', (convert 64 3 (.float .f64 b)).run Tryz.prog w = .ok (.int .i64 n) w' ∧ -9223372036854775808 ≤ n ∧ n ≤ 9223372036854775807 ∧ Below w.heap.size w w' := by
  cases h : floatToIntVal .f64 b .i64 with
  | some n =>
    refine ⟨n, w, run_convert_float_int w _ _ _ _ _ _ (by rw [Tryz.underlying64]; rfl) Tryz.underlying3 h, ?_, ?_, Below.refl _ _⟩
    all_goals
      have := floatToIntVal_wf h
      simp [Lit.wf, IntKind.min, IntKind.max, IntKind.signed, IntKind.bits] at this
      omega
  | none =>
    have hw : ∀ x : Nat, -9223372036854775808 ≤ IntKind.i64.wrap (x : Int) ∧ IntKind.i64.wrap (x : Int) ≤ 9223372036854775807 := by
      intro x
      rw [IntKind.wrap_i64]
      omega
    unfold floatToIntVal at h
    cases he : (FloatKind.f64.decode b).toInt .zero with
    | none =>
      refine ⟨IntKind.i64.wrap (((Question.floatToInt .f64 b .i64).cut (w.tape w.drawn (.floatToInt .f64 b .i64)) : Nat) : Nat), w.drew, ?_, (hw _).1, (hw _).2, (Below.refl _ _).drew⟩
      simp [convert, run_underlying Tryz.underlying64, run_underlying Tryz.underlying3, Conv.floatToInt, he, Question.forced]
    | some n =>
      rw [he] at h
      simp only at h
      split at h
      · cases h
      · rename_i hc
        refine ⟨IntKind.i64.wrap (((Question.floatToInt .f64 b .i64).cut (w.tape w.drawn (.floatToInt .f64 b .i64)) : Nat) : Nat), w.drew, ?_, (hw _).1, (hw _).2, (Below.refl _ _).drew⟩
        simp [convert, run_underlying Tryz.underlying64, run_underlying Tryz.underlying3, Conv.floatToInt, he]
        rw [if_neg (show ¬ (IntKind.i64.min ≤ n ∧ n ≤ 9223372036854775807) from hc)]
        simp [Question.forced]

end Go.Proofs.YtiphcojcdegnkaaGreatDoor

namespace Go.Proofs.YtiphcojcdegnkaaGreatDoor
open Go Go.RowKit

theorem isNaN_any (b : Nat) (w : World) : Calls Tryz.prog 134 #[.float .f64 b] w fun e w' => e = .returned (.bool (FloatKind.f64.format.order b b != some .eq)) ∧ w' = w := by
  go_enter Tryz.func134, Tryz.ntmps134
  go_wp2_with fail
  go_ret
  exact ⟨rfl, rfl⟩

def SomeInt (w : World) (e : Ending) (w' : World) : Prop := ∃ n : Int, e = .returned (.int .i64 n) ∧ -9223372036854775808 ≤ n ∧ n ≤ 9223372036854775807 ∧ Below w.heap.size w w'

set_option maxRecDepth 100000 in
theorem floatToInt_any (b : Nat) (w : World) : Calls Tryz.prog 72 #[.float .f64 b] w (SomeInt w) := by
  obtain ⟨n, w', hc, hn1, hn2, hb⟩ := conv_any w b
  go_enter Tryz.func72, Tryz.ntmps72
  go_wp2_with fail
  all_goals go_ret
  all_goals exact ⟨_, rfl, by omega, by omega, by first | exact hb | exact Below.refl _ _⟩

end Go.Proofs.YtiphcojcdegnkaaGreatDoor

namespace Go.Proofs.YtiphcojcdegnkaaGreatDoor
open Go Go.RowKit

/-- A value that is one of the package's errors. -/
inductive ErrV : Value → Prop
  | func1TypeError (a : Addr) : ErrV (.iface 93 (.pointer (some a)))
  | func1WrapError (a : Addr) : ErrV (.iface 96 (.pointer (some a)))
  | func0TypeError (a : Addr) : ErrV (.iface 220 (.pointer (some a)))
  | func2WrapError (a : Addr) : ErrV (.iface 138 (.pointer (some a)))
  | expectedObjectError (a : Addr) : ErrV (.iface 113 (.pointer (some a)))
  | expectedArrayError (a : Addr) : ErrV (.iface 121 (.pointer (some a)))
  | arrayIndexNotNumberError (a : Addr) : ErrV (.iface 127 (.pointer (some a)))
  | objectKeyNotStringError (a : Addr) : ErrV (.iface 131 (.pointer (some a)))
  | expectedStartEndError (a : Addr) : ErrV (.iface 124 (.pointer (some a)))
  | stringIndexNotNumberError (a : Addr) : ErrV (.iface 129 (.pointer (some a)))
  | arrayIndexNegativeError (a : Addr) : ErrV (.iface 195 (.pointer (some a)))
  | arrayIndexTooLargeError (a : Addr) : ErrV (.iface 198 (.pointer (some a)))

theorem ErrV.form {v : Value} (h : ErrV v) : ∃ t a, v = .iface t (.pointer (some a)) := by
  cases h <;> exact ⟨_, _, rfl⟩

/-- An error, in new memory alone. -/
def RetErr (w : World) : Ending → World → Prop := Ret fun v w' => ErrV v ∧ Below w.heap.size w w'

end Go.Proofs.YtiphcojcdegnkaaGreatDoor

namespace Go.Proofs.YtiphcojcdegnkaaGreatDoor
open Go Go.RowKit Go.Maps Go.Deep
attribute [local go_sem] assert_jsonNumber assert_jsonNumber_nil assert_int assert_int_nil assert_float64 assert_float64_nil assert_pbigInt assert_pbigInt_nil assert_string assert_string_nil assert_sl assert_sl_nil assert_m assert_m_nil assert_bool assert_bool_nil

def clampI (i lo hi : Int) : Int := let j := if i < 0 then i + hi else i; if j < lo then lo else if j < hi then j else hi

theorem clamp_any (i lo hi : Int) (h1 : -9223372036854775808 ≤ i ∧ i ≤ 9223372036854775807) (h2 : 0 ≤ hi ∧ hi ≤ 140737488355328) (w : World) :
    Calls Tryz.prog 77 #[.int .i64 i, .int .i64 lo, .int .i64 hi] w fun e w' => e = .returned (.int .i64 (clampI i lo hi)) ∧ w' = w := by
  by_cases c : i < 0
  · have hw : wrap64 (i + hi) = i + hi := by unfold wrap64; omega
    have e : clampI i lo hi = if i + hi < lo then lo else if i + hi < hi then i + hi else hi := by unfold clampI; simp only; rw [if_pos c]
    rw [e]
    clear e
    by_cases c1 : i + hi < lo
    · rw [if_pos c1]
      go_enter Tryz.func77, Tryz.ntmps77
      go_wp2_with fail
      go_ret
      exact ⟨rfl, rfl⟩
    · rw [if_neg c1]
      by_cases c2 : i + hi < hi
      · rw [if_pos c2]
        go_enter Tryz.func77, Tryz.ntmps77
        go_wp2_with fail
        go_ret
        exact ⟨rfl, rfl⟩
      · rw [if_neg c2]
        go_enter Tryz.func77, Tryz.ntmps77
        go_wp2_with fail
        go_ret
        exact ⟨rfl, rfl⟩
  · have e : clampI i lo hi = if i < lo then lo else if i < hi then i else hi := by unfold clampI; simp only; rw [if_neg c]
    rw [e]
    clear e
    by_cases c1 : i < lo
    · rw [if_pos c1]
      go_enter Tryz.func77, Tryz.ntmps77
      go_wp2_with fail
      go_ret
      exact ⟨rfl, rfl⟩
    · rw [if_neg c1]
      by_cases c2 : i < hi
      · rw [if_pos c2]
        go_enter Tryz.func77, Tryz.ntmps77
        go_wp2_with fail
        go_ret
        exact ⟨rfl, rfl⟩
      · rw [if_neg c2]
        go_enter Tryz.func77, Tryz.ntmps77
        go_wp2_with fail
        go_ret
        exact ⟨rfl, rfl⟩

def IntB (w : World) (b : Bool) (n : Int) (e : Ending) (w' : World) : Prop := e = .returned (.tuple #[.int .i64 n, .bool b]) ∧ Below w.heap.size w w'
def SomeIntB (w : World) (e : Ending) (w' : World) : Prop := ∃ n : Int, e = .returned (.tuple #[.int .i64 n, .bool true]) ∧ -9223372036854775808 ≤ n ∧ n ≤ 9223372036854775807 ∧ Below w.heap.size w w'

theorem toInt_int (n : Int) (w : World) : Calls Tryz.prog 59 #[.iface 3 (.int .i64 n)] w (IntB w true n) := by
  go_enter Tryz.func59, Tryz.ntmps59
  go_wp2_with fail
  go_ret2
  exact ⟨rfl, Below.refl _ _⟩
theorem toInt_flt (x : Nat) (w : World) : Calls Tryz.prog 59 #[.iface 64 (.float .f64 x)] w (SomeIntB w) := by
  go_enter Tryz.func59, Tryz.ntmps59
  go_wp2_with fail
  refine (floatToInt_any x _).mono ?_
  rintro e w3 ⟨n, rfl, hn1, hn2, hb3⟩
  go_wp2_with fail
  go_ret2
  exact ⟨n, rfl, hn1, hn2, hb3⟩
/-- Neither a number nor json.Number. -/
def NoNum (x : Value) : Prop := ∃ t y, x = .iface t y ∧ t ≠ 117 ∧ t ≠ 3 ∧ t ≠ 64 ∧ t ≠ 116
theorem toInt_no {x : Value} (hx : NoNum x) (w : World) : Calls Tryz.prog 59 #[x] w (IntB w false 0) := by
  obtain ⟨t, y, rfl, n0, n1, n2, n3⟩ := hx
  go_enter Tryz.func59, Tryz.ntmps59
  go_wp2_with fail
  go_ret2
  exact ⟨rfl, Below.refl _ _⟩
theorem toIntCeil_int (n : Int) (w : World) : Calls Tryz.prog 110 #[.iface 3 (.int .i64 n)] w (IntB w true n) := by
  have H := Lib.hid fun w => toInt_int n w
  go_enter Tryz.func110, Tryz.ntmps110
  go_wp2_with fail
  refine (H.out _).mono ?_
  rintro e w3 ⟨rfl, hb⟩
  go_wp2_with fail
  go_ret2
  exact ⟨rfl, hb⟩
theorem toIntCeil_no {x : Value} (hx : NoNum x) (w : World) : Calls Tryz.prog 110 #[x] w (IntB w false 0) := by
  have H := Lib.hid fun w => toInt_no hx w
  obtain ⟨t, y, rfl, n0, n1, n2, n3⟩ := hx
  go_enter Tryz.func110, Tryz.ntmps110
  go_wp2_with fail
  refine (H.out _).mono ?_
  rintro e w3 ⟨rfl, hb⟩
  go_wp2_with fail
  go_ret2
  exact ⟨rfl, hb⟩

/-- Where an index falls. -/
def nthI (i : Int) (n : Nat) : Option Nat := let m := if i < 0 then i + n else i; if 0 ≤ m ∧ m < n then some m.toNat else none

theorem nthI_some {i : Int} {n k : Nat} (h : nthI i n = some k) : (k : Int) = (if i < 0 then i + n else i) ∧ k < n := by
  unfold nthI at h
  simp only at h
  generalize (if i < 0 then i + (n : Int) else i) = m at *
  by_cases c : 0 ≤ m ∧ m < (n : Int)
  · rw [if_pos c] at h
    cases h
    omega
  · rw [if_neg c] at h
    cases h
theorem nthI_none {i : Int} {n : Nat} (h : nthI i n = none) : (if i < 0 then i + (n : Int) else i) < 0 ∨ (n : Int) ≤ (if i < 0 then i + (n : Int) else i) := by
  unfold nthI at h
  simp only at h
  generalize (if i < 0 then i + (n : Int) else i) = m at *
  by_cases c : 0 ≤ m ∧ m < (n : Int)
  · rw [if_pos c] at h
    cases h
  · omega

/-- What stands at an index. -/
def atO (f : Nat → Value) : Option Nat → Value
  | some k => f k
  | none => .nilIface

theorem gindex_any (w : World) (a : Option Addr) (n c : Nat) (f : Nat → Value) (hn : n ≤ 140737488355328) (cf : 0 < n → ∃ b o, a = some ⟨b, o, none⟩ ∧ ∀ i, i < n → w.cell? ⟨b, o + i, none⟩ = some (f i)) (of1 : ∀ i, i < n → f i = .nilIface ∨ ∃ t y, f i = .iface t y)
    (i : Int) (h1 : -9223372036854775808 ≤ i ∧ i ≤ 9223372036854775807) :
    Calls Tryz.prog 60 #[.slice a n c, .int .i64 i] w fun e w' => e = .returned (atO f (nthI i n)) ∧ w' = w := by
  have K := Lib.hid (clamp_any i (-1) n h1 (by omega))
  cases hk : nthI i n with
  | some k =>
    have hc : clampI i (-1) n = (k : Int) ∧ k < n := by
      obtain ⟨e, hk'⟩ := nthI_some hk
      unfold clampI
      simp only
      rw [← e, if_neg (by omega), if_pos (by omega)]
      exact ⟨rfl, hk'⟩
    obtain ⟨b, o, rfl, hcell⟩ := cf (by omega)
    have y1 := hcell k hc.2
    have u1 : (k : Int) < (n : Int) := by omega
    have u2 : (0 : Int) ≤ (k : Int) := by omega
    rw [hc.1] at K
    show Calls _ _ _ _ fun e w' => e = .returned (f k) ∧ w' = w
    clear hcell cf hc hk h1
    rcases of1 k (by omega) with e | ⟨t, y, e⟩
    all_goals
      rw [e] at y1 ⊢
      clear e of1
      go_enter Tryz.func60, Tryz.ntmps60
      go_wp2_with fail
      refine (K.out _).mono ?_
      rintro e w3 ⟨rfl, rfl⟩
      go_wp2_with fail
      go_ret
      exact ⟨rfl, rfl⟩
  | none =>
    have hc : ∃ m : Int, clampI i (-1) n = m ∧ (m = -1 ∨ m = n) := by
      have e := nthI_none hk
      unfold clampI
      simp only
      generalize (if i < 0 then i + (n : Int) else i) = m at *
      by_cases c1 : m < -1
      · exact ⟨-1, if_pos c1, .inl rfl⟩
      · rw [if_neg c1]
        by_cases c2 : m < (n : Int)
        · rw [if_pos c2]
          exact ⟨m, rfl, by omega⟩
        · rw [if_neg c2]
          exact ⟨n, rfl, .inr rfl⟩
    obtain ⟨m, e, hm⟩ := hc
    rw [e] at K
    show Calls _ _ _ _ fun e w' => e = .returned .nilIface ∧ w' = w
    clear e hk h1 cf of1
    rcases hm with rfl | rfl
    all_goals
      go_enter Tryz.func60, Tryz.ntmps60
      go_wp2_with fail
      refine (K.out _).mono ?_
      rintro e w3 ⟨rfl, rfl⟩
      go_wp2_with fail
      go_ret
      exact ⟨rfl, rfl⟩

/-- A part of a row is a row. -/
theorem RepJ.part {w : World} {S : Nat → Prop} {l : List J} {a : Option Addr} {n c : Nat} (h : RepJ w S (.arr l) (.iface 65 (.slice a n c))) (i j : Nat) (hij : i ≤ j) (hj : j ≤ l.length) (a' : Option Addr) (c' : Nat) (hc' : j - i ≤ c') (hcc : c' ≤ c)
    (ha : ∀ b o, a = some ⟨b, o, none⟩ → a' = some ⟨b, o + i, none⟩) : RepJ w S (.arr ((l.drop i).take (j - i))) (.iface 65 (.slice a' (j - i) c')) := by
  cases h with
  | arr f b o N F hl hc ca own sub dis ra hcb =>
    have hlen : ((l.drop i).take (j - i)).length = j - i := by simp; omega
    have hq : ∀ q (hq : q < ((l.drop i).take (j - i)).length), ((l.drop i).take (j - i))[q] = l[i + q]'(by omega) := fun q hq => by simp
    have := RepJ.arr (w := w) (S := S) (l := (l.drop i).take (j - i)) (a := a') (c := c') f b (o + i) N (fun q => F (i + q)) (by omega) (by omega)
      (fun h0 => by
        obtain ⟨e1, e2, e3, e4⟩ := ca (by omega)
        exact ⟨ha b o e1, e2, e3, by omega⟩)
      (fun q hq => own (i + q) (by omega)) (fun q k hq hk => sub (i + q) k (by omega) hk) (fun q r k hqr hr => dis (i + q) (i + r) k (by omega) (by omega))
      (fun q hq' => by
        rw [hq q hq']
        have := ra (i + q) (by omega)
        rw [← Nat.add_assoc] at this
        exact this) (Nat.le_trans hcc hcb)
    rw [hlen] at this
    exact this

end Go.Proofs.YtiphcojcdegnkaaGreatDoor

namespace Go.Proofs
open Go.Shelf
def Tryz.copyM_ren : Go.Shelf.Ren := ⟨fun | 5 => 113 | n => n, fun | 23 => 68 | 24 => 68 | 26 => 9 | 27 => 20 | 0 => 0 | 4 => 4 | n => n, fun | n => n⟩
theorem Tryz.copyM : Go.Proofs.SlLaysX.n5 Tryz.prog Tryz.copyM_ren := {
  mixed := by kernel_rfl
  f5 := ⟨Tryz.f113.name, by decide, Tryz.func113.trans (congrArg some (by kernel_rfl))⟩
  t0 := Tryz.underlying0
  a0 := Tryz.isAgg0
  z0 := Tryz.sizeOf0
  v0 := Tryz.zeroValue0
  t4 := Tryz.underlying4
  a4 := Tryz.isAgg4
  z4 := Tryz.sizeOf4
  v4 := Tryz.zeroValue4
  t23 := Tryz.underlying68
  a23 := Tryz.isAgg68
  z23 := Tryz.sizeOf68
  v23 := Tryz.zeroValue68
  t24 := Tryz.underlying68
  a24 := Tryz.isAgg68
  z24 := Tryz.sizeOf68
  v24 := Tryz.zeroValue68
  a26 := Tryz.isAgg9
  z26 := Tryz.sizeOf9
  a27 := Tryz.isAgg20
  z27 := Tryz.sizeOf20 }
end Go.Proofs
namespace Go.Proofs.YtiphcojcdegnkaaGreatDoor
open Go Go.RowKit Go.Maps Go.Deep

theorem allocated_any (a x : Value) (w : World) : Calls Tryz.prog 111 #[a, x] w fun e w' => e = .returned (.bool false) ∧ w' = w := by
  go_enter Tryz.func111, Tryz.ntmps111
  go_wp2_with fail
  go_ret
  exact ⟨rfl, rfl⟩
theorem makeObject_any (a : Value) (n : Int) (w : World) : Calls Tryz.prog 112 #[a, .int .i64 n] w fun e w' => e = .returned (.map (some w.heap.size)) ∧ w' = w.alloc (.map #[] 0) := by
  have hmk := run_makeMap_hint (P := Tryz.prog) Tryz.underlying68 .i64 n w
  go_enter Tryz.func112, Tryz.ntmps112
  go_wp2_with fail
  go_ret
  exact ⟨rfl, rfl⟩
theorem makeArray_any (a : Value) (l c : Nat) (hl : l ≤ capMax) (hc : c ≤ capMax) (w : World) : Calls Tryz.prog 114 #[a, .int .i64 l, .int .i64 c] w fun e w' => e = .returned (.slice (some ⟨w.heap.size, 0, none⟩) l (max l c)) ∧ w' = w.alloc (.cells (madeCells #[.nilIface] (max l c)) 20) := by
  obtain ⟨i0, hi, hz0, hz1, hz2⟩ := info_parts info_any
  have hmax : max l c ≤ capMax := by omega
  have hmk := run_make (P := Tryz.prog) w 65 20 i0 .nilIface Tryz.underlying65 hi hz0 .i64 .i64 l (max l c : Nat) (by omega) (by omega) (by rw [hz2]; unfold capMax at hmax; omega) (by unfold capMax at hmax; omega)
  have em : (max l c : Nat) = if (l : Int) < (c : Int) then c else l := by split <;> omega
  simp only [Int.toNat_natCast, hz1, Nat.mul_one] at hmk
  go_enter Tryz.func114, Tryz.ntmps114
  by_cases h : (l : Int) < (c : Int)
  · rw [em, if_pos h] at hmk ⊢
    go_wp2_with fail
    go_ret
    exact ⟨rfl, rfl⟩
  · rw [em, if_neg h] at hmk ⊢
    go_wp2_with fail
    go_ret
    exact ⟨rfl, rfl⟩

/-- maps.Copy into a new map. -/
theorem copy_any (bd : Nat) (t : List (ByteArray × Part)) (bs : Nat) (w : World) (hd : w.ownsMap Tryz.prog 9 heldR bd 0 (.map [])) (hs : MapE w bs t) (hne : bs ≠ bd) :
    Calls Tryz.prog 113 #[.map (some bd), .map (some bs)] w fun e w' => e = .returned (.tuple #[]) ∧ w'.ownsMap Tryz.prog 9 heldR bd t.length (.map (entT t)) ∧ w.grownBy w' (some bd) := by
  have hr := hs.rises
  obtain ⟨n, hn, ho⟩ := hs
  have hsz := ho.size_le
  have h := AnyX.maps_Copy_opt Tryz.copyM law_str heldR bd 0 (some bs) (.map []) _ w hd (.inr ⟨bs, n, rfl, ho⟩) (fun e => hne (Option.some.inj e)) (by rw [entT_size] at hsz ⊢; unfold maxLen; omega)
  rw [merge_new hr, entT_size, Nat.zero_add] at h
  exact h
theorem copy_none (bd : Nat) (w : World) : Calls Tryz.prog 113 #[.map (some bd), .map none] w fun e w' => e = .returned (.tuple #[]) ∧ w' = w.alloc (.mapIter none 0 #[] 0) :=
  AnyX.maps_Copy_nil Tryz.copyM (some bd) w

end Go.Proofs.YtiphcojcdegnkaaGreatDoor
