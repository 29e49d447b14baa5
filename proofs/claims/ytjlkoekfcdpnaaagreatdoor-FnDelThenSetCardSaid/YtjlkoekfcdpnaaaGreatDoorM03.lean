/- Plain: what gojq.update makes of a tree: a value set at a path of keys and places. -/
/- A tree's own memory opened and closed: a map's entries, an array's elements, each with its footprint. -/
/- Type assertions at this program's types. -/
/- A float turned into an int, whatever it is. -/
/- Contracts of gojq.floatToInt, of the callbacks of gojq.funcOpMod. -/
/- The package's errors, as values. -/
/- Contracts of gojq.clampIndex, toInt, toIntCeil, index, slice, funcSlice, funcIndex2. -/
import Derived.Test.YtjlkoekfcdpnaaaGreatDoorM01
import Derived.Test.YtjlkoekfcdpnaaaGreatDoorM02
import Derived.WideShapes
import Derived.Maps.Ext
import Derived.Maps.Keyed
import Derived.Lib.SlMapMerge
import Derived.Test.YtjlkoekfcdpnaaaGreatDoorProg
import Derived.WalkLawsBesides
import Derived.KernelRfl
import Derived.Laws.FloatArith
import Derived.Deep.QuietTactic
import Derived.BigQuiet
namespace Go.Proofs.YtjlkoekfcdpnaaaGreatDoor
open Go Go.RowKit
/-- A step of a path. -/
inductive Stp where
  | key (k : ByteArray)
  | idx (n : Nat)
def Stp.v : Stp → V
  | .key k => strV k
  | .idx n => numV n
def keyL (k : ByteArray) : Lit := .string k.data.toList
theorem keyL_same (a b : ByteArray) : (keyL a).sameKey (keyL b) = true ↔ a = b := by
  constructor
  · intro h
    have h2 : a.data.toList = b.data.toList := by simpa [keyL, Lit.sameKey] using h
    obtain ⟨⟨x⟩⟩ := a
    obtain ⟨⟨y⟩⟩ := b
    simp at h2
    rw [h2]
  · rintro rfl
    simp [keyL, Lit.sameKey]
section
variable {α β : Type}
def insK (x : ByteArray × α) : List (ByteArray × α) → List (ByteArray × α)
  | [] => [x]
  | y :: r => if (keyL x.1).before (keyL y.1) then x :: y :: r else y :: insK x r
/-- An entry laid into a map's sorted entries. -/
def putK (m : List (ByteArray × α)) (k : ByteArray) (a : α) : List (ByteArray × α) := insK (k, a) (m.filter fun p => !(keyL p.1).sameKey (keyL k))
def getK (m : List (ByteArray × α)) (k : ByteArray) : Option α := (m.find? fun p => (keyL p.1).sameKey (keyL k)).map (·.2)
def RisesK (m : List (ByteArray × α)) : Prop := m.Pairwise fun p q => (keyL p.1).before (keyL q.1) = true
theorem mem_insK {x y : ByteArray × α} : ∀ {l : List (ByteArray × α)}, y ∈ insK x l ↔ y = x ∨ y ∈ l
  | [] => by simp [insK]
  | z :: r => by
    unfold insK
    split
    · simp
    · simp only [List.mem_cons, mem_insK (l := r)]
      constructor
      · rintro (h | h | h) <;> simp [h]
      · rintro (h | h | h) <;> simp [h]
theorem mem_putK {m : List (ByteArray × α)} {k : ByteArray} {a : α} {y : ByteArray × α} : y ∈ putK m k a ↔ y = (k, a) ∨ (y ∈ m ∧ y.1 ≠ k) := by
  unfold putK
  rw [mem_insK, List.mem_filter]
  constructor
  · rintro (h | ⟨h, h2⟩)
    · exact .inl h
    · exact .inr ⟨h, fun e => by rw [(keyL_same _ _).2 e] at h2; cases h2⟩
  · rintro (h | ⟨h, h2⟩)
    · exact .inl h
    · refine .inr ⟨h, ?_⟩
      cases c : (keyL y.1).sameKey (keyL k)
      · rfl
      · exact absurd ((keyL_same _ _).1 c) h2
theorem insK_map (f : α → β) (x : ByteArray × α) : ∀ (l : List (ByteArray × α)), (insK x l).map (fun p => (p.1, f p.2)) = insK (x.1, f x.2) (l.map fun p => (p.1, f p.2))
  | [] => by simp [insK]
  | y :: r => by
    unfold insK
    simp only [List.map_cons]
    split
    · rfl
    · rw [List.map_cons, insK_map f x r]
theorem putK_map (f : α → β) (m : List (ByteArray × α)) (k : ByteArray) (a : α) : (putK m k a).map (fun p => (p.1, f p.2)) = putK (m.map fun p => (p.1, f p.2)) k (f a) := by
  unfold putK
  rw [insK_map, List.filter_map]
  rfl
theorem insK_len (x : ByteArray × α) : ∀ (l : List (ByteArray × α)), (insK x l).length = l.length + 1
  | [] => rfl
  | y :: r => by
    unfold insK
    split
    · rfl
    · simp [insK_len x r]
theorem putK_len (m : List (ByteArray × α)) (k : ByteArray) (a : α) : (putK m k a).length ≤ m.length + 1 := by
  unfold putK
  rw [insK_len]
  have := List.length_filter_le (fun p => !(keyL p.1).sameKey (keyL k)) m
  omega
theorem insK_pair {R : ByteArray × α → ByteArray × α → Prop} {x : ByteArray × α} : ∀ {l : List (ByteArray × α)}, l.Pairwise R → (∀ y ∈ l, R x y ∧ R y x) → (insK x l).Pairwise R
  | [], _, _ => by simp [insK]
  | y :: r, h, hx => by
    obtain ⟨h1, h2⟩ := List.pairwise_cons.1 h
    unfold insK
    split
    · exact List.pairwise_cons.2 ⟨fun z hz => (hx z hz).1, h⟩
    · refine List.pairwise_cons.2 ⟨fun z hz => ?_, insK_pair h2 fun z hz => hx z (List.mem_cons_of_mem _ hz)⟩
      rcases mem_insK.1 hz with rfl | hz
      · exact (hx y (List.mem_cons_self ..)).2
      · exact h1 z hz
theorem putK_pair {R : ByteArray × α → ByteArray × α → Prop} {m : List (ByteArray × α)} {k : ByteArray} {a : α} (h : m.Pairwise R) (hx : ∀ y ∈ m, y.1 ≠ k → R (k, a) y ∧ R y (k, a)) : (putK m k a).Pairwise R := by
  unfold putK
  refine insK_pair (h.filter _) fun y hy => ?_
  obtain ⟨h1, h2⟩ := List.mem_filter.1 hy
  exact hx y h1 fun e => by rw [(keyL_same _ _).2 e] at h2; cases h2
/-- As the model's maps put it. -/
theorem insK_data {H : Type} (g : α → DataW H) (x : ByteArray × α) : ∀ (l : List (ByteArray × α)), (insK x l).map (fun p => (keyL p.1, g p.2)) = DataW.insert (keyL x.1, g x.2) (l.map fun p => (keyL p.1, g p.2))
  | [] => by simp [insK, DataW.insert]
  | y :: r => by
    unfold insK
    simp only [List.map_cons, DataW.insert]
    split
    · rfl
    · rw [List.map_cons, insK_data g x r]
theorem putK_data {H : Type} (g : α → DataW H) (m : List (ByteArray × α)) (k : ByteArray) (a : α) : (DataW.map (m.map fun p => (keyL p.1, g p.2))).put (keyL k) (g a) = .map ((putK m k a).map fun p => (keyL p.1, g p.2)) := by
  unfold putK
  rw [insK_data]
  show DataW.map (DataW.insert (keyL k, g a) (List.filter (fun p => !p.1.sameKey (keyL k)) (m.map fun p => (keyL p.1, g p.2)))) = _
  rw [List.filter_map]
  rfl
theorem rises_irrefl {m : List (ByteArray × α)} (h : RisesK m) : m.Pairwise fun p q => p.1 ≠ q.1 :=
  h.imp fun {a b} hab e => by rw [e, Go.WideShapes.before_irrefl] at hab; cases hab
theorem getK_mem {m : List (ByteArray × α)} {k : ByteArray} {a : α} (h : getK m k = some a) : (k, a) ∈ m := by
  unfold getK at h
  obtain ⟨p, hp, rfl⟩ := Option.map_eq_some_iff.1 h
  have h1 := List.find?_some hp
  have h2 := List.mem_of_find?_eq_some hp
  rw [← (keyL_same _ _).1 h1]
  exact h2
theorem getK_none {m : List (ByteArray × α)} {k : ByteArray} (h : getK m k = none) : ∀ p ∈ m, p.1 ≠ k := by
  unfold getK at h
  have h1 := List.find?_eq_none.1 (Option.map_eq_none_iff.1 h)
  intro p hp e
  exact h1 p hp ((keyL_same _ _).2 e)
theorem getK_of {m : List (ByteArray × α)} (hr : m.Pairwise fun p q => p.1 ≠ q.1) {k : ByteArray} {a : α} (h : (k, a) ∈ m) : getK m k = some a := by
  induction m with
  | nil => cases h
  | cons y r ih =>
    obtain ⟨h1, h2⟩ := List.pairwise_cons.1 hr
    unfold getK
    rw [List.find?_cons]
    rcases List.mem_cons.1 h with rfl | h
    · rw [(keyL_same _ _).2 rfl]
      rfl
    · have : (keyL y.1).sameKey (keyL k) = false := by
        cases c : (keyL y.1).sameKey (keyL k)
        · rfl
        · exact absurd ((keyL_same _ _).1 c) (h1 _ h)
      rw [this]
      exact ih h2 h
theorem before_asymm {a b : ByteArray} (h : (keyL a).before (keyL b) = true) : (keyL b).before (keyL a) = false := by
  cases c : (keyL b).before (keyL a)
  · rfl
  · have := Go.WideShapes.before_trans h c
    rw [Go.WideShapes.before_irrefl] at this
    cases this
end
def isHole : J → Bool
  | .hole => true
  | _ => false
/-- An array with u at place i, filled up with null where it is too short. -/
def padJ (l : List J) (i : Nat) (u : J) : List J := (l ++ List.replicate (i + 1 - l.length) J.null).set i u
theorem padJ_in {l : List J} {i : Nat} (h : i < l.length) (u : J) : padJ l i u = l.set i u := by
  unfold padJ
  rw [show i + 1 - l.length = 0 by omega]
  simp
/-- The tree v with n at the path p; none: an error. -/
def updJ : J → List Stp → J → Option J
  | _, [], n => some n
  | v, .key k :: p, n => match v with
    | .null => if isHole n then some .null else (updJ .null p n).map fun u => .obj [(k, u)]
    | .obj m => match getK m k with
      | none => if isHole n then some (.obj m) else (updJ .null p n).map fun u => .obj (putK m k u)
      | some x => (updJ x p n).map fun u => .obj (putK m k u)
    | .hole => some .hole
    | _ => none
  | v, .idx i :: p, n => match v with
    | .null => if isHole n then some .null else (updJ .null p n).map fun u => .arr (padJ [] i u)
    | .arr l => match l[i]? with
      | none => if isHole n then some (.arr l) else (updJ .null p n).map fun u => .arr (padJ l i u)
      | some x => (updJ x p n).map fun u => .arr (padJ l i u)
    | .hole => some .hole
    | _ => none
/-- Where n is the hole, each place on the path p is there in v. -/
def Fine : J → List Stp → J → Prop
  | _, [], _ => True
  | v, .key k :: p, n => match v with
    | .obj m => ∀ x, getK m k = some x → Fine x p n
    | _ => True
  | v, .idx i :: p, n => match v with
    | .arr l => ∀ x, l[i]? = some x → Fine x p n
    | _ => True
theorem fine_null (p : List Stp) (n : J) : Fine .null p n := by
  cases p with
  | nil => trivial
  | cons x p => cases x <;> trivial
theorem fine_any : ∀ (p : List Stp) (v n : J), Fine v p n
  | [], _, _ => by unfold Fine; trivial
  | .key k :: p, v, n => by
    cases v <;> try (unfold Fine; trivial)
    exact fun x _ => fine_any p x n
  | .idx i :: p, v, n => by
    cases v <;> try (unfold Fine; trivial)
    exact fun x _ => fine_any p x n
theorem keys_rise {ks : List ByteArray} (rise : ∀ i (hi : i + 1 < ks.length), Op.bytesLess ks[i].toList ks[i + 1].toList = true) : ks.Pairwise fun a b => (keyL a).before (keyL b) = true := by
  rw [List.pairwise_iff_getElem]
  intro i j hi hj hij
  have := rise_all ks rise j hj i hij
  show bytesBefore ks[i].data.toList ks[j].data.toList = true
  rw [before_eq]
  simpa [ByteArray.toList_eq] using this
end Go.Proofs.YtjlkoekfcdpnaaaGreatDoor

namespace Go.Proofs.YtjlkoekfcdpnaaaGreatDoor
open Go Go.RowKit Go.Maps Go.Deep
/-- A part of a tree: what it is, the value that holds it, the blocks that it lies in. -/
structure Part where
  j : J
  v : Value
  f : Nat → Prop
def Part.ok (w : World) (x : Part) : Prop := RepJ w x.f x.j x.v
def entT (t : List (ByteArray × Part)) : List (Lit × DataW Value) := t.map fun x => (keyL x.1, DataW.held x.2.v)
def MapE (w : World) (r : Nat) (t : List (ByteArray × Part)) : Prop := ∃ n, n ≤ 140737488351232 ∧ w.ownsMap Tryz.prog 9 heldR r n (.map (entT t))
def jOf (t : List (ByteArray × Part)) : List (ByteArray × J) := t.map fun x => (x.1, x.2.j)
theorem MapE.at {w : World} {r : Nat} {t : List (ByteArray × Part)} : MapE w r t ↔ MapAt w r (jOf t) (fun i => (t[i]?.map (·.2.v)).getD .nilIface) := by
  have e : entT t = entries (jOf t) (fun i => (t[i]?.map (·.2.v)).getD .nilIface) := by
    apply List.ext_getElem
    · simp [entT, entries, jOf]
    · intro i h1 h2
      have hi : i < t.length := by simpa [entT] using h1
      simp [entT, entries, jOf, keyL, hi]
  unfold MapE MapAt
  rw [e]
/-- Footprints of two parts have no block in common. -/
def Off (x y : ByteArray × Part) : Prop := ∀ k, x.2.f k → y.2.f k → False
theorem Off.symm {x y : ByteArray × Part} (h : Off x y) : Off y x := fun k a b => h k b a
def EntOK (w : World) (S : Nat → Prop) (r : Nat) (x : ByteArray × Part) : Prop := x.1.size ≤ 140737488351232 ∧ ¬ x.2.f r ∧ (∀ k, x.2.f k → S k) ∧ RepJ w x.2.f x.2.j x.2.v
theorem obj_open {w : World} {S : Nat → Prop} {m : List (ByteArray × J)} {v : Value} (h : RepJ w S (.obj m) v) :
    ∃ r t, v = .iface 53 (.map (some r)) ∧ S r ∧ m = jOf t ∧ MapE w r t ∧ (∀ x ∈ t, EntOK w S r x) ∧ t.Pairwise Off := by
  cases h with
  | @obj _ _ r E F hr hm hs own sub dis rm =>
    have hlen : (m.mapIdx fun i p => (p.1, (⟨p.2, E i, F i⟩ : Part))).length = m.length := by simp
    have hget : ∀ i (hi : i < m.length), (m.mapIdx fun i p => (p.1, (⟨p.2, E i, F i⟩ : Part)))[i]'(by rw [hlen]; exact hi) = (m[i].1, ⟨m[i].2, E i, F i⟩) := fun i hi => by simp
    have hj : m = jOf (m.mapIdx fun i p => (p.1, (⟨p.2, E i, F i⟩ : Part))) := by
      apply List.ext_getElem
      · simp [jOf]
      · intro i h1 h2
        simp [jOf]
    refine ⟨r, m.mapIdx fun i p => (p.1, ⟨p.2, E i, F i⟩), rfl, hr, hj, ?_, fun x hx => ?_, ?_⟩
    · obtain ⟨n, hn, ho⟩ := hm
      refine ⟨n, hn, ?_⟩
      have e : entT (m.mapIdx fun i p => (p.1, (⟨p.2, E i, F i⟩ : Part))) = entries m E := by
        apply List.ext_getElem
        · simp [entT, entries]
        · intro i h1 h2
          simp [entT, entries, keyL]
      rw [e]
      exact ho
    · obtain ⟨i, hi, rfl⟩ := List.mem_iff_getElem.1 hx
      rw [hlen] at hi
      rw [hget i hi]
      exact ⟨hs _ (List.getElem_mem hi), own i hi, fun k hk => sub i k hi hk, rm i hi⟩
    · rw [List.pairwise_iff_getElem]
      intro i j hi hj hij
      rw [hlen] at hi hj
      rw [hget i hi, hget j hj]
      exact fun k h1 h2 => dis i j k hij hj h1 h2
theorem obj_close {w : World} {S : Nat → Prop} {r : Nat} {t : List (ByteArray × Part)} (hr : S r) (hm : MapE w r t) (hx : ∀ x ∈ t, EntOK w S r x) (hp : t.Pairwise Off) : RepJ w S (.obj (jOf t)) (.iface 53 (.map (some r))) := by
  have hlen : (jOf t).length = t.length := by simp [jOf]
  have hE : ∀ i (hi : i < t.length), ((t[i]?.map (·.2.v)).getD .nilIface) = t[i].2.v := fun i hi => by simp [hi]
  have hF : ∀ i (hi : i < t.length) k, ((t[i]?.map (·.2.f)).getD (fun _ => False)) k = t[i].2.f k := fun i hi k => by simp [hi]
  have hg : ∀ i (hi : i < t.length), (jOf t)[i]'(by rw [hlen]; exact hi) = (t[i].1, t[i].2.j) := fun i hi => by simp [jOf]
  refine .obj (fun i => (t[i]?.map (·.2.v)).getD .nilIface) (fun i => (t[i]?.map (·.2.f)).getD (fun _ => False)) hr (MapE.at.1 hm) (fun p hp => ?_) (fun i hi => ?_) (fun i k hi hk => ?_) (fun i j k hij hj h1 h2 => ?_) (fun i hi => ?_)
  · obtain ⟨i, hi, rfl⟩ := List.mem_iff_getElem.1 hp
    rw [hlen] at hi
    rw [hg i hi]
    exact (hx _ (List.getElem_mem hi)).1
  · rw [hlen] at hi
    rw [hF i hi]
    exact (hx _ (List.getElem_mem hi)).2.1
  · rw [hlen] at hi
    rw [hF i hi] at hk
    exact (hx _ (List.getElem_mem hi)).2.2.1 k hk
  · rw [hlen] at hj
    rw [hF i (by omega)] at h1
    rw [hF j hj] at h2
    exact List.pairwise_iff_getElem.1 hp i j (by omega) hj hij k h1 h2
  · rw [hlen] at hi
    have := (hx _ (List.getElem_mem hi)).2.2.2
    rw [hg i hi, hE i hi]
    have e : (t[i]?.map (·.2.f)).getD (fun _ => False) = t[i].2.f := by simp [hi]
    rw [e]
    exact this
theorem MapE.rises {w : World} {r : Nat} {t : List (ByteArray × Part)} (h : MapE w r t) : RisesK t := by
  obtain ⟨n, _, ho⟩ := h
  obtain ⟨es, e, hp, _⟩ := ho.canon law_str
  injection e with e
  subst e
  unfold entT at hp
  rw [List.pairwise_map] at hp
  exact hp
theorem MapE.carry {w w' : World} {r : Nat} {t : List (ByteArray × Part)} (h : MapE w r t) (hr : w'.heap[r]? = w.heap[r]?) : MapE w' r t := MapE.at.2 ((MapE.at.1 h).carry hr)
theorem MapE.lt {w : World} {r : Nat} {t : List (ByteArray × Part)} (h : MapE w r t) : r < w.heap.size := by
  obtain ⟨n, _, ho⟩ := h
  exact ho.lt
theorem entT_size (t : List (ByteArray × Part)) : Maps.size (.map (entT t)) = t.length := by
  rw [Maps.size_eq]; simp [entT]
theorem MapE.tight {w : World} {r n : Nat} {t : List (ByteArray × Part)} (h : w.ownsMap Tryz.prog 9 heldR r n (.map (entT t))) (hl : t.length ≤ 140737488351232) : MapE w r t := by
  obtain ⟨es, clock, hb, F, hs, eD⟩ := h
  refine ⟨es.size, ?_, es, clock, hb, F, Nat.le_refl _, eD⟩
  have e1 : Maps.size (DataW.map ((es.toList.map (WideElems.rg Tryz.prog 9 heldR)).foldr DataW.insert [])) = es.size := by simp [Maps.size, length_sorted]
  rw [← eD, entT_size] at e1
  omega
theorem entT_put (t : List (ByteArray × Part)) (k : ByteArray) (a : Part) : (DataW.map (entT t)).put (keyL k) (.held a.v) = .map (entT (putK t k a)) := putK_data (fun x : Part => DataW.held x.v) t k a
theorem jOf_put (t : List (ByteArray × Part)) (k : ByteArray) (a : Part) : jOf (putK t k a) = putK (jOf t) k a.j := putK_map (fun x : Part => x.j) t k a
theorem getK_jOf (t : List (ByteArray × Part)) (k : ByteArray) : getK (jOf t) k = (getK t k).map (·.j) := by
  unfold getK jOf
  rw [List.find?_map, Option.map_map, Option.map_map]
  rfl
theorem fold_put : ∀ (t s : List (ByteArray × Part)), RisesK (s ++ t) → (entT t).foldl (fun (D : DataW Value) p => D.put p.1 p.2) (DataW.map (entT s)) = DataW.map (entT (s ++ t))
  | [], s, _ => by simp [entT]
  | x :: t, s, h => by
    have h' : RisesK (s ++ [x] ++ t) := by rw [List.append_assoc]; exact h
    have hlt : ∀ p ∈ entT s, ∃ u, p.1 = .string u ∧ Op.bytesLess u x.1.data.toList = true := by
      intro p hp
      obtain ⟨y, hy, rfl⟩ := List.mem_map.1 hp
      refine ⟨y.1.data.toList, rfl, ?_⟩
      have := (List.pairwise_append.1 h).2.2 y hy x (List.mem_cons_self ..)
      rw [← before_eq]
      exact this
    have e : entT (x :: t) = (keyL x.1, DataW.held x.2.v) :: entT t := rfl
    rw [e, List.foldl_cons]
    show List.foldl _ ((DataW.map (entT s)).put (.string x.1.data.toList) (.held x.2.v)) _ = _
    rw [put_last _ _ _ hlt]
    have e2 : entT s ++ [(Lit.string x.1.data.toList, DataW.held x.2.v)] = entT (s ++ [x]) := by simp [entT, keyL]
    rw [e2, fold_put t (s ++ [x]) h', List.append_assoc]
    rfl
/-- A map's entries laid into a new one. -/
theorem merge_new {t : List (ByteArray × Part)} (h : RisesK t) : Lib.mergeD (.map []) (.map (entT t)) = .map (entT t) := fold_put t [] h
/-- An array's elements, each with its footprint. -/
def ArrAt (w : World) (a : Option Addr) (c : Nat) (S : Nat → Prop) (t : List Part) : Prop :=
  t.length * 16 ≤ 140737488351232 ∧ t.length ≤ c ∧ (c ≤ capMax ∧ a ≠ none) ∧ (0 < t.length → ∃ b o, a = some ⟨b, o, none⟩ ∧ S b ∧ (∀ i (hi : i < t.length), w.cell? ⟨b, o + i, none⟩ = some t[i].v) ∧ ∀ x ∈ t, ¬ x.f b) ∧
  (∀ x ∈ t, (∀ k, x.f k → S k) ∧ RepJ w x.f x.j x.v) ∧ t.Pairwise fun x y => ∀ k, x.f k → y.f k → False
theorem arr_open {w : World} {S : Nat → Prop} {l : List J} {v : Value} (h : RepJ w S (.arr l) v) : ∃ a c t, v = .iface 50 (.slice a t.length c) ∧ l = t.map (·.j) ∧ ArrAt w a c S t := by
  cases h with
  | @arr _ _ a c f b o N F hl hc ca own sub dis ra hcb hnn =>
    have hlen : (l.mapIdx fun i j => (⟨j, f (o + i), F i⟩ : Part)).length = l.length := by simp
    have hget : ∀ i (hi : i < l.length), (l.mapIdx fun i j => (⟨j, f (o + i), F i⟩ : Part))[i]'(by rw [hlen]; exact hi) = ⟨l[i], f (o + i), F i⟩ := fun i hi => by simp
    refine ⟨a, c, l.mapIdx fun i j => ⟨j, f (o + i), F i⟩, by rw [hlen], ?_, by rw [hlen]; exact hl, by rw [hlen]; exact hc, ⟨hcb, hnn⟩, fun h0 => ?_, fun x hx => ?_, ?_⟩
    · apply List.ext_getElem
      · simp
      · intro i h1 h2
        simp
    · rw [hlen] at h0
      obtain ⟨e, hb, hrow, hN⟩ := ca h0
      refine ⟨b, o, e, hb, fun i hi => ?_, fun x hx => ?_⟩
      · rw [hlen] at hi
        rw [hget i hi]
        exact hrow.cell (by omega)
      · obtain ⟨i, hi, rfl⟩ := List.mem_iff_getElem.1 hx
        rw [hlen] at hi
        rw [hget i hi]
        exact own i hi
    · obtain ⟨i, hi, rfl⟩ := List.mem_iff_getElem.1 hx
      rw [hlen] at hi
      rw [hget i hi]
      exact ⟨fun k hk => sub i k hi hk, ra i hi⟩
    · rw [List.pairwise_iff_getElem]
      intro i j hi hj hij
      rw [hlen] at hi hj
      rw [hget i hi, hget j hj]
      exact fun k h1 h2 => dis i j k hij hj h1 h2
theorem arr_close {w : World} {S : Nat → Prop} {t : List Part} {b N c : Nat} {f : Nat → Value} (hl : t.length * 16 ≤ 140737488351232) (hc : t.length ≤ c) (hcb : c ≤ capMax) (hS : S b) (hrow : w.rowIs b 20 N f) (hN : t.length ≤ N) (hv : ∀ i (hi : i < t.length), f i = t[i].v)
    (hx : ∀ x ∈ t, ¬ x.f b ∧ (∀ k, x.f k → S k) ∧ RepJ w x.f x.j x.v) (hp : t.Pairwise fun x y => ∀ k, x.f k → y.f k → False) : RepJ w S (.arr (t.map (·.j))) (.iface 50 (.slice (some ⟨b, 0, none⟩) t.length c)) := by
  have hF : ∀ i (hi : i < t.length), ((t[i]?.map (·.f)).getD (fun _ => False)) = t[i].f := fun i hi => by simp [hi]
  have hlen : (t.map (·.j)).length = t.length := by simp
  have := @RepJ.arr w S (t.map (·.j)) (some ⟨b, 0, none⟩) c f b 0 N (fun i => (t[i]?.map (·.f)).getD (fun _ => False)) (by rw [hlen]; exact hl) (by rw [hlen]; exact hc) (fun _ => ⟨rfl, hS, hrow, by rw [hlen]; omega⟩)
    (fun i hi => by rw [hlen] at hi; rw [hF i hi]; exact (hx _ (List.getElem_mem hi)).1) (fun i k hi hk => by rw [hlen] at hi; rw [hF i hi] at hk; exact (hx _ (List.getElem_mem hi)).2.1 k hk)
    (fun i j k hij hj h1 h2 => by rw [hlen] at hj; rw [hF i (by omega)] at h1; rw [hF j hj] at h2; exact List.pairwise_iff_getElem.1 hp i j (by omega) hj hij k h1 h2)
    (fun i hi => by rw [hlen] at hi; simp only [hF i hi, List.getElem_map, Nat.zero_add]; rw [hv i hi]; exact (hx _ (List.getElem_mem hi)).2.2) hcb (by simp)
  rwa [hlen] at this
end Go.Proofs.YtjlkoekfcdpnaaaGreatDoor

namespace Go.Proofs.YtjlkoekfcdpnaaaGreatDoor
open Go Go.RowKit
theorem run_assert {P : Program} {T xT : TypeId} {d : TypeDesc} {z : Value} (hd : P.underlying T = some d) (hni : ∀ ms, d ≠ .interface ms) (hz : ∀ w : World, (zeroValue T).run P w = .ok z w) (t : TypeId) (v : Value) (w : World) :
    (Instr.typeAssert (.iface t v) xT T true).run P w = .ok (if t = T then .tuple #[v, .bool true] else .tuple #[z, .bool false]) w := by
  unfold Instr.typeAssert
  by_cases h : t = T
  · subst h
    cases d <;> first | (exact absurd rfl (hni _)) | simp [run_underlying hd, Result.andThen]
  · cases d <;> first | (exact absurd rfl (hni _)) | simp [run_underlying hd, Result.andThen, h, hz]
theorem run_assert_nil {P : Program} {T xT : TypeId} {d : TypeDesc} {z : Value} (hd : P.underlying T = some d) (hni : ∀ ms, d ≠ .interface ms) (hz : ∀ w : World, (zeroValue T).run P w = .ok z w) (w : World) :
    (Instr.typeAssert .nilIface xT T true).run P w = .ok (.tuple #[z, .bool false]) w := by
  unfold Instr.typeAssert
  cases d <;> first | (exact absurd rfl (hni _)) | simp [run_underlying hd, Result.andThen, hz]
theorem part_some (p : String → Bool) (l : List String) (hne : l ≠ []) : (l.partition p).1 ≠ [] ∨ (l.partition p).2 ≠ [] := by
  cases l with
  | nil => exact absurd rfl hne
  | cons a r =>
    rw [List.partition_eq_filter_filter]
    by_cases hc : p a = true
    · refine .inl fun (e : List.filter p (a :: r) = []) => ?_
      have := List.mem_filter.2 ⟨List.mem_cons_self (a := a) (l := r), hc⟩
      rw [e] at this
      cases this
    · refine .inr fun (e : List.filter (Bool.not ∘ p) (a :: r) = []) => ?_
      have := List.mem_filter.2 ⟨List.mem_cons_self (a := a) (l := r), (by simpa using hc : (Bool.not ∘ p) a = true)⟩
      rw [e] at this
      cases this
open Go.Instr in
theorem missing_some (want : Array (String × TypeId)) (h : want.toList ≠ []) : ∃ m, missingMethod want #[] = some m := by
  unfold missingMethod
  have e : (want.toList.filter fun x => match x with | (name, sig) => !(#[] : Array Method).any fun m => m.name == name && m.sig == sig) = want.toList := by
    rw [List.filter_eq_self]
    intro p _
    simp
  simp only [e]
  generalize hl : want.toList.map (·.1) = l
  have hne : l ≠ [] := by rw [← hl]; simpa using h
  generalize hp : l.partition _ = q
  have hq : q.1 ≠ [] ∨ q.2 ≠ [] := by rw [← hp]; exact part_some _ l hne
  obtain ⟨u, x⟩ := q
  cases x with
  | cons a r => exact ⟨_, rfl⟩
  | nil =>
    cases u with
    | nil => exact absurd rfl (hq.resolve_right (fun n => n rfl))
    | cons a r => exact ⟨_, rfl⟩
theorem run_assert_iface {P : Program} {T xT t : TypeId} {want : Array (String × TypeId)} (hd : P.underlying T = some (.interface want)) (hw : want.toList ≠ []) (hz : ∀ w : World, (zeroValue T).run P w = .ok .nilIface w) (hi : (P.info? t).map (·.methods) = some #[]) (v : Value) (w : World) :
    (Instr.typeAssert (.iface t v) xT T true).run P w = .ok (.tuple #[.nilIface, .bool false]) w := by
  obtain ⟨i, hi, hm⟩ := Option.map_eq_some_iff.1 hi
  obtain ⟨m, hmm⟩ := missing_some want hw
  unfold Instr.typeAssert
  simp [run_underlying hd, run_typeInfo _ hi, Result.andThen, hm, hmm, hz]
theorem assert_jsonNumber (t : TypeId) (v : Value) (w : World) : (Instr.typeAssert (.iface t v) 20 102 true).run Tryz.prog w = .ok (if t = 102 then .tuple #[v, .bool true] else .tuple #[.string ByteArray.empty, .bool false]) w :=
  run_assert Tryz.underlying102 (fun _ h => by cases h) (fun _ => by kernel_rfl) t v w
theorem assert_jsonNumber_nil (w : World) : (Instr.typeAssert .nilIface 20 102 true).run Tryz.prog w = .ok (.tuple #[.string ByteArray.empty, .bool false]) w :=
  run_assert_nil Tryz.underlying102 (fun _ h => by cases h) (fun _ => by kernel_rfl) w
theorem assert_int (t : TypeId) (v : Value) (w : World) : (Instr.typeAssert (.iface t v) 20 3 true).run Tryz.prog w = .ok (if t = 3 then .tuple #[v, .bool true] else .tuple #[.int .i64 0, .bool false]) w :=
  run_assert Tryz.underlying3 (fun _ h => by cases h) (fun _ => by kernel_rfl) t v w
theorem assert_int_nil (w : World) : (Instr.typeAssert .nilIface 20 3 true).run Tryz.prog w = .ok (.tuple #[.int .i64 0, .bool false]) w :=
  run_assert_nil Tryz.underlying3 (fun _ h => by cases h) (fun _ => by kernel_rfl) w
theorem assert_float64 (t : TypeId) (v : Value) (w : World) : (Instr.typeAssert (.iface t v) 20 49 true).run Tryz.prog w = .ok (if t = 49 then .tuple #[v, .bool true] else .tuple #[.float .f64 0, .bool false]) w :=
  run_assert Tryz.underlying49 (fun _ h => by cases h) (fun _ => by kernel_rfl) t v w
theorem assert_float64_nil (w : World) : (Instr.typeAssert .nilIface 20 49 true).run Tryz.prog w = .ok (.tuple #[.float .f64 0, .bool false]) w :=
  run_assert_nil Tryz.underlying49 (fun _ h => by cases h) (fun _ => by kernel_rfl) w
theorem assert_pbigInt (t : TypeId) (v : Value) (w : World) : (Instr.typeAssert (.iface t v) 20 101 true).run Tryz.prog w = .ok (if t = 101 then .tuple #[v, .bool true] else .tuple #[.pointer none, .bool false]) w :=
  run_assert Tryz.underlying101 (fun _ h => by cases h) (fun _ => by kernel_rfl) t v w
theorem assert_pbigInt_nil (w : World) : (Instr.typeAssert .nilIface 20 101 true).run Tryz.prog w = .ok (.tuple #[.pointer none, .bool false]) w :=
  run_assert_nil Tryz.underlying101 (fun _ h => by cases h) (fun _ => by kernel_rfl) w
theorem assert_string (t : TypeId) (v : Value) (w : World) : (Instr.typeAssert (.iface t v) 20 9 true).run Tryz.prog w = .ok (if t = 9 then .tuple #[v, .bool true] else .tuple #[.string ByteArray.empty, .bool false]) w :=
  run_assert Tryz.underlying9 (fun _ h => by cases h) (fun _ => by kernel_rfl) t v w
theorem assert_string_nil (w : World) : (Instr.typeAssert .nilIface 20 9 true).run Tryz.prog w = .ok (.tuple #[.string ByteArray.empty, .bool false]) w :=
  run_assert_nil Tryz.underlying9 (fun _ h => by cases h) (fun _ => by kernel_rfl) w
theorem assert_sl (t : TypeId) (v : Value) (w : World) : (Instr.typeAssert (.iface t v) 20 50 true).run Tryz.prog w = .ok (if t = 50 then .tuple #[v, .bool true] else .tuple #[.slice none 0 0, .bool false]) w :=
  run_assert Tryz.underlying50 (fun _ h => by cases h) (fun _ => by kernel_rfl) t v w
theorem assert_sl_nil (w : World) : (Instr.typeAssert .nilIface 20 50 true).run Tryz.prog w = .ok (.tuple #[.slice none 0 0, .bool false]) w :=
  run_assert_nil Tryz.underlying50 (fun _ h => by cases h) (fun _ => by kernel_rfl) w
theorem assert_m (t : TypeId) (v : Value) (w : World) : (Instr.typeAssert (.iface t v) 20 53 true).run Tryz.prog w = .ok (if t = 53 then .tuple #[v, .bool true] else .tuple #[.map none, .bool false]) w :=
  run_assert Tryz.underlying53 (fun _ h => by cases h) (fun _ => by kernel_rfl) t v w
theorem assert_m_nil (w : World) : (Instr.typeAssert .nilIface 20 53 true).run Tryz.prog w = .ok (.tuple #[.map none, .bool false]) w :=
  run_assert_nil Tryz.underlying53 (fun _ h => by cases h) (fun _ => by kernel_rfl) w
theorem assert_bool (t : TypeId) (v : Value) (w : World) : (Instr.typeAssert (.iface t v) 20 4 true).run Tryz.prog w = .ok (if t = 4 then .tuple #[v, .bool true] else .tuple #[.bool false, .bool false]) w :=
  run_assert Tryz.underlying4 (fun _ h => by cases h) (fun _ => by kernel_rfl) t v w
theorem assert_bool_nil (w : World) : (Instr.typeAssert .nilIface 20 4 true).run Tryz.prog w = .ok (.tuple #[.bool false, .bool false]) w :=
  run_assert_nil Tryz.underlying4 (fun _ h => by cases h) (fun _ => by kernel_rfl) w
end Go.Proofs.YtjlkoekfcdpnaaaGreatDoor

namespace Go.Proofs.YtjlkoekfcdpnaaaGreatDoor
open Go Go.RowKit
theorem conv_any (w : World) (b : Nat) : ∃ n : Int, ∃ w', (convert 49 3 (.float .f64 b)).run Tryz.prog w = .ok (.int .i64 n) w' ∧ -9223372036854775808 ≤ n ∧ n ≤ 9223372036854775807 ∧ Below w.heap.size w w' := by
  cases h : floatToIntVal .f64 b .i64 with
  | some n =>
    refine ⟨n, w, run_convert_float_int w _ _ _ _ _ _ (by rw [Tryz.underlying49]; rfl) Tryz.underlying3 h, ?_, ?_, Below.refl _ _⟩
    all_goals
      have := floatToIntVal_wf h
      simp [Lit.wf, IntKind.min, IntKind.max, IntKind.signed, IntKind.bits] at this
      omega
  | none =>
    have hw : ∀ x : Nat, -9223372036854775808 ≤ IntKind.i64.wrap (x : Int) ∧ IntKind.i64.wrap (x : Int) ≤ 9223372036854775807 := by
      intro x
      rw [IntKind.wrap_i64]
      omega
    unfold floatToIntVal at h
    cases he : (FloatKind.f64.decode b).toInt .zero with
    | none =>
      refine ⟨IntKind.i64.wrap (((Question.floatToInt .f64 b .i64).cut (w.tape w.drawn (.floatToInt .f64 b .i64)) : Nat) : Nat), w.drew, ?_, (hw _).1, (hw _).2, (Below.refl _ _).drew⟩
      simp [convert, run_underlying Tryz.underlying49, run_underlying Tryz.underlying3, Conv.floatToInt, he, Question.forced]
    | some n =>
      rw [he] at h
      simp only at h
      split at h
      · cases h
      · rename_i hc
        refine ⟨IntKind.i64.wrap (((Question.floatToInt .f64 b .i64).cut (w.tape w.drawn (.floatToInt .f64 b .i64)) : Nat) : Nat), w.drew, ?_, (hw _).1, (hw _).2, (Below.refl _ _).drew⟩
        simp [convert, run_underlying Tryz.underlying49, run_underlying Tryz.underlying3, Conv.floatToInt, he]
        rw [if_neg (show ¬ (IntKind.i64.min ≤ n ∧ n ≤ 9223372036854775807) from hc)]
        simp [Question.forced]
end Go.Proofs.YtjlkoekfcdpnaaaGreatDoor

namespace Go.Proofs.YtjlkoekfcdpnaaaGreatDoor
open Go Go.RowKit
def SomeInt (w : World) (e : Ending) (w' : World) : Prop := ∃ n : Int, e = .returned (.int .i64 n) ∧ -9223372036854775808 ≤ n ∧ n ≤ 9223372036854775807 ∧ Below w.heap.size w w'
set_option maxRecDepth 100000 in
theorem floatToInt_any (b : Nat) (w : World) : Calls Tryz.prog 64 #[.float .f64 b] w (SomeInt w) := by
  obtain ⟨n, w', hc, hn1, hn2, hb⟩ := conv_any w b
  go_enter Tryz.func64, Tryz.ntmps64
  go_wp2_with fail
  all_goals go_ret
  all_goals exact ⟨_, rfl, by omega, by omega, by first | exact hb | exact Below.refl _ _⟩
end Go.Proofs.YtjlkoekfcdpnaaaGreatDoor

namespace Go.Proofs.YtjlkoekfcdpnaaaGreatDoor
open Go Go.RowKit
/-- A value that is one of the package's errors. -/
inductive ErrV : Value → Prop
  | func1TypeError (a : Addr) : ErrV (.iface 73 (.pointer (some a)))
  | func1WrapError (a : Addr) : ErrV (.iface 76 (.pointer (some a)))
  | func0TypeError (a : Addr) : ErrV (.iface 196 (.pointer (some a)))
  | func2WrapError (a : Addr) : ErrV (.iface 92 (.pointer (some a)))
  | expectedObjectError (a : Addr) : ErrV (.iface 99 (.pointer (some a)))
  | expectedArrayError (a : Addr) : ErrV (.iface 86 (.pointer (some a)))
  | arrayIndexNotNumberError (a : Addr) : ErrV (.iface 111 (.pointer (some a)))
  | objectKeyNotStringError (a : Addr) : ErrV (.iface 115 (.pointer (some a)))
  | expectedStartEndError (a : Addr) : ErrV (.iface 108 (.pointer (some a)))
  | stringIndexNotNumberError (a : Addr) : ErrV (.iface 113 (.pointer (some a)))
  | arrayIndexNegativeError (a : Addr) : ErrV (.iface 147 (.pointer (some a)))
  | arrayIndexTooLargeError (a : Addr) : ErrV (.iface 150 (.pointer (some a)))
theorem ErrV.form {v : Value} (h : ErrV v) : ∃ t a, v = .iface t (.pointer (some a)) := by
  cases h <;> exact ⟨_, _, rfl⟩
/-- An error, in new memory alone. -/
def RetErr (w : World) : Ending → World → Prop := Ret fun v w' => ErrV v ∧ Below w.heap.size w w'
end Go.Proofs.YtjlkoekfcdpnaaaGreatDoor

namespace Go.Proofs.YtjlkoekfcdpnaaaGreatDoor
open Go Go.RowKit Go.Maps Go.Deep
attribute [local go_sem] assert_jsonNumber assert_jsonNumber_nil assert_int assert_int_nil assert_float64 assert_float64_nil assert_pbigInt assert_pbigInt_nil assert_string assert_string_nil assert_sl assert_sl_nil assert_m assert_m_nil assert_bool assert_bool_nil
def clampI (i lo hi : Int) : Int := let j := if i < 0 then i + hi else i; if j < lo then lo else if j < hi then j else hi
theorem clamp_any (i lo hi : Int) (h1 : -9223372036854775808 ≤ i ∧ i ≤ 9223372036854775807) (h2 : 0 ≤ hi ∧ hi ≤ 140737488355328) (w : World) :
    Calls Tryz.prog 69 #[.int .i64 i, .int .i64 lo, .int .i64 hi] w fun e w' => e = .returned (.int .i64 (clampI i lo hi)) ∧ w' = w := by
  by_cases c : i < 0
  · have hw : wrap64 (i + hi) = i + hi := by unfold wrap64; omega
    have e : clampI i lo hi = if i + hi < lo then lo else if i + hi < hi then i + hi else hi := by unfold clampI; simp only; rw [if_pos c]
    rw [e]
    clear e
    by_cases c1 : i + hi < lo
    · rw [if_pos c1]
      go_enter Tryz.func69, Tryz.ntmps69
      go_wp2_with fail
      go_ret
      exact ⟨rfl, rfl⟩
    · rw [if_neg c1]
      by_cases c2 : i + hi < hi
      · rw [if_pos c2]
        go_enter Tryz.func69, Tryz.ntmps69
        go_wp2_with fail
        go_ret
        exact ⟨rfl, rfl⟩
      · rw [if_neg c2]
        go_enter Tryz.func69, Tryz.ntmps69
        go_wp2_with fail
        go_ret
        exact ⟨rfl, rfl⟩
  · have e : clampI i lo hi = if i < lo then lo else if i < hi then i else hi := by unfold clampI; simp only; rw [if_neg c]
    rw [e]
    clear e
    by_cases c1 : i < lo
    · rw [if_pos c1]
      go_enter Tryz.func69, Tryz.ntmps69
      go_wp2_with fail
      go_ret
      exact ⟨rfl, rfl⟩
    · rw [if_neg c1]
      by_cases c2 : i < hi
      · rw [if_pos c2]
        go_enter Tryz.func69, Tryz.ntmps69
        go_wp2_with fail
        go_ret
        exact ⟨rfl, rfl⟩
      · rw [if_neg c2]
        go_enter Tryz.func69, Tryz.ntmps69
        go_wp2_with fail
        go_ret
        exact ⟨rfl, rfl⟩
def IntB (w : World) (b : Bool) (n : Int) (e : Ending) (w' : World) : Prop := e = .returned (.tuple #[.int .i64 n, .bool b]) ∧ Below w.heap.size w w'
def SomeIntB (w : World) (e : Ending) (w' : World) : Prop := ∃ n : Int, e = .returned (.tuple #[.int .i64 n, .bool true]) ∧ -9223372036854775808 ≤ n ∧ n ≤ 9223372036854775807 ∧ Below w.heap.size w w'
theorem toInt_int (n : Int) (w : World) : Calls Tryz.prog 50 #[.iface 3 (.int .i64 n)] w (IntB w true n) := by
  go_enter Tryz.func50, Tryz.ntmps50
  go_wp2_with fail
  go_ret2
  exact ⟨rfl, Below.refl _ _⟩
theorem toInt_flt (x : Nat) (w : World) : Calls Tryz.prog 50 #[.iface 49 (.float .f64 x)] w (SomeIntB w) := by
  go_enter Tryz.func50, Tryz.ntmps50
  go_wp2_with fail
  refine (floatToInt_any x _).mono ?_
  rintro e w3 ⟨n, rfl, hn1, hn2, hb3⟩
  go_wp2_with fail
  go_ret2
  exact ⟨n, rfl, hn1, hn2, hb3⟩
/-- Neither a number nor json.Number. -/
def NoNum (x : Value) : Prop := ∃ t y, x = .iface t y ∧ t ≠ 102 ∧ t ≠ 3 ∧ t ≠ 49 ∧ t ≠ 101
theorem toInt_no {x : Value} (hx : NoNum x) (w : World) : Calls Tryz.prog 50 #[x] w (IntB w false 0) := by
  obtain ⟨t, y, rfl, n0, n1, n2, n3⟩ := hx
  go_enter Tryz.func50, Tryz.ntmps50
  go_wp2_with fail
  go_ret2
  exact ⟨rfl, Below.refl _ _⟩
theorem toIntCeil_int (n : Int) (w : World) : Calls Tryz.prog 84 #[.iface 3 (.int .i64 n)] w (IntB w true n) := by
  have H := Lib.hid fun w => toInt_int n w
  go_enter Tryz.func84, Tryz.ntmps84
  go_wp2_with fail
  refine (H.out _).mono ?_
  rintro e w3 ⟨rfl, hb⟩
  go_wp2_with fail
  go_ret2
  exact ⟨rfl, hb⟩
theorem toIntCeil_no {x : Value} (hx : NoNum x) (w : World) : Calls Tryz.prog 84 #[x] w (IntB w false 0) := by
  have H := Lib.hid fun w => toInt_no hx w
  obtain ⟨t, y, rfl, n0, n1, n2, n3⟩ := hx
  go_enter Tryz.func84, Tryz.ntmps84
  go_wp2_with fail
  refine (H.out _).mono ?_
  rintro e w3 ⟨rfl, hb⟩
  go_wp2_with fail
  go_ret2
  exact ⟨rfl, hb⟩
/-- Where an index falls. -/
def nthI (i : Int) (n : Nat) : Option Nat := let m := if i < 0 then i + n else i; if 0 ≤ m ∧ m < n then some m.toNat else none
theorem nthI_some {i : Int} {n k : Nat} (h : nthI i n = some k) : (k : Int) = (if i < 0 then i + n else i) ∧ k < n := by
  unfold nthI at h
  simp only at h
  generalize (if i < 0 then i + (n : Int) else i) = m at *
  by_cases c : 0 ≤ m ∧ m < (n : Int)
  · rw [if_pos c] at h
    cases h
    omega
  · rw [if_neg c] at h
    cases h
theorem nthI_none {i : Int} {n : Nat} (h : nthI i n = none) : (if i < 0 then i + (n : Int) else i) < 0 ∨ (n : Int) ≤ (if i < 0 then i + (n : Int) else i) := by
  unfold nthI at h
  simp only at h
  generalize (if i < 0 then i + (n : Int) else i) = m at *
  by_cases c : 0 ≤ m ∧ m < (n : Int)
  · rw [if_pos c] at h
    cases h
  · omega
/-- What stands at an index. -/
def atO (f : Nat → Value) : Option Nat → Value
  | some k => f k
  | none => .nilIface
theorem gindex_any (w : World) (a : Option Addr) (n c : Nat) (f : Nat → Value) (hn : n ≤ 140737488355328) (cf : 0 < n → ∃ b o, a = some ⟨b, o, none⟩ ∧ ∀ i, i < n → w.cell? ⟨b, o + i, none⟩ = some (f i)) (of1 : ∀ i, i < n → f i = .nilIface ∨ ∃ t y, f i = .iface t y)
    (i : Int) (h1 : -9223372036854775808 ≤ i ∧ i ≤ 9223372036854775807) :
    Calls Tryz.prog 51 #[.slice a n c, .int .i64 i] w fun e w' => e = .returned (atO f (nthI i n)) ∧ w' = w := by
  have K := Lib.hid (clamp_any i (-1) n h1 (by omega))
  cases hk : nthI i n with
  | some k =>
    have hc : clampI i (-1) n = (k : Int) ∧ k < n := by
      obtain ⟨e, hk'⟩ := nthI_some hk
      unfold clampI
      simp only
      rw [← e, if_neg (by omega), if_pos (by omega)]
      exact ⟨rfl, hk'⟩
    obtain ⟨b, o, rfl, hcell⟩ := cf (by omega)
    have y1 := hcell k hc.2
    have u1 : (k : Int) < (n : Int) := by omega
    have u2 : (0 : Int) ≤ (k : Int) := by omega
    rw [hc.1] at K
    show Calls _ _ _ _ fun e w' => e = .returned (f k) ∧ w' = w
    clear hcell cf hc hk h1
    rcases of1 k (by omega) with e | ⟨t, y, e⟩
    all_goals
      rw [e] at y1 ⊢
      clear e of1
      go_enter Tryz.func51, Tryz.ntmps51
      go_wp2_with fail
      refine (K.out _).mono ?_
      rintro e w3 ⟨rfl, rfl⟩
      go_wp2_with fail
      go_ret
      exact ⟨rfl, rfl⟩
  | none =>
    have hc : ∃ m : Int, clampI i (-1) n = m ∧ (m = -1 ∨ m = n) := by
      have e := nthI_none hk
      unfold clampI
      simp only
      generalize (if i < 0 then i + (n : Int) else i) = m at *
      by_cases c1 : m < -1
      · exact ⟨-1, if_pos c1, .inl rfl⟩
      · rw [if_neg c1]
        by_cases c2 : m < (n : Int)
        · rw [if_pos c2]
          exact ⟨m, rfl, by omega⟩
        · rw [if_neg c2]
          exact ⟨n, rfl, .inr rfl⟩
    obtain ⟨m, e, hm⟩ := hc
    rw [e] at K
    show Calls _ _ _ _ fun e w' => e = .returned .nilIface ∧ w' = w
    clear e hk h1 cf of1
    rcases hm with rfl | rfl
    all_goals
      go_enter Tryz.func51, Tryz.ntmps51
      go_wp2_with fail
      refine (K.out _).mono ?_
      rintro e w3 ⟨rfl, rfl⟩
      go_wp2_with fail
      go_ret
      exact ⟨rfl, rfl⟩
/-- A part of a row is a row. -/
theorem RepJ.part {w : World} {S : Nat → Prop} {l : List J} {a : Option Addr} {n c : Nat} (h : RepJ w S (.arr l) (.iface 50 (.slice a n c))) (i j : Nat) (hij : i ≤ j) (hj : j ≤ l.length) (a' : Option Addr) (c' : Nat) (hc' : j - i ≤ c') (hcc : c' ≤ c)
    (ha : ∀ b o, a = some ⟨b, o, none⟩ → a' = some ⟨b, o + i, none⟩) (hnn : a' ≠ none) : RepJ w S (.arr ((l.drop i).take (j - i))) (.iface 50 (.slice a' (j - i) c')) := by
  cases h with
  | arr f b o N F hl hc ca own sub dis ra hcb =>
    have hlen : ((l.drop i).take (j - i)).length = j - i := by simp; omega
    have hq : ∀ q (hq : q < ((l.drop i).take (j - i)).length), ((l.drop i).take (j - i))[q] = l[i + q]'(by omega) := fun q hq => by simp
    have := RepJ.arr (w := w) (S := S) (l := (l.drop i).take (j - i)) (a := a') (c := c') f b (o + i) N (fun q => F (i + q)) (by omega) (by omega)
      (fun h0 => by
        obtain ⟨e1, e2, e3, e4⟩ := ca (by omega)
        exact ⟨ha b o e1, e2, e3, by omega⟩)
      (fun q hq => own (i + q) (by omega)) (fun q k hq hk => sub (i + q) k (by omega) hk) (fun q r k hqr hr => dis (i + q) (i + r) k (by omega) (by omega))
      (fun q hq' => by
        rw [hq q hq']
        have := ra (i + q) (by omega)
        rw [← Nat.add_assoc] at this
        exact this) (Nat.le_trans hcc hcb) hnn
    rw [hlen] at this
    exact this
end Go.Proofs.YtjlkoekfcdpnaaaGreatDoor
