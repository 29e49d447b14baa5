/- Memory turned in place: a tree's own blocks may turn, all others stand; a map's entries, emptied one by one (gojq.deleteEmpty). -/
/- An array's elements, emptied one by one in place (gojq.deleteEmpty). -/
/- Small facts on worlds: blocks of twelve cells. No program in sight. -/
/- Contract of gojq.update. -/
import Derived.Test.YtjlkoekfcdpnaaaGreatDoorM05
import Derived.Test.YtjlkoekfcdpnaaaGreatDoorM06
import Derived.Test.YtjlkoekfcdpnaaaGreatDoorM01
namespace Go.Proofs.YtjlkoekfcdpnaaaGreatDoor
open Go Go.RowKit Go.Maps Go.Deep Go.WideMaps
/-- Blocks outside S stand as they stood. -/
structure Turns (S : Nat → Prop) (w w' : World) : Prop where
  os : w'.os = w.os
  tape : w'.tape = w.tape
  output : w'.output = w.output
  size : w.heap.size ≤ w'.heap.size
  block : ∀ k, k < w.heap.size → ¬ S k → w'.heap[k]? = w.heap[k]?
theorem Turns.refl (S : Nat → Prop) (w : World) : Turns S w w := ⟨rfl, rfl, rfl, Nat.le_refl _, fun _ _ _ => rfl⟩
theorem Turns.trans {S S' : Nat → Prop} {a b c : World} (h : Turns S a b) (k : Turns S' b c) (hS : ∀ q, q < a.heap.size → S' q → S q) : Turns S a c :=
  ⟨k.os.trans h.os, k.tape.trans h.tape, k.output.trans h.output, Nat.le_trans h.size k.size, fun q hq hn => (k.block q (Nat.lt_of_lt_of_le hq h.size) (fun e => hn (hS q hq e))).trans (h.block q hq hn)⟩
theorem Turns.of_grown {w w' : World} {row : Option Nat} (h : w.grownBy w' row) : Turns (fun q => row = some q) w w' :=
  ⟨h.os, h.tape, h.output, h.size, fun q hq hn => h.block q hq (fun e => hn e.symm)⟩
theorem Turns.of_below {w w' : World} (h : Below w.heap.size w w') : Turns (fun _ => False) w w' := ⟨h.os, h.tape, h.output, h.size, fun q hq _ => h.block q hq⟩
theorem Turns.below {S : Nat → Prop} {w w' : World} {B : Nat} (h : Turns S w w') (hB : B ≤ w.heap.size) (hS : ∀ q, S q → B ≤ q) : Below B w w' :=
  ⟨h.os, h.tape, h.output, h.size, fun q hq => h.block q (by omega) (fun e => by have := hS q e; omega)⟩
theorem Turns.set {S : Nat → Prop} {w w' : World} (h : Turns S w w') {a : Addr} (ha : S a.block) (u : Value) : Turns S w (w'.setCell a u) :=
  ⟨h.os, h.tape, h.output, by simpa using h.size, fun q hq hn => by
    rw [← h.block q hq hn]
    exact RowKit.Below.heap_setCell _ _ _ _ (fun e => hn (e ▸ ha))⟩
theorem RepJ.turned {S S' : Nat → Prop} {w w' : World} {j : J} {v : Value} (h : RepJ w S j v) (ht : Turns S' w w') (hS : ∀ q, S q → q < w.heap.size) (hd : ∀ q, S q → S' q → False) : RepJ w' S j v :=
  h.carry fun q hq => ht.block q (hS q hq) (fun e => hd q hq e)
theorem ranges_carry {H : Type} {P : Program} {k : TypeId} {R : Value → Option (DataW H × List MemPlace)} {w w' : World} {b r n : Nat} {D : DataW H} {left : Lit → Bool} {cnt : Nat} (h : w.ranges P k R b r n D left cnt) (hb : w'.heap[b]? = w.heap[b]?) (hr : w'.heap[r]? = w.heap[r]?) : w'.ranges P k R b r n D left cnt := by
  obtain ⟨es, clock, since, seen, c0, h1, F, hs, hD, h2, rest⟩ := h
  exact ⟨es, clock, since, seen, c0, hb.trans h1, F, hs, hD, hr.trans h2, rest⟩
/-- Two rising lists with the same members are one. -/
theorem rises_ext {α : Type} : ∀ {l l' : List (ByteArray × α)}, RisesK l → RisesK l' → (∀ x, x ∈ l ↔ x ∈ l') → l = l'
  | [], [], _, _, _ => rfl
  | [], b :: s, _, _, h => by have := (h b).2 (by simp); simp at this
  | a :: r, [], _, _, h => by have := (h a).1 (by simp); simp at this
  | a :: r, b :: s, h1, h2, h => by
    obtain ⟨a1, a2⟩ := List.pairwise_cons.1 h1
    obtain ⟨b1, b2⟩ := List.pairwise_cons.1 h2
    have e : a = b := by
      rcases List.mem_cons.1 ((h a).1 (by simp)) with e | ha
      · exact e
      · rcases List.mem_cons.1 ((h b).2 (by simp)) with e | hb
        · exact e.symm
        · have := before_asymm (a1 b hb)
          rw [b1 a ha] at this
          cases this
    subst e
    rw [rises_ext a2 b2 fun x => ⟨fun hx => ?_, fun hx => ?_⟩]
    · rcases List.mem_cons.1 ((h x).1 (by simp [hx])) with e | hx'
      · have := a1 x hx
        rw [e, Go.WideShapes.before_irrefl] at this
        cases this
      · exact hx'
    · rcases List.mem_cons.1 ((h x).2 (by simp [hx])) with e | hx'
      · have := b1 x hx
        rw [e, Go.WideShapes.before_irrefl] at this
        cases this
      · exact hx'
theorem entT_del (t : List (ByteArray × Part)) (k : ByteArray) : (DataW.map (entT t)).del (keyL k) = .map (entT (t.filter fun x => !(keyL x.1).sameKey (keyL k))) := by
  show DataW.map (List.filter (fun p => !p.1.sameKey (keyL k)) (entT t)) = _
  unfold entT
  rw [List.filter_map]
  rfl
theorem entT_at {t : List (ByteArray × Part)} {kl : Lit} {v : Value} (h : ∀ z, (DataW.map (entT t)).atKey kl z = .held v) : ∃ x ∈ t, keyL x.1 = kl ∧ x.2.v = v := by
  have h0 := h .nil
  simp only [DataW.atKey] at h0
  cases hf : (entT t).find? (fun p => p.1.sameKey kl) with
  | none => rw [hf] at h0; cases h0
  | some p =>
    rw [hf] at h0
    have h1 := List.mem_of_find?_eq_some hf
    have h2 := List.find?_some hf
    obtain ⟨x, hx, rfl⟩ := List.mem_map.1 h1
    refine ⟨x, hx, WideAt.sameKey_eq h2, ?_⟩
    simpa using h0
theorem entT_has {t : List (ByteArray × Part)} {x : ByteArray × Part} (h : x ∈ t) : Maps.has (DataW.map (entT t)) (keyL x.1) = true := by
  unfold Maps.has
  rw [List.any_eq_true]
  exact ⟨_, List.mem_map.2 ⟨x, h, rfl⟩, (keyL_same _ _).2 rfl⟩
theorem keyL_inj {a b : ByteArray} (h : keyL a = keyL b) : a = b := (keyL_same a b).1 (by rw [h]; exact (keyL_same b b).2 rfl)
/-- What is to come of the entries t0: a hole goes, of a tree with holes there is left what T tells. -/
def Dest (t0 : List (ByteArray × Part)) (T : List (ByteArray × V)) : Prop :=
  (∀ x ∈ t0, (x.2.j = .hole ∧ ∀ y ∈ T, y.1 ≠ x.1) ∨ ∃ v r, Hol v x.2.j r ∧ (x.1, r) ∈ T) ∧ (∀ y ∈ T, ∃ x ∈ t0, x.1 = y.1) ∧ RisesK T
/-- Under way: those that are still to come stand as they stood. -/
structure DelSt (w : World) (t0 : List (ByteArray × Part)) (T : List (ByteArray × V)) (t : List (ByteArray × Part)) (left : Lit → Bool) : Prop where
  parts : ∀ x ∈ t, ∃ x0 ∈ t0, x0.1 = x.1 ∧ x0.2.f = x.2.f ∧ ((left (keyL x.1) = true ∧ x = x0) ∨ (left (keyL x.1) = false ∧ ∃ r, (x.1, r) ∈ T ∧ x.2.j = toJ r))
  reps : ∀ x ∈ t, RepJ w x.2.f x.2.j x.2.v
  there : ∀ x ∈ t0, left (keyL x.1) = true → x ∈ t
  done : ∀ y ∈ T, left (keyL y.1) = false → ∃ x ∈ t, x.1 = y.1
theorem DelSt.start {w : World} {t0 : List (ByteArray × Part)} {T : List (ByteArray × V)} (hd : Dest t0 T) (hr : ∀ x ∈ t0, RepJ w x.2.f x.2.j x.2.v) : DelSt w t0 T t0 (Maps.has (DataW.map (entT t0))) :=
  ⟨fun x hx => ⟨x, hx, rfl, rfl, .inl ⟨entT_has hx, rfl⟩⟩, hr, fun x hx _ => hx, fun y hy hl => by
    obtain ⟨x, hx, e⟩ := hd.2.1 y hy
    rw [← e, entT_has hx] at hl
    cases hl⟩
theorem DelSt.finish {w : World} {t0 t : List (ByteArray × Part)} {T : List (ByteArray × V)} {left : Lit → Bool} (h : DelSt w t0 T t left) (hl : ∀ k, left k = false) (hd : Dest t0 T) (ht : RisesK t) : jOf t = T.map fun y => (y.1, toJ y.2) := by
  have u : ∀ y ∈ T, ∀ y' ∈ T, y.1 = y'.1 → y = y' := fun y hy y' hy' e => by
    by_cases c : y = y'
    · exact c
    · exact absurd e (pair_all (R := fun p q : ByteArray × V => p.1 ≠ q.1) (fun a b h => Ne.symm h) (rises_irrefl hd.2.2) hy hy' c)
  refine rises_ext ?_ ?_ fun p => ⟨fun hp => ?_, fun hp => ?_⟩
  · unfold jOf RisesK
    rw [List.pairwise_map]
    exact ht
  · unfold RisesK
    rw [List.pairwise_map]
    exact hd.2.2
  · obtain ⟨x, hx, rfl⟩ := List.mem_map.1 hp
    obtain ⟨x0, _, _, _, h1 | ⟨_, r, h2, h3⟩⟩ := h.parts x hx
    · rw [hl] at h1; cases h1.1
    · exact List.mem_map.2 ⟨_, h2, by rw [h3]⟩
  · obtain ⟨y, hy, rfl⟩ := List.mem_map.1 hp
    obtain ⟨x, hx, e⟩ := h.done y hy (hl _)
    obtain ⟨x0, _, _, _, h1 | ⟨_, r, h2, h3⟩⟩ := h.parts x hx
    · rw [hl] at h1; cases h1.1
    · have := u _ h2 _ hy e
      refine List.mem_map.2 ⟨x, hx, ?_⟩
      rw [h3, e]
      rw [← this]
theorem struck {left : Lit → Bool} {a k : ByteArray} (h : a ≠ k) : (left (keyL a) && !(keyL a).sameKey (keyL k)) = left (keyL a) := by
  have : (keyL a).sameKey (keyL k) = false := by
    cases c : (keyL a).sameKey (keyL k)
    · rfl
    · exact absurd ((keyL_same _ _).1 c) h
  rw [this]
  simp
theorem struck_self {left : Lit → Bool} {k : ByteArray} : (left (keyL k) && !(keyL k).sameKey (keyL k)) = false := by
  rw [(keyL_same _ _).2 rfl]
  simp
theorem mem_strike {t : List (ByteArray × Part)} {k : ByteArray} {y : ByteArray × Part} : y ∈ t.filter (fun x => !(keyL x.1).sameKey (keyL k)) ↔ y ∈ t ∧ y.1 ≠ k := by
  rw [List.mem_filter]
  constructor
  · rintro ⟨h1, h2⟩
    exact ⟨h1, fun e => by rw [(keyL_same _ _).2 e] at h2; cases h2⟩
  · rintro ⟨h1, h2⟩
    refine ⟨h1, ?_⟩
    cases c : (keyL y.1).sameKey (keyL k)
    · rfl
    · exact absurd ((keyL_same _ _).1 c) h2
/-- A hole is struck out. -/
theorem DelSt.gone {w w' : World} {t0 t : List (ByteArray × Part)} {T : List (ByteArray × V)} {left : Lit → Bool} (h : DelSt w t0 T t left) (hd : Dest t0 T) {x : ByteArray × Part} (hx : x ∈ t) (hl : left (keyL x.1) = true) (hj : x.2.j = .hole)
    (hr : ∀ y ∈ t, y.1 ≠ x.1 → RepJ w' y.2.f y.2.j y.2.v) : DelSt w' t0 T (t.filter fun y => !(keyL y.1).sameKey (keyL x.1)) (fun z => left z && !z.sameKey (keyL x.1)) := by
  have hno : ∀ y ∈ T, y.1 ≠ x.1 := by
    obtain ⟨x0, hx0, e0, _, h1 | ⟨h1, _⟩⟩ := h.parts x hx
    · obtain ⟨_, rfl⟩ := h1
      rcases hd.1 x hx0 with ⟨_, h2⟩ | ⟨v, r, h2, _⟩
      · exact h2
      · have := h2.not
        rw [hj] at this
        cases this
    · rw [hl] at h1; cases h1
  refine ⟨fun y hy => ?_, fun y hy => ?_, fun y hy hly => ?_, fun y hy hly => ?_⟩
  · obtain ⟨h1, h2⟩ := mem_strike.1 hy
    obtain ⟨x0, a1, a2, a3, a4⟩ := h.parts y h1
    refine ⟨x0, a1, a2, a3, ?_⟩
    simp only [struck h2]
    exact a4
  · obtain ⟨h1, h2⟩ := mem_strike.1 hy
    exact hr y h1 h2
  · have hne : y.1 ≠ x.1 := fun e => by simp only [e, struck_self] at hly; cases hly
    simp only [struck hne] at hly
    exact mem_strike.2 ⟨h.there y hy hly, hne⟩
  · have hne := hno y hy
    simp only [struck hne] at hly
    obtain ⟨z, hz, e⟩ := h.done y hy hly
    exact ⟨z, mem_strike.2 ⟨hz, by rw [e]; exact hne⟩, e⟩
/-- A tree with holes has been emptied. -/
theorem DelSt.kept {w w' : World} {t0 t : List (ByteArray × Part)} {T : List (ByteArray × V)} {left : Lit → Bool} (h : DelSt w t0 T t left) {x : ByteArray × Part} (hx : x ∈ t) {r : V} (hT : (x.1, r) ∈ T) {u : Value}
    (hu : RepJ w' x.2.f (toJ r) u) (hr : ∀ y ∈ t, y.1 ≠ x.1 → RepJ w' y.2.f y.2.j y.2.v) : DelSt w' t0 T (putK t x.1 ⟨toJ r, u, x.2.f⟩) (fun z => left z && !z.sameKey (keyL x.1)) := by
  obtain ⟨x0, hx0, e0, ef, _⟩ := h.parts x hx
  refine ⟨fun y hy => ?_, fun y hy => ?_, fun y hy hly => ?_, fun y hy hly => ?_⟩
  · rcases mem_putK.1 hy with rfl | ⟨h1, h2⟩
    · exact ⟨x0, hx0, e0, ef, .inr ⟨struck_self, r, hT, rfl⟩⟩
    · obtain ⟨y0, a1, a2, a3, a4⟩ := h.parts y h1
      refine ⟨y0, a1, a2, a3, ?_⟩
      simp only [struck h2]
      exact a4
  · rcases mem_putK.1 hy with rfl | ⟨h1, h2⟩
    · exact hu
    · exact hr y h1 h2
  · have hne : y.1 ≠ x.1 := fun e => by simp only [e, struck_self] at hly; cases hly
    simp only [struck hne] at hly
    exact mem_putK.2 (.inr ⟨h.there y hy hly, hne⟩)
  · by_cases e : y.1 = x.1
    · exact ⟨_, mem_putK.2 (.inl rfl), e.symm⟩
    · simp only [struck e] at hly
      obtain ⟨z, hz, ez⟩ := h.done y hy hly
      exact ⟨z, mem_putK.2 (.inr ⟨hz, by rw [ez]; exact e⟩), ez⟩
/-- What is to come of a map with holes. -/
theorem dest_of {ks ks' : List ByteArray} {vs vs' : List V} {t0 : List (ByteArray × Part)} (hm : HolM ks vs (jOf t0) ks' vs') (hr : RisesK t0) : Dest t0 (ks'.zip vs') ∧ ∀ x ∈ t0, x.2.j = .hole ∨ ∃ v ∈ vs, ∃ r, Hol v x.2.j r ∧ (x.1, r) ∈ ks'.zip vs' := by
  have key : ∀ (ks : List ByteArray) (vs : List V) (m : List (ByteArray × J)) (ks' : List ByteArray) (vs' : List V), HolM ks vs m ks' vs' → m.Pairwise (fun p q => p.1 ≠ q.1) →
      (∀ p ∈ m, (p.2 = .hole ∧ ∀ y ∈ ks'.zip vs', y.1 ≠ p.1) ∨ ∃ v ∈ vs, ∃ r, Hol v p.2 r ∧ (p.1, r) ∈ ks'.zip vs') ∧ ∀ y ∈ ks'.zip vs', ∃ p ∈ m, p.1 = y.1 := by
    intro ks
    induction ks with
    | nil =>
      intro vs m ks' vs' h _
      cases h
      exact ⟨fun p hp => (by cases hp), fun y hy => (by cases hy)⟩
    | cons k ks ih =>
      intro vs m ks' vs' h hp
      cases h with
      | @hole _ v _ _ vs _ m h =>
        obtain ⟨p1, p2⟩ := List.pairwise_cons.1 hp
        obtain ⟨a1, a2⟩ := ih vs m ks' vs' h p2
        refine ⟨fun p hpm => ?_, fun y hy => ?_⟩
        · rcases List.mem_cons.1 hpm with rfl | hpm
          · refine .inl ⟨rfl, fun y hy e => ?_⟩
            obtain ⟨q, hq, eq⟩ := a2 y hy
            exact p1 q hq (by rw [eq, e])
          · rcases a1 p hpm with h1 | ⟨v', hv', r, h1, h2⟩
            · exact .inl h1
            · exact .inr ⟨v', List.mem_cons_of_mem _ hv', r, h1, h2⟩
        · obtain ⟨q, hq, eq⟩ := a2 y hy
          exact ⟨q, List.mem_cons_of_mem _ hq, eq⟩
      | @keep _ v r j _ ks2 vs vs2 m hv h =>
        obtain ⟨p1, p2⟩ := List.pairwise_cons.1 hp
        obtain ⟨a1, a2⟩ := ih vs m ks2 vs2 h p2
        simp only [List.zip_cons_cons]
        refine ⟨fun p hpm => ?_, fun y hy => ?_⟩
        · rcases List.mem_cons.1 hpm with rfl | hpm
          · exact .inr ⟨v, List.mem_cons_self .., r, hv, List.mem_cons_self ..⟩
          · rcases a1 p hpm with ⟨h1, h2⟩ | ⟨v', hv', r', h1, h2⟩
            · refine .inl ⟨h1, fun y hy => ?_⟩
              rcases List.mem_cons.1 hy with rfl | hy
              · exact p1 p hpm
              · exact h2 y hy
            · exact .inr ⟨v', List.mem_cons_of_mem _ hv', r', h1, List.mem_cons_of_mem _ h2⟩
        · rcases List.mem_cons.1 hy with rfl | hy
          · exact ⟨_, List.mem_cons_self .., rfl⟩
          · obtain ⟨q, hq, eq⟩ := a2 y hy
            exact ⟨q, List.mem_cons_of_mem _ hq, eq⟩
  have hp : (jOf t0).Pairwise (fun p q => p.1 ≠ q.1) := by
    unfold jOf
    rw [List.pairwise_map]
    exact rises_irrefl hr
  obtain ⟨a1, a2⟩ := key ks vs _ ks' vs' hm hp
  have hkeys := hm.keys
  have hsub : ks'.Sublist ks := (holM_rest ks vs _ ks' vs' hm).sub
  have hlen := (holM_rest ks vs _ ks' vs' hm).len
  have hz : (ks'.zip vs').map (·.1) = ks' := List.map_fst_zip (by omega)
  have hrs : RisesK (ks'.zip vs') := by
    have h1 : ks.Pairwise fun a b => (keyL a).before (keyL b) = true := by
      rw [← hkeys.1]
      unfold jOf
      rw [List.map_map, List.pairwise_map]
      exact hr
    have h2 := h1.sublist hsub
    rw [← hz, List.pairwise_map] at h2
    exact h2
  refine ⟨⟨fun x hx => ?_, fun y hy => ?_, hrs⟩, fun x hx => ?_⟩
  · rcases a1 (x.1, x.2.j) (List.mem_map.2 ⟨x, hx, rfl⟩) with h | ⟨v, _, r, h⟩
    · exact .inl h
    · exact .inr ⟨v, r, h⟩
  · obtain ⟨p, hp, e⟩ := a2 y hy
    obtain ⟨x, hx, rfl⟩ := List.mem_map.1 hp
    exact ⟨x, hx, e⟩
  · rcases a1 (x.1, x.2.j) (List.mem_map.2 ⟨x, hx, rfl⟩) with ⟨h, _⟩ | h
    · exact .inl h
    · exact .inr h
end Go.Proofs.YtjlkoekfcdpnaaaGreatDoor

namespace Go.Proofs.YtjlkoekfcdpnaaaGreatDoor
open Go Go.RowKit Go.Maps Go.Deep Go.WideMaps
/-- An array's row and its elements, each with its footprint. -/
def RowAt (w : World) (b o N : Nat) (f : Nat → Value) (S : Nat → Prop) (t : List Part) : Prop :=
  S b ∧ w.rowIs b 20 N f ∧ o + t.length ≤ N ∧ (∀ i (hi : i < t.length), f (o + i) = t[i].v) ∧ (∀ x ∈ t, ¬ x.f b ∧ (∀ k, x.f k → S k) ∧ RepJ w x.f x.j x.v) ∧ t.Pairwise OffP
theorem arr_row {w : World} {S : Nat → Prop} {l : List J} {v : Value} (h : RepJ w S (.arr l) v) : ∃ a c t, v = .iface 50 (.slice a t.length c) ∧ l = t.map (·.j) ∧ t.length * 16 ≤ 140737488351232 ∧ t.length ≤ c ∧ c ≤ capMax ∧ (0 < t.length → ∃ b o N f, a = some ⟨b, o, none⟩ ∧ RowAt w b o N f S t) ∧ a ≠ none := by
  cases h with
  | @arr _ _ a c f b o N F hl hc ca own sub dis ra hcb hnn =>
    have hlen : (l.mapIdx fun i j => (⟨j, f (o + i), F i⟩ : Part)).length = l.length := by simp
    have hget : ∀ i (hi : i < l.length), (l.mapIdx fun i j => (⟨j, f (o + i), F i⟩ : Part))[i]'(by rw [hlen]; exact hi) = ⟨l[i], f (o + i), F i⟩ := fun i hi => by simp
    refine ⟨a, c, l.mapIdx fun i j => ⟨j, f (o + i), F i⟩, by rw [hlen], ?_, by rw [hlen]; exact hl, by rw [hlen]; exact hc, hcb, fun h0 => ?_, hnn⟩
    · apply List.ext_getElem
      · simp
      · intro i h1 h2
        simp
    · rw [hlen] at h0
      obtain ⟨e, hb, hrow, hN⟩ := ca h0
      refine ⟨b, o, N, f, e, hb, hrow, by rw [hlen]; exact hN, fun i hi => ?_, fun x hx => ?_, ?_⟩
      · rw [hlen] at hi
        rw [hget i hi]
      · obtain ⟨i, hi, rfl⟩ := List.mem_iff_getElem.1 hx
        rw [hlen] at hi
        rw [hget i hi]
        exact ⟨own i hi, fun k hk => sub i k hi hk, ra i hi⟩
      · rw [List.pairwise_iff_getElem]
        intro i j hi hj hij
        rw [hlen] at hi hj
        rw [hget i hi, hget j hj]
        exact fun k h1 h2 => dis i j k hij hj h1 h2
theorem row_arr {w : World} {S : Nat → Prop} {t : List Part} {b o N c : Nat} {f : Nat → Value} {a : Option Addr} (hl : t.length * 16 ≤ 140737488351232) (hc : t.length ≤ c) (hcb : c ≤ capMax) (h : 0 < t.length → a = some ⟨b, o, none⟩ ∧ RowAt w b o N f S t) (hnn : a ≠ none) :
    RepJ w S (.arr (t.map (·.j))) (.iface 50 (.slice a t.length c)) := by
  have hF : ∀ i (hi : i < t.length), ((t[i]?.map (·.f)).getD (fun _ => False)) = t[i].f := fun i hi => by simp [hi]
  have hlen : (t.map (·.j)).length = t.length := by simp
  have h' : ∀ i, i < t.length → a = some ⟨b, o, none⟩ ∧ RowAt w b o N f S t := fun i hi => h (by omega)
  have := @RepJ.arr w S (t.map (·.j)) a c f b o N (fun i => (t[i]?.map (·.f)).getD (fun _ => False)) (by rw [hlen]; exact hl) (by rw [hlen]; exact hc) (fun h0 => by rw [hlen] at h0; obtain ⟨e, h1, h2, h3, _⟩ := h h0; exact ⟨e, h1, h2, by rw [hlen]; exact h3⟩)
    (fun i hi => by rw [hlen] at hi; obtain ⟨_, _, _, _, _, h5, _⟩ := h' i hi; rw [hF i hi]; exact (h5 _ (List.getElem_mem hi)).1) (fun i k hi hk => by rw [hlen] at hi; obtain ⟨_, _, _, _, _, h5, _⟩ := h' i hi; rw [hF i hi] at hk; exact (h5 _ (List.getElem_mem hi)).2.1 k hk)
    (fun i j k hij hj h1 h2 => by rw [hlen] at hj; obtain ⟨_, _, _, _, _, _, h6⟩ := h' j hj; rw [hF i (by omega)] at h1; rw [hF j hj] at h2; exact List.pairwise_iff_getElem.1 h6 i j (by omega) hj hij k h1 h2)
    (fun i hi => by rw [hlen] at hi; obtain ⟨_, _, _, _, h4, h5, _⟩ := h' i hi; simp only [hF i hi, List.getElem_map]; rw [h4 i hi]; exact (h5 _ (List.getElem_mem hi)).2.2) hcb hnn
  rwa [hlen] at this
/-- Under way: n elements are through; tk is what of them is kept, at the row's head. -/
structure ArrSt (w : World) (b o N : Nat) (f : Nat → Value) (S : Nat → Prop) (t0 : List Part) (l : List V) (l' : List V) (n : Nat) (tk : List Part) : Prop where
  row : w.rowIs b 20 N f
  len : tk.length ≤ n
  heads : ∀ q (hq : q < tk.length), f (o + q) = tk[q].v
  tails : ∀ q (hq : q < t0.length), n ≤ q → f (o + q) = t0[q].v
  kreps : ∀ x ∈ tk, ¬ x.f b ∧ (∀ k, x.f k → S k) ∧ RepJ w x.f x.j x.v
  treps : ∀ q (hq : q < t0.length), n ≤ q → ¬ t0[q].f b ∧ (∀ k, t0[q].f k → S k) ∧ RepJ w t0[q].f t0[q].j t0[q].v
  off : ((tk ++ t0.drop n).map (·.f)).Pairwise fun F G => ∀ k, F k → G k → False
  left : ∃ pre rest, l' = pre ++ rest ∧ HolL (l.drop n) ((t0.map (·.j)).drop n) rest ∧ tk.map (·.j) = pre.map toJ
theorem ArrSt.start {w : World} {b o N : Nat} {f : Nat → Value} {S : Nat → Prop} {t0 : List Part} {l l' : List V} (h : RowAt w b o N f S t0) (hl : HolL l (t0.map (·.j)) l') : ArrSt w b o N f S t0 l l' 0 [] := by
  obtain ⟨h1, h2, h3, h4, h5, h6⟩ := h
  refine ⟨h2, Nat.le_refl _, fun q hq => (by simp at hq), fun q hq _ => h4 q hq, fun x hx => (by cases hx), fun q hq _ => h5 _ (List.getElem_mem hq), ?_, [], l', rfl, hl, rfl⟩
  rw [List.nil_append, List.drop_zero, List.pairwise_map]
  exact h6
/-- The next one: a hole, or a tree with holes. -/
theorem ArrSt.next {w : World} {b o N : Nat} {f : Nat → Value} {S : Nat → Prop} {t0 tk : List Part} {l l' : List V} {n : Nat} (h : ArrSt w b o N f S t0 l l' n tk) (hn : n < t0.length) (hll : l.length = t0.length) :
    (t0[n].j = .hole ∧ ArrSt w b o N f S t0 l l' (n + 1) tk) ∨ ∃ r, Hol (l[n]'(by omega)) t0[n].j r ∧ isHole t0[n].j = false ∧ ∀ (w' : World) (u : Value), RepJ w' t0[n].f (toJ r) u → w'.rowIs b 20 N (fun q => if q = o + tk.length then u else f q) →
      (∀ x : Part, (∀ k, x.f k → t0[n].f k → False) → ¬ x.f b → (∀ k, x.f k → S k) → RepJ w x.f x.j x.v → RepJ w' x.f x.j x.v) → ArrSt w' b o N (fun q => if q = o + tk.length then u else f q) S t0 l l' (n + 1) (tk ++ [⟨toJ r, u, t0[n].f⟩]) := by
  obtain ⟨pre, rest, e1, hH, e2⟩ := h.left
  have hd : t0.drop n = t0[n] :: t0.drop (n + 1) := List.drop_eq_getElem_cons hn
  have hdl : l.drop n = l[n]'(by omega) :: l.drop (n + 1) := List.drop_eq_getElem_cons (by omega)
  have hdj : (t0.map (·.j)).drop n = t0[n].j :: (t0.map (·.j)).drop (n + 1) := by
    rw [List.drop_eq_getElem_cons (by simpa using hn)]
    simp
  have hoff := h.off
  rw [hd] at hoff
  rw [hdl, hdj] at hH
  generalize hjn : t0[n].j = jn at hH
  cases hH with
  | hole hH =>
    refine .inl ⟨rfl, h.row, Nat.le_succ_of_le h.len, h.heads, fun q hq hle => h.tails q hq (by omega), h.kreps, fun q hq hle => h.treps q hq (by omega), ?_, pre, rest, e1, hH, e2⟩
    rw [List.map_append, List.map_cons] at hoff
    rw [List.map_append]
    exact hoff.sublist (List.Sublist.append (List.Sublist.refl _) (List.sublist_cons_self _ _))
  | @keep _ r _ _ rest _ hv hH =>
    refine .inr ⟨r, hv, hv.not, fun w' u hu hrow hcarry => ?_⟩
    have hpair := hoff
    rw [List.map_append, List.map_cons] at hpair
    obtain ⟨p1, p2, p3⟩ := List.pairwise_append.1 hpair
    obtain ⟨p4, p5⟩ := List.pairwise_cons.1 p2
    have hlen := h.len
    refine ⟨hrow, by simp; omega, fun q hq => ?_, fun q hq hle => ?_, fun x hx => ?_, fun q hq hle => ?_, ?_, pre ++ [r], rest, by rw [e1]; simp, hH, by rw [List.map_append, e2]; simp⟩
    · by_cases c : q = tk.length
      · subst c
        simp
      · have hq' : q < tk.length := by simp at hq; omega
        rw [if_neg (by omega), List.getElem_append_left hq']
        exact h.heads q hq'
    · rw [if_neg (by omega)]
      exact h.tails q hq (by omega)
    · rcases List.mem_append.1 hx with hx | hx
      · obtain ⟨h1, h2, h3⟩ := h.kreps x hx
        exact ⟨h1, h2, hcarry x (fun k a b => p3 x.f (List.mem_map.2 ⟨x, hx, rfl⟩) t0[n].f (List.mem_cons_self ..) k a b) h1 h2 h3⟩
      · obtain rfl : x = ⟨toJ r, u, t0[n].f⟩ := by simpa using hx
        obtain ⟨h1, h2, _⟩ := h.treps n hn (Nat.le_refl _)
        exact ⟨h1, h2, hu⟩
    · obtain ⟨h1, h2, h3⟩ := h.treps q hq (by omega)
      have hmem : t0[q].f ∈ (t0.drop (n + 1)).map (·.f) := by
        refine List.mem_map.2 ⟨t0[q], ?_, rfl⟩
        rw [List.mem_drop_iff_getElem]
        exact ⟨q - (n + 1), by omega, by congr 1; omega⟩
      exact ⟨h1, h2, hcarry t0[q] (fun k a b => p4 _ hmem k b a) h1 h2 h3⟩
    · rw [List.append_assoc, List.map_append]
      simpa using hpair
theorem ArrSt.done {w : World} {b o N : Nat} {f : Nat → Value} {S : Nat → Prop} {t0 tk : List Part} {l l' : List V} (h : ArrSt w b o N f S t0 l l' t0.length tk) (hll : l.length = t0.length) : tk.map (·.j) = toJL l' := by
  obtain ⟨pre, rest, e1, hH, e2⟩ := h.left
  have e3 : l.drop t0.length = [] := by rw [← hll, List.drop_length]
  have e4 : (t0.map (·.j)).drop t0.length = [] := List.drop_of_length_le (by simp)
  rw [e3, e4] at hH
  cases hH
  rw [e1, e2, List.append_nil, toJL_eq]
end Go.Proofs.YtjlkoekfcdpnaaaGreatDoor

namespace Go.Proofs.YtjlkoekfcdpnaaaGreatDoor
open Go Go.RowKit Go.Deep
theorem keep_alloc {a w : World} {B : Nat} (h : Below B a w) (hB : B ≤ w.heap.size) (o : Obj) : Below B a (w.alloc o) := h.alloc hB o
end Go.Proofs.YtjlkoekfcdpnaaaGreatDoor

namespace Go.Proofs.YtjlkoekfcdpnaaaGreatDoor
open Go Go.RowKit Go.Maps Go.Deep Go.WideMaps
theorem assert_st (t : TypeId) (v : Value) (w : World) : (Instr.typeAssert (.iface t v) 20 85 true).run Tryz.prog w = .ok (if t = 85 then .tuple #[v, .bool true] else .tuple #[.agg #[], .bool false]) w :=
  run_assert Tryz.underlying85 (fun _ h => by cases h) (fun _ => by kernel_rfl) t v w
theorem assert_st_nil (w : World) : (Instr.typeAssert .nilIface 20 85 true).run Tryz.prog w = .ok (.tuple #[.agg #[], .bool false]) w :=
  run_assert_nil Tryz.underlying85 (fun _ h => by cases h) (fun _ => by kernel_rfl) w
attribute [local go_sem] assert_jsonNumber assert_jsonNumber_nil assert_int assert_int_nil assert_float64 assert_float64_nil assert_pbigInt assert_pbigInt_nil assert_string assert_string_nil assert_sl assert_sl_nil assert_m assert_m_nil assert_bool assert_bool_nil assert_st assert_st_nil
theorem toInt_same (n : Int) (w : World) : Calls Tryz.prog 50 #[.iface 3 (.int .i64 n)] w fun e w' => e = .returned (.tuple #[.int .i64 n, .bool true]) ∧ w' = w := by
  go_enter Tryz.func50, Tryz.ntmps50
  go_wp2_with fail
  go_ret2
  exact ⟨rfl, rfl⟩
theorem upd_nil (am : Option Nat) (n : J) (y : Value) : UpdOK am [] n y := by
  intro v x pv S T w _ _ hx hy hd hS hT hp
  obtain ⟨pa, pc, rfl, _⟩ := hp
  have hr : UpdR w S T (updJ v [] n) (.returned (.tuple #[y, .nilIface])) w := updR_some (Below.refl _ _) (hy.mono fun q h => .inr (.inl h))
  have fx := hx.form
  have fy := hy.form
  have Hr := Lib.hid hr
  clear hx hy hr
  simp only [List.length_nil]
  rcases fx with rfl | ⟨tx, x, rfl⟩ <;> rcases fy with rfl | ⟨ty, y, rfl⟩
  all_goals
    go_enter Tryz.func44, Tryz.ntmps44
    go_wp2_with fail
    go_ret2
    exact Hr.out
/-- The rest of a path. -/
theorem stps_tail {w : World} {a : Option Addr} {c : Nat} {s : Stp} {p : List Stp} (h : StpsAt w (.slice a (p.length + 1) c) (s :: p)) :
    ∃ b o, a = some ⟨b, o, none⟩ ∧ w.cell? ⟨b, o, none⟩ = some (stpVal s) ∧ b < w.heap.size ∧ p.length + 1 ≤ c ∧ c ≤ 140737488355328 ∧ StpsAt w (.slice (if c = 1 then some ⟨b, o, none⟩ else some ⟨b, o + 1, none⟩) p.length (c - 1)) p := by
  obtain ⟨a', c', e, hc, hc2, hcel⟩ := h
  injection e with e1 e2 e3
  subst e1 e3
  obtain ⟨b, o, rfl, hb, hce⟩ := hcel (by simp)
  refine ⟨b, o, rfl, hce 0 (by simp), hb, hc, hc2, ⟨_, _, rfl, by simp at hc; omega, by omega, fun h0 => ?_⟩⟩
  simp only [List.length_cons] at hc
  rw [if_neg (by omega)]
  refine ⟨b, o + 1, rfl, hb, fun i hi => ?_⟩
  have := hce (i + 1) (by simpa using hi)
  rw [show o + 1 + i = o + (i + 1) by omega]
  exact this
set_option maxRecDepth 100000 in
theorem upd_key_other {am : Option Nat} {k : ByteArray} {b o m c : Nat} {t : TypeId} {z y : Value} {w : World} {S T : Nat → Prop} (h1 : w.cell? ⟨b, o, none⟩ = some (stpVal (.key k))) (ht : t ≠ 53) (ht2 : t ≠ 85) (fy : IsI y) :
    Calls Tryz.prog 44 #[.iface t z, .slice (some ⟨b, o, none⟩) (m + 1) c, y, .map am] w (UpdR w S T none) := by
  unfold stpVal at h1
  rcases fy with rfl | ⟨ty, y, rfl⟩
  all_goals
    go_enter Tryz.func44, Tryz.ntmps44
    go_wp2_with fail
    go_ret2
    exact updR_none (below_alloc1 _ _) (.expectedObjectError _)
set_option maxRecDepth 100000 in
theorem upd_idx_other {am : Option Nat} {i : Nat} {b o m c : Nat} {t : TypeId} {z y : Value} {w : World} {S T : Nat → Prop} (h1 : w.cell? ⟨b, o, none⟩ = some (stpVal (.idx i))) (ht : t ≠ 50) (ht2 : t ≠ 85) (fy : IsI y) :
    Calls Tryz.prog 44 #[.iface t z, .slice (some ⟨b, o, none⟩) (m + 1) c, y, .map am] w (UpdR w S T none) := by
  unfold stpVal at h1
  rcases fy with rfl | ⟨ty, y, rfl⟩
  all_goals
    go_enter Tryz.func44, Tryz.ntmps44
    go_wp2_with fail
    refine (toInt_int _ _).mono ?_
    rintro e w1 ⟨rfl, hw1⟩
    have hb : Below w.heap.size w w1 := hw1
    go_wp2_with fail
    go_ret2
    exact updR_none (keep_alloc hb hb.size _) (.expectedArrayError _)
set_option maxRecDepth 100000 in
theorem upd_hole {am : Option Nat} {s : Stp} {b o m c : Nat} {y : Value} {w : World} {S T : Nat → Prop} (h1 : w.cell? ⟨b, o, none⟩ = some (stpVal s)) (fy : IsI y) :
    Calls Tryz.prog 44 #[.iface 85 (.agg #[]), .slice (some ⟨b, o, none⟩) (m + 1) c, y, .map am] w (UpdR w S T (some .hole)) := by
  cases s with
  | key k =>
    unfold stpVal at h1
    rcases fy with rfl | ⟨ty, y, rfl⟩
    all_goals
      go_enter Tryz.func44, Tryz.ntmps44
      go_wp2_with fail
      go_ret2
      exact updR_some (below_alloc1 _ _) (.hole _)
  | idx i =>
    unfold stpVal at h1
    rcases fy with rfl | ⟨ty, y, rfl⟩
    all_goals
      go_enter Tryz.func44, Tryz.ntmps44
      go_wp2_with fail
      refine (toInt_int _ _).mono ?_
      rintro e w1 ⟨rfl, hw1⟩
      have hb : Below w.heap.size w w1 := hw1
      go_wp2_with fail
      go_ret2
      exact updR_some (keep_alloc hb hb.size _) (.hole _)
set_option maxHeartbeats 1000000 in
set_option maxRecDepth 100000 in
theorem upd_key_go {am : Option Nat} {k : ByteArray} {b o m c : Nat} {x y : Value} {mv : Option Nat} {w : World} {R : Ending → World → Prop} (hx : (x = .nilIface ∧ mv = none) ∨ x = .iface 53 (.map mv)) (h1 : w.cell? ⟨b, o, none⟩ = some (stpVal (.key k))) (hc : m + 1 ≤ c) (fy : IsI y) (hR : ∀ e w', R e w' → ∃ u er, e = .returned (.tuple #[u, er]) ∧ IsI u ∧ IsI er)
    (H : Calls Tryz.prog 61 #[.map mv, .string k, .slice (if c = 1 then some ⟨b, o, none⟩ else some ⟨b, o + 1, none⟩) m (c - 1), y, .map am] w R) :
    Calls Tryz.prog 44 #[x, .slice (some ⟨b, o, none⟩) (m + 1) c, y, .map am] w R := by
  unfold stpVal at h1
  have HR := Lib.hid hR
  clear hR
  by_cases hc1 : c = 1
  · subst hc1
    obtain rfl : m = 0 := by omega
    rw [if_pos rfl, Nat.sub_self] at H
    have HH := Lib.hid H
    clear H
    rcases hx with ⟨rfl, rfl⟩ | rfl <;> rcases fy with rfl | ⟨ty, y, rfl⟩
    all_goals
      go_enter Tryz.func44, Tryz.ntmps44
      go_wp2_with fail
      refine HH.out.mono ?_
      rintro e w1 hr
      obtain ⟨u, er, rfl, fu, fe⟩ := HR.out e w1 hr
      have Hr := Lib.hid hr
      clear hr h1
      rcases fu with rfl | ⟨tu, u, rfl⟩ <;> rcases fe with rfl | ⟨te, er, rfl⟩
      all_goals
        go_wp2_with fail
        exact Hr.out
  · rw [if_neg hc1] at H
    have HH := Lib.hid H
    clear H
    rcases hx with ⟨rfl, rfl⟩ | rfl <;> rcases fy with rfl | ⟨ty, y, rfl⟩
    all_goals
      go_enter Tryz.func44, Tryz.ntmps44
      go_wp2_with fail
      refine HH.out.mono ?_
      rintro e w1 hr
      obtain ⟨u, er, rfl, fu, fe⟩ := HR.out e w1 hr
      have Hr := Lib.hid hr
      clear hr h1
      rcases fu with rfl | ⟨tu, u, rfl⟩ <;> rcases fe with rfl | ⟨te, er, rfl⟩
      all_goals
        go_wp2_with fail
        exact Hr.out
set_option maxHeartbeats 1000000 in
set_option maxRecDepth 100000 in
theorem upd_idx_go {am : Option Nat} {i : Nat} {b o m c : Nat} {x y : Value} {v : Value} {w : World} {R : Ending → World → Prop} (hx : (x = .nilIface ∧ v = .slice none 0 0) ∨ (x = .iface 50 v ∧ ∃ a n c, v = .slice a n c)) (h1 : w.cell? ⟨b, o, none⟩ = some (stpVal (.idx i))) (hc : m + 1 ≤ c) (fy : IsI y) (hR : ∀ e w', R e w' → ∃ u er, e = .returned (.tuple #[u, er]) ∧ IsI u ∧ IsI er)
    (H : Calls Tryz.prog 62 #[v, .int .i64 i, .slice (if c = 1 then some ⟨b, o, none⟩ else some ⟨b, o + 1, none⟩) m (c - 1), y, .map am] w R) :
    Calls Tryz.prog 44 #[x, .slice (some ⟨b, o, none⟩) (m + 1) c, y, .map am] w R := by
  unfold stpVal at h1
  have HR := Lib.hid hR
  clear hR
  by_cases hc1 : c = 1
  · subst hc1
    obtain rfl : m = 0 := by omega
    rw [if_pos rfl, Nat.sub_self] at H
    have HH := Lib.hid H
    clear H
    rcases hx with ⟨rfl, rfl⟩ | ⟨rfl, va, vn, vc, rfl⟩ <;> rcases fy with rfl | ⟨ty, y, rfl⟩
    all_goals
      go_enter Tryz.func44, Tryz.ntmps44
      go_wp2_with fail
      refine (toInt_same _ _).mono ?_
      rintro e w0 ⟨rfl, rfl⟩
      go_wp2_with fail
      refine HH.out.mono ?_
      rintro e w1 hr
      obtain ⟨u, er, rfl, fu, fe⟩ := HR.out e w1 hr
      have Hr := Lib.hid hr
      clear hr h1
      rcases fu with rfl | ⟨tu, u, rfl⟩ <;> rcases fe with rfl | ⟨te, er, rfl⟩
      all_goals
        go_wp2_with fail
        exact Hr.out
  · rw [if_neg hc1] at H
    have HH := Lib.hid H
    clear H
    rcases hx with ⟨rfl, rfl⟩ | ⟨rfl, va, vn, vc, rfl⟩ <;> rcases fy with rfl | ⟨ty, y, rfl⟩
    all_goals
      go_enter Tryz.func44, Tryz.ntmps44
      go_wp2_with fail
      refine (toInt_same _ _).mono ?_
      rintro e w0 ⟨rfl, rfl⟩
      go_wp2_with fail
      refine HH.out.mono ?_
      rintro e w1 hr
      obtain ⟨u, er, rfl, fu, fe⟩ := HR.out e w1 hr
      have Hr := Lib.hid hr
      clear hr h1
      rcases fu with rfl | ⟨tu, u, rfl⟩ <;> rcases fe with rfl | ⟨te, er, rfl⟩
      all_goals
        go_wp2_with fail
        exact Hr.out
theorem updR_form {w w' : World} {S T : Nat → Prop} {o : Option J} {e : Ending} (h : UpdR w S T o e w') : ∃ u er, e = .returned (.tuple #[u, er]) ∧ IsI u ∧ IsI er := by
  obtain ⟨u, er, he, fu, fe, _⟩ := h
  exact ⟨u, er, he, fu, fe⟩
/-- gojq.update, at keys and places. -/
theorem update_any (am : Option Nat) (n : J) (y : Value) : ∀ (p : List Stp), (∀ s ∈ p, s.small) → UpdOK am p n y
  | [], _ => upd_nil am n y
  | s :: p, hs => by
    have IH := update_any am n y p fun s h => hs s (List.mem_cons_of_mem _ h)
    have hss := hs s (List.mem_cons_self ..)
    intro v x pv S T w hsl hfi hx hy hd hS hT hp
    obtain ⟨pa, pc, rfl, hlc, _⟩ := id hp
    obtain ⟨b, o, rfl, h1, hb, hc, hc2, htl⟩ := stps_tail hp
    have fy : IsI y := hy.form
    cases s with
    | key k =>
      have other : ∀ (t : TypeId) (z : Value), x = .iface t z → t ≠ 53 → t ≠ 85 → updJ v (.key k :: p) n = none → Calls Tryz.prog 44 #[x, .slice (some ⟨b, o, none⟩) (p.length + 1) pc, y, .map am] w (UpdR w S T (updJ v (.key k :: p) n)) := by
        intro t z e h2 h3 h4
        rw [e, h4]
        exact upd_key_other h1 h2 h3 fy
      cases hx with
      | null => exact upd_key_go (.inl ⟨rfl, rfl⟩) h1 hc fy (fun e w' h => updR_form h) (updObj_nil hss hy hd hS hT htl IH)
      | bool => exact other _ _ rfl (by decide) (by decide) rfl
      | int => exact other _ _ rfl (by decide) (by decide) rfl
      | flt => exact other _ _ rfl (by decide) (by decide) rfl
      | str => exact other _ _ rfl (by decide) (by decide) rfl
      | arr => exact other _ _ rfl (by decide) (by decide) rfl
      | hole => exact upd_hole h1 fy
      | obj E F hr hm hsz own sub dis rm => exact upd_key_go (.inr rfl) h1 hc fy (fun e w' h => updR_form h) (updObj_map hss hfi hsl (.obj E F hr hm hsz own sub dis rm) hy hd hS hT htl IH)
    | idx i =>
      have other : ∀ (t : TypeId) (z : Value), x = .iface t z → t ≠ 50 → t ≠ 85 → updJ v (.idx i :: p) n = none → Calls Tryz.prog 44 #[x, .slice (some ⟨b, o, none⟩) (p.length + 1) pc, y, .map am] w (UpdR w S T (updJ v (.idx i :: p) n)) := by
        intro t z e h2 h3 h4
        rw [e, h4]
        exact upd_idx_other h1 h2 h3 fy
      cases hx with
      | null => exact upd_idx_go (.inl ⟨rfl, rfl⟩) h1 hc fy (fun e w' h => updR_form h) (updArr_nil hss hy hd hS hT htl IH)
      | bool => exact other _ _ rfl (by decide) (by decide) rfl
      | int => exact other _ _ rfl (by decide) (by decide) rfl
      | flt => exact other _ _ rfl (by decide) (by decide) rfl
      | str => exact other _ _ rfl (by decide) (by decide) rfl
      | obj => exact other _ _ rfl (by decide) (by decide) rfl
      | hole => exact upd_hole h1 fy
      | arr f b' o' N F hl hcc ca own sub dis ra hcb hnn => exact upd_idx_go (.inr ⟨rfl, _, _, _, rfl⟩) h1 hc fy (fun e w' h => updR_form h) (updArr_list hss hfi hsl (.arr f b' o' N F hl hcc ca own sub dis ra hcb hnn) hy hd hS hT htl IH)
end Go.Proofs.YtjlkoekfcdpnaaaGreatDoor
