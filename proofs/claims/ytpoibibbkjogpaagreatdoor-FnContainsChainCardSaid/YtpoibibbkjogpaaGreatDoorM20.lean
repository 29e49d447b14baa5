/- Plain: what is left of a good value is good. -/
/- Paths of keys and places as gojq has them; trees of values are not too large. -/
/- Of what is left: its size in memory; of trees with holes: that they are not too large; the paths behind the first one. -/
/- Contract of gojq.delpaths at places of a value. -/
/- What a door of gojq leaves, for impl.result. -/
import Derived.Test.YtpoibibbkjogpaaGreatDoorM18
import Derived.Test.YtpoibibbkjogpaaGreatDoorM17
import Derived.Test.YtpoibibbkjogpaaGreatDoorM19
import Derived.Test.YtpoibibbkjogpaaGreatDoorM09
import Derived.Test.YtpoibibbkjogpaaGreatDoorM01
import Derived.Test.YtpoibibbkjogpaaGreatDoorM16
namespace Go.Proofs.YtpoibibbkjogpaaGreatDoor
open Go Go.RowKit

theorem rise_pair {ks : List ByteArray} (rise : ∀ i (hi : i + 1 < ks.length), Op.bytesLess ks[i].toList ks[i + 1].toList = true) : ks.Pairwise fun a b => Op.bytesLess a.toList b.toList = true := by
  rw [List.pairwise_iff_getElem]
  intro i j hi hj hij
  exact rise_all ks rise j hj i hij
theorem pair_rise {ks : List ByteArray} (h : ks.Pairwise fun a b => Op.bytesLess a.toList b.toList = true) : ∀ i (hi : i + 1 < ks.length), Op.bytesLess ks[i].toList ks[i + 1].toList = true :=
  fun i hi => List.pairwise_iff_getElem.1 h i (i + 1) (by omega) hi (by omega)

mutual
theorem rest_good : ∀ (v r : V), Rest v r → Good v → Good r
  | .mk k h t l ks vs, .mk k' h' t' l' ks' vs', hr, g => by
    obtain ⟨_, gl, gv⟩ := good_parts g
    cases hr with
    | mk hl hm =>
      have g1 := restL_good l l' hl gl
      have g2 := restM_good ks vs ks' vs' hm gv
      have n1 := hl.len
      obtain ⟨n2, n3, n4⟩ := hm.len
      cases g with
      | mk shape half valid list rise vkeys vals =>
        refine .mk ?_ half valid (fun i hi => g1 _ (List.getElem_mem hi)) (pair_rise ((rise_pair rise).sublist hm.sub)) (fun i hi => ?_) (fun i hi => g2 _ (List.getElem_mem hi))
        · simp only [shapeB, Bool.and_eq_true, Bool.or_eq_true, decide_eq_true_eq, beq_iff_eq] at shape ⊢
          obtain ⟨⟨⟨⟨⟨⟨s1, s2⟩, s3⟩, s4⟩, s5⟩, s6⟩, s7⟩ := shape
          exact ⟨⟨⟨⟨⟨⟨s1, s2⟩, s3⟩, s4⟩, s5.imp_right fun e => by omega⟩, s6.imp_right fun e => by omega⟩, n3⟩
        · obtain ⟨j, hj, e⟩ := List.mem_iff_getElem.1 (hm.sub.subset (List.getElem_mem hi))
          rw [← e]
          exact vkeys j hj
termination_by structural v => v
theorem restL_good : ∀ (l l' : List V), RestL l l' → (∀ x ∈ l, Good x) → ∀ x ∈ l', Good x
  | [], l', h, _, x, hx => by
    rw [restL_nil h] at hx
    cases hx
  | v :: l, l', h, g, x, hx => by
    have gl : ∀ x ∈ l, Good x := fun x hx => g x (List.mem_cons_of_mem _ hx)
    cases h with
    | drop h => exact restL_good l l' h gl x hx
    | @keep _ v' _ l2 hv h =>
      rcases List.mem_cons.1 hx with rfl | hx
      · exact rest_good v x hv (g v (List.mem_cons_self ..))
      · exact restL_good l l2 h gl x hx
termination_by structural l => l
theorem restM_good : ∀ (ks : List ByteArray) (vs : List V) (ks' : List ByteArray) (vs' : List V), RestM ks vs ks' vs' → (∀ x ∈ vs, Good x) → ∀ x ∈ vs', Good x
  | ks, [], ks', vs', h, _, x, hx => by
    cases h
    cases hx
  | ks, v :: vs, ks', vs', h, g, x, hx => by
    have gl : ∀ x ∈ vs, Good x := fun x hx => g x (List.mem_cons_of_mem _ hx)
    cases h with
    | @drop k _ ks _ _ _ h => exact restM_good ks vs ks' vs' h gl x hx
    | @keep k _ v' ks ks2 _ vs2 hv h =>
      rcases List.mem_cons.1 hx with rfl | hx
      · exact rest_good v x hv (g v (List.mem_cons_self ..))
      · exact restM_good ks vs ks2 vs2 h gl x hx
termination_by structural _ vs => vs
end

/-- Each text is one that memory can hold. -/
inductive Tame : V → Prop
  | mk {k h : Int} {t : ByteArray} {l : List V} {ks : List ByteArray} {vs : List V} (ht : t.size ≤ 140737488351232) (hk : ∀ s ∈ ks, s.size ≤ 140737488351232) (hl : ∀ i (hi : i < l.length), Tame l[i]) (hv : ∀ i (hi : i < vs.length), Tame vs[i]) : Tame (.mk k h t l ks vs)
theorem tame_parts {k h : Int} {t : ByteArray} {l : List V} {ks : List ByteArray} {vs : List V} (g : Tame (.mk k h t l ks vs)) : t.size ≤ 140737488351232 ∧ (∀ s ∈ ks, s.size ≤ 140737488351232) ∧ (∀ x ∈ l, Tame x) ∧ ∀ x ∈ vs, Tame x := by
  cases g with
  | mk ht hk hl hv =>
    refine ⟨ht, hk, fun x hx => ?_, fun x hx => ?_⟩
    · obtain ⟨i, hi, rfl⟩ := List.mem_iff_getElem.1 hx
      exact hl i hi
    · obtain ⟨i, hi, rfl⟩ := List.mem_iff_getElem.1 hx
      exact hv i hi

/-- A looker's state within its bounds. -/
def Lk.in (s : Lk) : Prop := 0 ≤ s.parts ∧ s.parts ≤ 400 ∧ 0 ≤ s.bytes ∧ s.bytes ≤ 2000
/-- Not above another one's. -/
def Lk.le (s s' : Lk) : Prop := s.parts ≤ s'.parts ∧ s.bytes ≤ s'.bytes
theorem Lk.part_in {s : Lk} {deep : Int} (h : s.in) (hb : (s.part deep).bad = false) : (s.part deep).in ∧ s.le (s.part deep) ∧ (s.part deep).parts = s.parts + 1 ∧ (s.part deep).bytes = s.bytes ∧ deep ≤ 60 ∧ s.bad = false := by
  obtain ⟨h1, h2, h3, h4⟩ := h
  obtain ⟨b1, b2, b3, b4⟩ := Lk.part_bad hb
  have e := Lk.part_parts (deep := deep) h1 h2
  have e2 : (s.part deep).bytes = s.bytes := rfl
  have e3 : wrap64 (s.parts + 1) = s.parts + 1 := e
  rw [e3] at b2
  exact ⟨⟨by omega, by omega, by omega, by omega⟩, ⟨by omega, by omega⟩, e, e2, b4, b1⟩
theorem Lk.str_in {s : Lk} {b : ByteArray} (hn : b.size ≤ 140737488351232) (h : s.in) (hb : (s.str b).bad = false) : (s.str b).in ∧ s.le (s.str b) ∧ (s.str b).parts = s.parts ∧ (s.str b).bytes = s.bytes + b.size ∧ s.bad = false ∧ Lib.validD b.data.toList = true := by
  obtain ⟨h1, h2, h3, h4⟩ := h
  obtain ⟨b1, b2, b3⟩ := Lk.str_bad hb
  have e : wrap64 (s.bytes + b.size) = s.bytes + b.size := by unfold wrap64; omega
  rw [e] at b2
  have e1 : (s.str b).parts = s.parts := rfl
  have e2 : (s.str b).bytes = s.bytes + b.size := e
  exact ⟨⟨by omega, by omega, by omega, by omega⟩, ⟨by omega, by omega⟩, e1, e2, b1, b3⟩
theorem Lk.want_in {s : Lk} {ok : Bool} (h : s.in) : (s.want ok).in := h
theorem Lk.le_refl (s : Lk) : s.le s := ⟨Int.le_refl _, Int.le_refl _⟩
theorem Lk.le_trans {a b c : Lk} (h : a.le b) (h' : b.le c) : a.le c := ⟨Int.le_trans h.1 h'.1, Int.le_trans h.2 h'.2⟩

mutual
theorem look_up : ∀ (v : V) (deep : Int) (s : Lk), Tame v → s.in → (lookV v deep s).bad = false → (lookV v deep s).in ∧ s.le (lookV v deep s)
  | .mk k h t l ks vs, deep, s, ht, hi, hb => by
    obtain ⟨t1, t2, t3, t4⟩ := tame_parts ht
    unfold lookV at hb ⊢
    split at hb
    · rename_i e
      rw [e] at hb
      cases hb
    · rename_i e
      rw [if_neg e]
      have e' : (s.part deep).bad = false := by simpa using e
      obtain ⟨p1, p2, _⟩ := Lk.part_in hi e'
      obtain ⟨hm, _⟩ := look_goodM none ks vs deep _ hb
      obtain ⟨_, hs⟩ := look_goodL l deep _ hm
      obtain ⟨q1, q2, _⟩ := Lk.str_in t1 (Lk.want_in (Lk.want_in p1)) hs
      obtain ⟨l1, l2⟩ := look_upL l deep _ t3 q1 hm
      obtain ⟨m1, m2⟩ := look_upM none ks vs deep _ t2 t4 l1 hb
      exact ⟨m1, Lk.le_trans p2 (Lk.le_trans q2 (Lk.le_trans l2 m2))⟩
termination_by structural v => v
theorem look_upL : ∀ (l : List V) (deep : Int) (s : Lk), (∀ x ∈ l, Tame x) → s.in → (lookL l deep s).bad = false → (lookL l deep s).in ∧ s.le (lookL l deep s)
  | [], _, s, _, hi, hb => by
    unfold lookL
    exact ⟨hi, Lk.le_refl _⟩
  | v :: r, deep, s, ht, hi, hb => by
    unfold lookL at hb ⊢
    split at hb
    · rename_i e
      rw [e] at hb
      cases hb
    · rename_i e
      rw [if_neg e]
      obtain ⟨_, hs⟩ := look_goodL r deep _ hb
      obtain ⟨a1, a2⟩ := look_up v _ s (ht v (List.mem_cons_self ..)) hi hs
      obtain ⟨b1, b2⟩ := look_upL r deep _ (fun x hx => ht x (List.mem_cons_of_mem _ hx)) a1 hb
      exact ⟨b1, Lk.le_trans a2 b2⟩
termination_by structural l => l
theorem look_upM : ∀ (p : Option ByteArray) (ks : List ByteArray) (vs : List V) (deep : Int) (s : Lk), (∀ x ∈ ks, x.size ≤ 140737488351232) → (∀ x ∈ vs, Tame x) → s.in → (lookM p ks vs deep s).bad = false → (lookM p ks vs deep s).in ∧ s.le (lookM p ks vs deep s)
  | p, [], vs, deep, s, _, _, hi, hb => by
    unfold lookM
    exact ⟨hi, Lk.le_refl _⟩
  | p, _ :: _, [], deep, s, _, _, hi, hb => by
    unfold lookM
    exact ⟨hi, Lk.le_refl _⟩
  | p, k :: ks, v :: vs, deep, s, hk, ht, hi, hb => by
    unfold lookM at hb ⊢
    split at hb
    · rename_i e
      rw [e] at hb
      cases hb
    · rename_i e
      rw [if_neg e]
      obtain ⟨hs, _⟩ := look_goodM (some k) ks vs deep _ hb
      obtain ⟨_, hw⟩ := look_good v _ _ hs
      obtain ⟨hw, _⟩ := (Lk.want_bad _ _).1 hw
      obtain ⟨q1, q2, _⟩ := Lk.str_in (hk k (List.mem_cons_self ..)) hi hw
      obtain ⟨a1, a2⟩ := look_up v _ _ (ht v (List.mem_cons_self ..)) (Lk.want_in (ok := riseB p k) q1) hs
      obtain ⟨b1, b2⟩ := look_upM (some k) ks vs deep _ (fun x hx => hk x (List.mem_cons_of_mem _ hx)) (fun x hx => ht x (List.mem_cons_of_mem _ hx)) a1 hb
      exact ⟨b1, Lk.le_trans q2 (Lk.le_trans a2 b2)⟩
termination_by structural _ _ vs => vs
end

/-- The key before, in what is left: none, or not behind the other one's. -/
def PrevOK (p' p : Option ByteArray) : Prop := p' = none ∨ ∃ a b, p' = some a ∧ p = some b ∧ (a = b ∨ Op.bytesLess a.toList b.toList = true)
theorem less_trans {a b c : ByteArray} (h1 : Op.bytesLess a.toList b.toList = true) (h2 : Op.bytesLess b.toList c.toList = true) : Op.bytesLess a.toList c.toList = true := by
  have e : ∀ x y : ByteArray, Op.bytesLess x.toList y.toList = (keyL x).before (keyL y) := fun x y => by
    show _ = bytesBefore x.data.toList y.data.toList
    rw [before_eq, ByteArray.toList_eq, ByteArray.toList_eq]
  rw [e] at h1 h2 ⊢
  exact Go.WideShapes.before_trans h1 h2
theorem PrevOK.rise {p' p : Option ByteArray} {k : ByteArray} (h : PrevOK p' p) (hr : riseB p k = true) : riseB p' k = true := by
  rcases h with rfl | ⟨a, b, rfl, rfl, h⟩
  · rfl
  · rcases h with rfl | h
    · exact hr
    · exact less_trans h hr
theorem PrevOK.next {p' p : Option ByteArray} {k : ByteArray} (h : PrevOK p' p) (hr : riseB p k = true) : PrevOK p' (some k) := by
  rcases h with rfl | ⟨a, b, rfl, rfl, h⟩
  · exact .inl rfl
  · refine .inr ⟨a, k, rfl, rfl, .inr ?_⟩
    rcases h with rfl | h
    · exact hr
    · exact less_trans h hr

theorem in_of_le {s s' : Lk} (h0 : 0 ≤ s.parts ∧ 0 ≤ s.bytes) (h : s.le s') (hi : s'.in) : s.in := ⟨h0.1, Int.le_trans h.1 hi.2.1, h0.2, Int.le_trans h.2 hi.2.2.2⟩
theorem part_ok {s s' : Lk} {deep : Int} (hb : s.bad = false) (hs : s.in) (hle : s.le s') (hi : s'.in) (h : (s'.part deep).bad = false) : (s.part deep).bad = false := by
  obtain ⟨_, _, e1, _, e3, _⟩ := Lk.part_in hi h
  obtain ⟨h1, h2, h3, h4⟩ := hs
  have hp := (Lk.part_in hi h).1.2.1
  have e := Lk.part_parts (deep := deep) h1 h2
  have e' : wrap64 (s.parts + 1) = s.parts + 1 := e
  have hle1 := hle.1
  simp only [Lk.part, hb, e', Bool.false_or, Bool.not_eq_false', Bool.and_eq_true, decide_eq_true_eq]
  exact ⟨⟨by omega, by omega⟩, e3⟩
theorem str_ok {s s' : Lk} {b : ByteArray} (hn : b.size ≤ 140737488351232) (hb : s.bad = false) (hs : s.in) (hle : s.le s') (hi : s'.in) (h : (s'.str b).bad = false) : (s.str b).bad = false ∧ (s.str b).le (s'.str b) := by
  obtain ⟨q1, _, e1, e2, _, e3⟩ := Lk.str_in hn hi h
  obtain ⟨h1, h2, h3, h4⟩ := hs
  have hq := q1.2.2.2
  have e : wrap64 (s.bytes + b.size) = s.bytes + b.size := by have := hle.2; unfold wrap64; omega
  have hle2 := hle.2
  have hle1 := hle.1
  refine ⟨?_, ?_, ?_⟩
  · simp only [Lk.str, hb, e, e3, Bool.false_or, Bool.not_eq_false', Bool.and_eq_true, decide_eq_true_eq, and_true]
    omega
  · show s.parts ≤ (s'.str b).parts
    omega
  · show wrap64 (s.bytes + b.size) ≤ (s'.str b).bytes
    omega

mutual
theorem rest_look : ∀ (v r : V), Rest v r → ∀ (deep : Int) (s s' : Lk), Tame v → s.bad = false → s.in → s.le s' → s'.in → (lookV v deep s').bad = false → (lookV r deep s).bad = false ∧ (lookV r deep s).in ∧ (lookV r deep s).le (lookV v deep s')
  | .mk k h t l ks vs, .mk k' h' t' l' ks' vs', hr, deep, s, s', ht, h0, hs, hle, hi, hb => by
    obtain ⟨t1, t2, t3, t4⟩ := tame_parts ht
    have hg := (look_good _ _ _ hb).1
    have hg' := rest_good _ _ hr hg
    cases hr with
    | mk hl hm =>
      unfold lookV at hb ⊢
      split at hb
      · rename_i e
        rw [e] at hb
        cases hb
      · rename_i e
        rw [if_neg e]
        have e' : (s'.part deep).bad = false := by simpa using e
        have p0 := part_ok h0 hs hle hi e'
        rw [if_neg (by simp [p0])]
        obtain ⟨p1, p2, p3, p4, _⟩ := Lk.part_in hi e'
        obtain ⟨q1, q2, q3, q4, _⟩ := Lk.part_in hs p0
        have hple : (s.part deep).le (s'.part deep) := ⟨by have := hle.1; omega, by have := hle.2; omega⟩
        obtain ⟨hmb, _⟩ := look_goodM none ks vs deep _ hb
        obtain ⟨_, hsb⟩ := look_goodL l deep _ hmb
        have hw : (((s.part deep).want (shapeB k h t l'.length ks'.length vs'.length)).want (halfB h)).bad = false := by
          cases hg' with
          | mk shape half valid list rise vkeys vals => exact (Lk.want_bad _ _).2 ⟨(Lk.want_bad _ _).2 ⟨p0, shape⟩, half⟩
        obtain ⟨u1, u2⟩ := str_ok (s := ((s.part deep).want (shapeB k h t l'.length ks'.length vs'.length)).want (halfB h)) (s' := ((s'.part deep).want (shapeB k h t l.length ks.length vs.length)).want (halfB h)) t1 hw q1 hple p1 hsb
        obtain ⟨r1, _⟩ := Lk.str_in t1 (s := ((s'.part deep).want (shapeB k h t l.length ks.length vs.length)).want (halfB h)) p1 hsb
        obtain ⟨r2, _⟩ := Lk.str_in t1 (s := ((s.part deep).want (shapeB k h t l'.length ks'.length vs'.length)).want (halfB h)) q1 u1
        obtain ⟨l1, l2, l3⟩ := rest_lookL l l' hl deep _ _ t3 u1 r2 u2 r1 hmb
        have r3 := (look_upL l deep _ t3 r1 hmb).1
        exact rest_lookM ks vs ks' vs' hm none none deep _ _ t2 t4 (.inl rfl) l1 l2 l3 r3 hb
termination_by structural v => v
theorem rest_lookL : ∀ (l l' : List V), RestL l l' → ∀ (deep : Int) (s s' : Lk), (∀ x ∈ l, Tame x) → s.bad = false → s.in → s.le s' → s'.in → (lookL l deep s').bad = false → (lookL l' deep s).bad = false ∧ (lookL l' deep s).in ∧ (lookL l' deep s).le (lookL l deep s')
  | [], l', h, deep, s, s', _, h0, hs, hle, hi, hb => by
    rw [restL_nil h]
    unfold lookL
    exact ⟨h0, hs, hle⟩
  | v :: l, l', h, deep, s, s', ht, h0, hs, hle, hi, hb => by
    have ht' : ∀ x ∈ l, Tame x := fun x hx => ht x (List.mem_cons_of_mem _ hx)
    have hv := ht v (List.mem_cons_self ..)
    have hb2 := hb
    unfold lookL at hb2
    split at hb2
    · rename_i e
      rw [e] at hb2
      cases hb2
    · rename_i e
      have e1 : lookL (v :: l) deep s' = lookL l deep (lookV v (wrap64 (deep + 1)) s') := by rw [lookL, if_neg e]
      rw [e1]
      obtain ⟨_, hvb⟩ := look_goodL l deep _ hb2
      obtain ⟨a1, a2⟩ := look_up v _ s' hv hi hvb
      cases h with
      | drop h => exact rest_lookL l l' h deep s _ ht' h0 hs (Lk.le_trans hle a2) a1 hb2
      | @keep _ v' _ l2 hr h =>
        obtain ⟨c1, c2, c3⟩ := rest_look v v' hr _ s s' hv h0 hs hle hi hvb
        have e2 : lookL (v' :: l2) deep s = lookL l2 deep (lookV v' (wrap64 (deep + 1)) s) := by rw [lookL, if_neg (by simp [h0])]
        rw [e2]
        exact rest_lookL l l2 h deep _ _ ht' c1 c2 c3 a1 hb2
termination_by structural l => l
theorem rest_lookM : ∀ (ks : List ByteArray) (vs : List V) (ks' : List ByteArray) (vs' : List V), RestM ks vs ks' vs' → ∀ (p' p : Option ByteArray) (deep : Int) (s s' : Lk), (∀ x ∈ ks, x.size ≤ 140737488351232) → (∀ x ∈ vs, Tame x) → PrevOK p' p → s.bad = false → s.in → s.le s' → s'.in → (lookM p ks vs deep s').bad = false →
    (lookM p' ks' vs' deep s).bad = false ∧ (lookM p' ks' vs' deep s).in ∧ (lookM p' ks' vs' deep s).le (lookM p ks vs deep s')
  | ks, [], ks', vs', h, p', p, deep, s, s', _, _, _, h0, hs, hle, hi, hb => by
    cases h
    unfold lookM
    exact ⟨h0, hs, hle⟩
  | ks, v :: vs, ks', vs', h, p', p, deep, s, s', hk, ht, hp, h0, hs, hle, hi, hb => by
    have ht' : ∀ x ∈ vs, Tame x := fun x hx => ht x (List.mem_cons_of_mem _ hx)
    have hv := ht v (List.mem_cons_self ..)
    cases ks with
    | nil => cases h
    | cons k ks =>
      have hk' : ∀ x ∈ ks, x.size ≤ 140737488351232 := fun x hx => hk x (List.mem_cons_of_mem _ hx)
      have hkk := hk k (List.mem_cons_self ..)
      have hb2 := hb
      unfold lookM at hb2
      split at hb2
      · rename_i e
        rw [e] at hb2
        cases hb2
      · rename_i e
        have e1 : lookM p (k :: ks) (v :: vs) deep s' = lookM (some k) ks vs deep (lookV v (wrap64 (deep + 1)) ((s'.str k).want (riseB p k))) := by rw [lookM, if_neg e]
        rw [e1]
        obtain ⟨hvb, _⟩ := look_goodM (some k) ks vs deep _ hb2
        obtain ⟨_, hw⟩ := look_good v _ _ hvb
        obtain ⟨hw, hrise⟩ := (Lk.want_bad _ _).1 hw
        obtain ⟨q1, q2, _⟩ := Lk.str_in hkk hi hw
        obtain ⟨a1, a2⟩ := look_up v _ ((s'.str k).want (riseB p k)) hv q1 hvb
        cases h with
        | drop h => exact rest_lookM ks vs ks' vs' h p' (some k) deep s _ hk' ht' (hp.next hrise) h0 hs (Lk.le_trans hle (Lk.le_trans q2 a2)) a1 hb2
        | @keep _ _ v' _ ks2 _ vs2 hr h =>
          obtain ⟨u1, u2⟩ := str_ok hkk h0 hs hle hi hw
          obtain ⟨r2, _⟩ := Lk.str_in hkk hs u1
          have hw2 : ((s.str k).want (riseB p' k)).bad = false := (Lk.want_bad _ _).2 ⟨u1, hp.rise hrise⟩
          obtain ⟨c1, c2, c3⟩ := rest_look v v' hr _ ((s.str k).want (riseB p' k)) ((s'.str k).want (riseB p k)) hv hw2 r2 u2 q1 hvb
          have e2 : lookM p' (k :: ks2) (v' :: vs2) deep s = lookM (some k) ks2 vs2 deep (lookV v' (wrap64 (deep + 1)) ((s.str k).want (riseB p' k))) := by rw [lookM, if_neg (by simp [h0])]
          rw [e2]
          exact rest_lookM ks vs ks2 vs2 h (some k) (some k) deep _ _ hk' ht' (.inr ⟨k, k, rfl, rfl, .inl rfl⟩) c1 c2 c3 a1 hb2
termination_by structural _ vs => vs
end

/-- What is left of a value that fits does fit. -/
theorem rest_fit {v r : V} (h : Rest v r) (ht : Tame v) (hf : fitB v = true) : fitB r = true := by
  have := rest_look v r h 0 ⟨0, 0, false⟩ ⟨0, 0, false⟩ ht rfl ⟨by decide, by decide, by decide, by decide⟩ (Lk.le_refl _) ⟨by decide, by decide, by decide, by decide⟩ (by simpa [fitB] using hf)
  simpa [fitB] using this.1

end Go.Proofs.YtpoibibbkjogpaaGreatDoor

namespace Go.Proofs.YtpoibibbkjogpaaGreatDoor
open Go Go.RowKit Go.Maps Go.Deep Go.WideMaps

theorem toJ_num (n : Nat) : toJ (numV n) = .int n := by
  unfold numV
  have e : (2 * (n : Int)).tmod 2 = 0 := by simp
  rw [toJ_3i _ _ _ _ e]
  simp
theorem toJ_str (s : ByteArray) : toJ (strV s) = .str s := toJ_4 _ _ _ _ _
/-- A tree of keys and places is a path. -/
theorem stps_rep {w : World} {S : Nat → Prop} {s : List Stp} {v : Value} (h : RepJ w S (.arr (toJL (s.map Stp.v))) v) (hS : ∀ k, S k → k < w.heap.size) : ∃ pa pn pc, v = .iface 59 (.slice pa pn pc) ∧ StpsAt w (.slice pa pn pc) s := by
  obtain ⟨a, c, t, rfl, hj, _, hc, ⟨hcb, _⟩, hcel, hx, _⟩ := arr_open h
  have hlen : s.length = t.length := by
    have := congrArg List.length hj
    simpa [toJL_eq] using this
  refine ⟨a, t.length, c, rfl, a, c, by rw [hlen], by omega, by unfold capMax at hcb; omega, fun h0 => ?_⟩
  obtain ⟨b, o, e, hb, hce, _⟩ := hcel (by omega)
  refine ⟨b, o, e, hS _ hb, fun i hi => ?_⟩
  have hit : i < t.length := by omega
  rw [hce i hit]
  have hr := (hx _ (List.getElem_mem hit)).2
  have ej : t[i].j = toJ (s[i]).v := by
    have h1 : (t.map (·.j))[i]? = some t[i].j := by simp [hit]
    rw [← hj, toJL_eq] at h1
    simpa [hi] using h1.symm
  rw [ej] at hr
  generalize t[i].v = x at *
  cases hs : s[i] with
  | key k =>
    rw [hs, show Stp.v (.key k) = strV k from rfl, toJ_str] at hr
    cases hr
    rfl
  | idx n =>
    rw [hs, show Stp.v (.idx n) = numV n from rfl, toJ_num] at hr
    cases hr
    rfl

theorem toJ_slim {v : V} (g : Good v) (s : Small v) : Slim (toJ v) := by
  induction g with
  | @mk k h t l ks vs shape half valid list rise vkeys vals ihl ihv =>
    have gl : ks.length = vs.length ∧ 0 ≤ k ∧ k ≤ 6 := by
      simp only [shapeB, Bool.and_eq_true, decide_eq_true_eq, beq_iff_eq] at shape
      exact ⟨shape.2, shape.1.1.1.1.1.1, shape.1.1.1.1.1.2⟩
    cases s with
    | mk hl hks hvs sl sv =>
    have hc : k = 0 ∨ k = 1 ∨ k = 2 ∨ k = 3 ∨ k = 4 ∨ k = 5 ∨ k = 6 := by omega
    rcases hc with rfl | rfl | rfl | rfl | rfl | rfl | rfl
    · rw [toJ_0]; exact .null
    · rw [toJ_1]; exact .bool _
    · rw [toJ_2]; exact .bool _
    · by_cases e : h.tmod 2 = 0
      · rw [toJ_3i _ _ _ _ e]; exact .int _
      · rw [toJ_3f _ _ _ _ e]; exact .flt _
    · rw [toJ_4]; exact .str _
    · rw [toJ_5]
      refine .arr (by rw [toJL_len]; omega) fun x hx => ?_
      rw [toJL_eq] at hx
      obtain ⟨y, hy, rfl⟩ := List.mem_map.1 hx
      obtain ⟨i, hi, rfl⟩ := List.mem_iff_getElem.1 hy
      exact ihl i hi (sl i hi)
    · rw [toJ_6]
      refine .obj (by rw [toJM_len _ _ gl.1]; omega) fun p hp => ?_
      rw [toJM_eq] at hp
      have := (List.of_mem_zip hp).2
      obtain ⟨y, hy, e⟩ := List.mem_map.1 this
      rw [← e]
      obtain ⟨i, hi, rfl⟩ := List.mem_iff_getElem.1 hy
      exact ihv i hi (sv i hi)

end Go.Proofs.YtpoibibbkjogpaaGreatDoor

namespace Go.Proofs.YtpoibibbkjogpaaGreatDoor
open Go Go.RowKit

theorem rep_tame {w : World} {B : Nat} {v : V} {cs : List Value} (h : RepV w B v cs) : Tame v := by
  induction h with
  | mk C D hk hh ht hl hks hvs hs cl rl ck cv rv _ ihl ihv => exact .mk ht hs ihl ihv

theorem small_parts {k h : Int} {t : ByteArray} {l : List V} {ks : List ByteArray} {vs : List V} (g : Small (.mk k h t l ks vs)) : l.length * 104 ≤ 140737488351232 ∧ ks.length * 16 ≤ 140737488351232 ∧ vs.length * 104 ≤ 140737488351232 ∧ (∀ x ∈ l, Small x) ∧ ∀ x ∈ vs, Small x := by
  cases g with
  | mk hl hks hvs sl sv =>
    refine ⟨hl, hks, hvs, fun x hx => ?_, fun x hx => ?_⟩
    · obtain ⟨i, hi, rfl⟩ := List.mem_iff_getElem.1 hx
      exact sl i hi
    · obtain ⟨i, hi, rfl⟩ := List.mem_iff_getElem.1 hx
      exact sv i hi

mutual
theorem rest_small : ∀ (v r : V), Rest v r → Small v → Small r
  | .mk k h t l ks vs, .mk k' h' t' l' ks' vs', hr, g => by
    obtain ⟨n1, n2, n3, gl, gv⟩ := small_parts g
    cases hr with
    | mk hl hm =>
      have g1 := restL_small l l' hl gl
      have g2 := restM_small ks vs ks' vs' hm gv
      have m1 := hl.len
      obtain ⟨m2, m3, m4⟩ := hm.len
      exact .mk (by omega) (by omega) (by omega) (fun i hi => g1 _ (List.getElem_mem hi)) (fun i hi => g2 _ (List.getElem_mem hi))
termination_by structural v => v
theorem restL_small : ∀ (l l' : List V), RestL l l' → (∀ x ∈ l, Small x) → ∀ x ∈ l', Small x
  | [], l', h, _, x, hx => by
    rw [restL_nil h] at hx
    cases hx
  | v :: l, l', h, g, x, hx => by
    have gl : ∀ x ∈ l, Small x := fun x hx => g x (List.mem_cons_of_mem _ hx)
    cases h with
    | drop h => exact restL_small l l' h gl x hx
    | @keep _ v' _ l2 hv h =>
      rcases List.mem_cons.1 hx with rfl | hx
      · exact rest_small v x hv (g v (List.mem_cons_self ..))
      · exact restL_small l l2 h gl x hx
termination_by structural l => l
theorem restM_small : ∀ (ks : List ByteArray) (vs : List V) (ks' : List ByteArray) (vs' : List V), RestM ks vs ks' vs' → (∀ x ∈ vs, Small x) → ∀ x ∈ vs', Small x
  | ks, [], ks', vs', h, _, x, hx => by
    cases h
    cases hx
  | ks, v :: vs, ks', vs', h, g, x, hx => by
    have gl : ∀ x ∈ vs, Small x := fun x hx => g x (List.mem_cons_of_mem _ hx)
    cases h with
    | @drop k _ ks _ _ _ h => exact restM_small ks vs ks' vs' h gl x hx
    | @keep k _ v' ks ks2 _ vs2 hv h =>
      rcases List.mem_cons.1 hx with rfl | hx
      · exact rest_small v x hv (g v (List.mem_cons_self ..))
      · exact restM_small ks vs ks2 vs2 h gl x hx
termination_by structural _ vs => vs
end

mutual
theorem hol_slim : ∀ (v : V) (j : J) (r : V), Hol v j r → Good v → Small v → Slim j
  | .mk k h t l ks vs, j, r, hh, g, s => by
    obtain ⟨n1, n2, n3, gl, gv⟩ := small_parts s
    obtain ⟨_, g1, g2⟩ := good_parts g
    have hg := g
    have hsm := s
    cases hh with
    | leaf h5 h6 hl hk hv => exact toJ_slim hg hsm
    | @arr _ _ _ l' js hl =>
      have := hl.len
      exact .arr (by omega) (holL_slim l js l' hl g1 gl)
    | @obj _ _ _ ks' _ vs' m hm =>
      obtain ⟨e, e2⟩ := hm.keys
      have : m.length = ks.length := by rw [← e]; simp
      exact .obj (by omega) (holM_slim ks vs m ks' vs' hm g2 gv)
termination_by structural v => v
theorem holL_slim : ∀ (l : List V) (js : List J) (l' : List V), HolL l js l' → (∀ x ∈ l, Good x) → (∀ x ∈ l, Small x) → ∀ x ∈ js, Slim x
  | [], js, l', h, _, _, x, hx => by
    cases h
    cases hx
  | v :: l, js, l', h, g, s, x, hx => by
    have gl : ∀ x ∈ l, Good x := fun x hx => g x (List.mem_cons_of_mem _ hx)
    have sl : ∀ x ∈ l, Small x := fun x hx => s x (List.mem_cons_of_mem _ hx)
    cases h with
    | @hole _ _ _ js h =>
      rcases List.mem_cons.1 hx with rfl | hx
      · exact .hole
      · exact holL_slim l js l' h gl sl x hx
    | @keep _ r j _ l' js hv h =>
      rcases List.mem_cons.1 hx with rfl | hx
      · exact hol_slim v x r hv (g v (List.mem_cons_self ..)) (s v (List.mem_cons_self ..))
      · exact holL_slim l js l' h gl sl x hx
termination_by structural l => l
theorem holM_slim : ∀ (ks : List ByteArray) (vs : List V) (m : List (ByteArray × J)) (ks' : List ByteArray) (vs' : List V), HolM ks vs m ks' vs' → (∀ x ∈ vs, Good x) → (∀ x ∈ vs, Small x) → ∀ p ∈ m, Slim p.2
  | ks, [], m, ks', vs', h, _, _, x, hx => by
    cases h
    cases hx
  | ks, v :: vs, m, ks', vs', h, g, s, x, hx => by
    have gl : ∀ x ∈ vs, Good x := fun x hx => g x (List.mem_cons_of_mem _ hx)
    have sl : ∀ x ∈ vs, Small x := fun x hx => s x (List.mem_cons_of_mem _ hx)
    cases h with
    | @hole _ _ ks _ _ _ m h =>
      rcases List.mem_cons.1 hx with rfl | hx
      · exact .hole
      · exact holM_slim ks vs m ks' vs' h gl sl x hx
    | @keep _ _ r j ks ks' _ vs' m hv h =>
      rcases List.mem_cons.1 hx with rfl | hx
      · exact hol_slim v j r hv (g v (List.mem_cons_self ..)) (s v (List.mem_cons_self ..))
      · exact holM_slim ks vs m ks' vs' h gl sl x hx
termination_by structural _ vs => vs
end

/-- A hole at a place below v. -/
theorem hol_upd2 {v y r : V} {p : List V} {j : J} (h : WayTo v p y) (g : Good v) {s : List Stp} (hs : p = s.map Stp.v) (hne : p ≠ []) (hj : Hol v j r) : ∃ j' r', updJ j s .hole = some j' ∧ Hol v j' r' ∧ Fine j s .hole := by
  obtain ⟨j', h1, h2, h3⟩ := hol_upd h g s j hs (.inr ⟨r, hj⟩)
  rcases h2 with rfl | ⟨r', h2⟩
  · exfalso
    have hn := hj.not
    cases s with
    | nil => exact hne hs
    | cons x s =>
      cases x with
      | key k =>
        cases j with
        | obj m =>
          simp only [updJ] at h1
          cases hg : getK m k <;> (rw [hg] at h1; simp [isHole] at h1)
        | null => simp [updJ, isHole] at h1
        | hole => simp [isHole] at hn
        | _ => simp [updJ] at h1
      | idx i =>
        cases j with
        | arr l =>
          simp only [updJ] at h1
          cases hg : l[i]? <;> (rw [hg] at h1; simp [isHole] at h1)
        | null => simp [updJ, isHole] at h1
        | hole => simp [isHole] at hn
        | _ => simp [updJ] at h1
  · exact ⟨j', r', h1, h2, h3⟩

mutual
theorem spotsV_pre : ∀ (p : List V) (v : V) (q : List V × V), q ∈ spotsV p v → p.length ≤ q.1.length
  | p, .mk k h t l ks vs, q, hm => by
    unfold spotsV at hm
    simp only [List.mem_cons, List.mem_append] at hm
    rcases hm with rfl | hm | hm
    · exact Nat.le_refl _
    · exact Nat.le_of_lt (spotsL_pre p 0 l q hm)
    · exact Nat.le_of_lt (spotsM_pre p ks vs q hm)
termination_by structural _ v => v
theorem spotsL_pre : ∀ (p : List V) (n : Nat) (l : List V) (q : List V × V), q ∈ spotsL p n l → p.length < q.1.length
  | _, _, [], q, hm => by unfold spotsL at hm; cases hm
  | p, n, v :: l, q, hm => by
    unfold spotsL at hm
    rcases List.mem_append.1 hm with hm | hm
    · have := spotsV_pre _ v q hm
      simp at this
      omega
    · exact spotsL_pre p (n + 1) l q hm
termination_by structural _ _ l => l
theorem spotsM_pre : ∀ (p : List V) (ks : List ByteArray) (vs : List V) (q : List V × V), q ∈ spotsM p ks vs → p.length < q.1.length
  | _, [], [], q, hm => by unfold spotsM at hm; cases hm
  | _, [], _ :: _, q, hm => by unfold spotsM at hm; cases hm
  | _, _ :: _, [], q, hm => by unfold spotsM at hm; cases hm
  | p, k :: ks, v :: vs, q, hm => by
    unfold spotsM at hm
    rcases List.mem_append.1 hm with hm | hm
    · have := spotsV_pre _ v q hm
      simp at this
      omega
    · exact spotsM_pre p ks vs q hm
termination_by structural _ _ vs => vs
end
/-- Behind the first place stand places below it. -/
theorem spots_tail (v : V) {i : Nat} (hi : i + 1 < (spotsV [] v).length) : ((spotsV [] v)[i + 1]).1 ≠ [] := by
  obtain ⟨k, h, t, l, ks, vs⟩ := v
  have e : spotsV [] (.mk k h t l ks vs) = ([], .mk k h t l ks vs) :: (spotsL [] 0 l ++ spotsM [] ks vs) := by rw [spotsV]
  have hm : (spotsV [] (.mk k h t l ks vs))[i + 1] ∈ spotsL [] 0 l ++ spotsM [] ks vs := by
    simp only [e, List.getElem_cons_succ]
    exact List.getElem_mem _
  intro he
  rcases List.mem_append.1 hm with hm | hm
  · have := spotsL_pre [] 0 l _ hm
    rw [he] at this
    simp at this
  · have := spotsM_pre [] ks vs _ hm
    rw [he] at this
    simp at this

end Go.Proofs.YtpoibibbkjogpaaGreatDoor

namespace Go.Proofs.YtpoibibbkjogpaaGreatDoor
open Go Go.RowKit Go.Maps Go.Deep Go.WideMaps
attribute [local go_sem] assert_sl assert_sl_nil

/-- Holes at all these paths, one behind the other. -/
def delJ : J → List (List Stp) → Option J
  | j, [] => some j
  | j, s :: r => match updJ j s .hole with
    | some j' => delJ j' r
    | none => none
theorem delJ_snoc : ∀ (l : List (List Stp)) (j : J) (s : List Stp), delJ j (l ++ [s]) = match delJ j l with
    | some j' => updJ j' s .hole
    | none => none
  | [], j, s => by
    simp only [List.nil_append, delJ]
    cases updJ j s .hole <;> rfl
  | a :: l, j, s => by
    simp only [List.cons_append, delJ]
    cases updJ j a .hole with
    | none => rfl
    | some j' => exact delJ_snoc l j' s

/-- A path that leads below v. -/
def Leads (v : V) (s : List Stp) : Prop := s ≠ [] ∧ (∀ x ∈ s, x.small) ∧ ∃ y, WayTo v (s.map Stp.v) y
theorem delJ_hol {v : V} (g : Good v) : ∀ (l : List (List Stp)) (j : J) (r : V), (∀ s ∈ l, Leads v s) → Hol v j r → ∃ j' r', delJ j l = some j' ∧ Hol v j' r'
  | [], j, r, _, h => ⟨j, r, rfl, h⟩
  | s :: l, j, r, hs, h => by
    obtain ⟨h1, _, y, hw⟩ := hs s (List.mem_cons_self ..)
    obtain ⟨j1, r1, e1, h2, _⟩ := hol_upd2 hw g rfl (fun e => h1 (List.map_eq_nil_iff.1 e)) h
    obtain ⟨j2, r2, e2, h3⟩ := delJ_hol g l j1 r1 (fun s hs' => hs s (List.mem_cons_of_mem _ hs')) h2
    exact ⟨j2, r2, by simp only [delJ, e1]; exact e2, h3⟩

def SinceS (S : Nat → Prop) (w wr : World) (k : Nat) : Prop := S k ∨ (w.heap.size ≤ k ∧ k < wr.heap.size)
def DelPLoop (w : World) (S : Nat → Prop) (v : V) (ss : List (List Stp)) (er u iv : Value) (wr : World) : Prop :=
  ∃ n j r cur, n ≤ ss.length ∧ iv = .int .i64 (n : Nat) ∧ er = .nilIface ∧ u = cur ∧ delJ (toJ v) (ss.take n) = some j ∧ Hol v j r ∧ RepJ wr (SinceS S w wr) j cur ∧ Below w.heap.size w wr

def pathV (s : List Stp) : V := .mk 5 0 ⟨#[]⟩ (s.map Stp.v) [] []

set_option maxHeartbeats 4000000 in
set_option maxRecDepth 100000 in
theorem delpaths_any {v rf : V} {jf : J} (g : Good v) (sm : Small v) {ss : List (List Stp)} (hss : ∀ s ∈ ss, Leads v s) (h0 : 0 < ss.length) (hj : delJ (toJ v) ss = some jf) (hrf : Hol v jf rf) {S U : Nat → Prop} {x p : Value} {am : Option Nat} {w : World} (hx : RepJ w S (toJ v) x) (hp : RepJ w U (.arr (toJL (ss.map pathV))) p)
    (hS : ∀ k, S k → k < w.heap.size) (hU : ∀ k, U k → k < w.heap.size) : Calls Tryz.prog 46 #[x, p, .map am] w (Ret fun u w' => Turns S w w' ∧ RepJ w' (SinceS S w w') (toJ rf) u) := by
  obtain ⟨a, c, t, rfl, ej, h16, hc, ⟨hcb, _⟩, hcel, hxs, _⟩ := arr_open hp
  have hlen : ss.length = t.length := by
    have := congrArg List.length ej
    simpa [toJL_eq] using this
  obtain ⟨b, o, rfl, hUb, hce, _⟩ := hcel (by omega)
  have hbw := hU b hUb
  have hpath : ∀ i (hi : i < ss.length), ∃ pa pn pc, w.cell? ⟨b, o + i, none⟩ = some (.iface 59 (.slice pa pn pc)) ∧ StpsAt w (.slice pa pn pc) ss[i] := by
    intro i hi
    have hit : i < t.length := by omega
    have hr := (hxs _ (List.getElem_mem hit)).2
    have hsub := (hxs _ (List.getElem_mem hit)).1
    have e1 : t[i].j = .arr (toJL (ss[i].map Stp.v)) := by
      have h1 : (t.map (·.j))[i]? = some t[i].j := by simp [hit]
      rw [← ej, toJL_eq] at h1
      have h2 : t[i].j = toJ (pathV ss[i]) := by simpa [hi] using h1.symm
      rw [h2]
      unfold pathV
      rw [toJ_5]
    rw [e1] at hr
    obtain ⟨pa, pn, pc, e2, h2⟩ := stps_rep hr (fun k hk => hU k (hsub k hk))
    exact ⟨pa, pn, pc, by rw [hce i hit, e2], h2⟩
  have Hpath := Lib.hid hpath
  have HS := Lib.hid hS
  have Hss := Lib.hid hss
  have Hjf := Lib.hid hj
  have Hrf := Lib.hid hrf
  have fx := hx.form
  have hbW := below_alloc1 w (.cells #[] 108)
  have hsW := size_alloc1 w (.cells #[] 108)
  have hatW := at_alloc w (.cells #[] 108)
  have hstart : DelPLoop (w.alloc (.cells #[] 108)) S v ss .nilIface x (.int .i64 (0 : Nat)) (w.alloc (.cells #[] 108)) := ⟨0, toJ v, v, x, Nat.zero_le _, rfl, rfl, rfl, by rw [List.take_zero]; rfl, hol_same v g, (hx.carry (fun k hk => hbW.block k (hS k hk))).mono (fun k h => .inl h), Below.refl _ _⟩
  have Hstart := Lib.hid hstart
  have HbW := Lib.hid hbW
  have HsW := Lib.hid hsW
  have HatW := Lib.hid hatW
  have u0 : ((t.length : Int) == 0) = false := beq_eq_false_iff_ne.2 (by omega)
  clear hp hx hpath hS hU hss hj hrf hstart ej hxs hce hcel hbW hsW hatW
  rcases fx with rfl | ⟨tx, x, rfl⟩
  all_goals
    go_enter Tryz.func46, Tryz.ntmps46
    go_wp2_with fail
    generalize w.alloc (.cells #[] 108) = W at *
    go_loopw [10, 11, 35] (fun er u iv wr => DelPLoop W S v ss er u iv wr) (fun _ _ iv _ => ss.length - (intOf iv).toNat)
    case atStart => exact Hstart.out
    case round =>
      obtain ⟨n, j, r, cur, hn, rfl, rfl, rfl, hdj, hol, hcur, hb⟩ := hrel
      have hsz := hb.size
      have hsW2 := HsW.out
      by_cases hn' : n < ss.length
      · obtain ⟨pa, pn, pc, hcell, hst⟩ := Hpath.out n hn'
        have hbw2 : Below w.heap.size w wr := HbW.out.trans (hb.mono (by omega))
        have y1 : wr.cell? ⟨b, o + n, none⟩ = some (.iface 59 (.slice pa pn pc)) := (hbw2.cell (p := ⟨b, o + n, none⟩) hbw).trans hcell
        have yW : wr.heap[w.heap.size]? = some (.cells #[] 108) := (hb.block w.heap.size (by omega)).trans HatW.out
        have u8 : n < 140737488355328 := by omega
        have u1 : (n : Int) < (t.length : Int) := by omega
        have u2 : (0 : Int) ≤ (n : Int) := by omega
        obtain ⟨s1, s2, y, hw⟩ := Hss.out _ (List.getElem_mem hn')
        obtain ⟨j', r', hu, hol', hfi⟩ := hol_upd2 hw g rfl (fun e => s1 (List.map_eq_nil_iff.1 e)) hol
        have HU := Lib.hid (update_any am .hole (.iface 108 (.agg #[])) ss[n] s2 j _ (.slice pa pn pc) (SinceS S W wr) (fun _ => False) wr (hol_slim v j r hol g sm) hfi hcur (.hole _) (fun _ _ h => h) (fun k hk => by
          rcases hk with hk | hk
          · have := HS.out k hk; omega
          · exact hk.2) (fun _ h => h.elim) (hst.below hbw2))
        have hnext : ∀ u' w', Below wr.heap.size wr w' → RepJ w' (NewS (SinceS S W wr) (fun _ => False) wr w') j' u' → DelPLoop W S v ss .nilIface u' (.int .i64 ((n : Int) + 1)) w' := fun u' w' hb' hr' => by
          have hs' := hb'.size
          refine ⟨n + 1, j', r', u', hn', by go_num, rfl, rfl, ?_, hol', hr'.mono fun k hk => ?_, hb.trans (hb'.mono hsz)⟩
          · rw [List.take_succ_eq_append_getElem hn', delJ_snoc, hdj]
            exact hu
          · rcases hk with hk | hk | hk
            · rcases hk with hk | hk
              · exact .inl hk
              · exact .inr ⟨hk.1, by omega⟩
            · exact hk.elim
            · exact .inr ⟨by omega, hk.2⟩
        have Hnext := Lib.hid hnext
        have fc := hcur.form
        have Huj := Lib.hid hu
        clear hnext hcur hol hol' hfi hst hcell hu hw s1 s2 hb hbw2
        rcases fc with rfl | ⟨tc, cur, rfl⟩
        all_goals
          go_wp2_with fail
          refine HU.out.mono ?_
          rintro ee w2 ⟨u', er', rfl, fu', _, hb2, hsome, _⟩
          obtain ⟨rfl, hr2⟩ := hsome j' Huj.out
          have Hloop := Lib.hid (Hnext.out u' w2 hb2 hr2)
          clear hsome hr2 hb2 HU Hnext y1 yW
          rcases fu' with rfl | ⟨tu, u', rfl⟩
          all_goals
            go_wp2_with fail
            go_roundw
            case rel => exact Hloop.out
            case measure => simp [intOf]; omega
      · have en : n = ss.length := by omega
        rw [en, List.take_length, Hjf.out] at hdj
        obtain rfl : jf = j := Option.some.inj hdj
        have hbw2 : Below w.heap.size w wr := HbW.out.trans (hb.mono (by omega))
        have D := Lib.hid (del_any (sizeV v) v (Nat.le_refl _) g jf rf Hrf.out wr (SinceS S W wr) _ hcur (fun k hk => by
          rcases hk with hk | hk
          · have := HS.out k hk; omega
          · exact hk.2))
        have Hbw2 := Lib.hid hbw2
        have fc := hcur.form
        have u1 : ¬ ((n : Int) < (t.length : Int)) := by omega
        clear hcur hb hbw2 hdj hol
        rcases fc with rfl | ⟨tc, cur, rfl⟩
        all_goals
          go_wp2_with fail
          refine D.out.mono ?_
          rintro ee w2 ⟨u', rfl, htu, hru⟩
          have fu := hru.form
          have hw2 := htu.size
          have hfin : Turns S w w2 ∧ RepJ w2 (SinceS S w w2) (toJ rf) u' := by
            refine ⟨((Turns.refl S w).trans (Turns.of_below (Hbw2.out.mono (Nat.le_refl _))) (fun q _ h => h.elim)).trans htu (fun q hq h => ?_), hru.mono fun k hk => ?_⟩
            · rcases h with h | h
              · exact h
              · omega
            · rcases hk with hk | hk
              · exact .inl hk
              · exact .inr ⟨by omega, by omega⟩
          have Hfin := Lib.hid hfin
          clear htu hru hfin D
          rcases fu with rfl | ⟨tu, u', rfl⟩
          all_goals
            go_wp2_with fail
            go_ret
            exact ⟨_, rfl, Hfin.out⟩

end Go.Proofs.YtpoibibbkjogpaaGreatDoor

namespace Go.Proofs.YtpoibibbkjogpaaGreatDoor
open Go Go.RowKit Go.Deep

def JR (w : World) (an : Ans) (v : Value) (w' : World) : Prop := Below w.heap.size w w' ∧ (∀ y, an = .fine y → RepJ w' (· < w'.heap.size) (toJ y) v) ∧ (an = .raises → ErrV v)

theorem jr_err {w w' : World} {an : Ans} (ha : an = .raises) {v : Value} (hv : ErrV v) (hb : Below w.heap.size w w') : JR w an v w' :=
  ⟨hb, fun y e => (by rw [ha] at e; cases e), fun _ => hv⟩

theorem small_row {l : List V} (hl : l.length * 104 ≤ 140737488351232) (h : ∀ x ∈ l, Small x) : Small (.mk 5 0 ⟨#[]⟩ l [] []) :=
  .mk hl (by simp) (by simp) (fun i hi => h _ (List.getElem_mem hi)) (fun i hi => by simp at hi)
theorem small_null : Small nullV := .mk (by simp) (by simp) (by simp) (fun i hi => by simp at hi) (fun i hi => by simp at hi)
theorem Small.parts {v : V} (h : Small v) : v.list.length * 104 ≤ 140737488351232 ∧ (∀ x ∈ v.list, Small x) ∧ ∀ x ∈ v.vals, Small x := by
  cases h with
  | mk hl hks hvs sl sv =>
    refine ⟨hl, fun x hx => ?_, fun x hx => ?_⟩
    · obtain ⟨i, hi, rfl⟩ := List.mem_iff_getElem.1 hx
      exact sl i hi
    · obtain ⟨i, hi, rfl⟩ := List.mem_iff_getElem.1 hx
      exact sv i hi
theorem stepA_small {v k x : V} (s : Small v) (h : stepA v k = .fine x) : Small x := by
  obtain ⟨hl, sl, sv⟩ := s.parts
  refine stepA_own (P := Small) small_null s sl sv (fun a n => small_row ?_ fun y hy => sl y (List.mem_of_mem_drop (List.mem_of_mem_take hy))) h
  have : ((v.list.drop a).take n).length ≤ v.list.length := by simp; omega
  omega
theorem pathA_small : ∀ {p : List V} {v x : V}, Small v → pathA v p = .fine x → Small x
  | [], v, x, g, h => by cases h; exact g
  | k :: p, v, x, g, h => by
    simp only [pathA] at h
    cases hs : stepA v k with
    | fine y => rw [hs] at h; exact pathA_small (stepA_small g hs) h
    | raises => rw [hs] at h; cases h
    | silent => rw [hs] at h; cases h

theorem subR_of {w w' : World} {an : Ans} {v : Value} (hg : ∀ y, an = .fine y → Good y ∧ Small y) (hns : an ≠ .silent) (h : JR w an v w') : SubR w an v w' := by
  obtain ⟨hb, hf, hr⟩ := h
  cases an with
  | fine y =>
    have hj := hf y rfl
    obtain ⟨gy, sy⟩ := hg y rfl
    exact ⟨hj.form, resQ_val (result_val hj.noErr hj.form w' w'.heap.size (fromGo_any gy sy w' w'.heap.size _ _ hj (fun k hk => hk)) w' (Below.refl _ _) (Nat.le_refl _)) (.inl rfl), hb⟩
  | raises =>
    have hv := hr rfl
    exact ⟨by obtain ⟨t, a, rfl⟩ := hv.form; exact .inr ⟨_, _, rfl⟩, resQ_err hv _, hb⟩
  | silent => exact absurd rfl hns

end Go.Proofs.YtpoibibbkjogpaaGreatDoor
