/- Plain: what is left of a value without some of its parts (Rest), and trees with holes (Holed): what gojq.deleteEmpty makes of them. -/
/- Plain: trees with holes, and what is left when the holes are taken out. -/
/- Memory turned in place: a tree's own blocks may turn, all others stand; a map's entries, emptied one by one (gojq.deleteEmpty). -/
/- An array's elements, emptied one by one in place (gojq.deleteEmpty). -/
import Derived.Test.YtpoibibbkjogpaaGreatDoorM13
import Derived.Test.YtpoibibbkjogpaaGreatDoorM17
namespace Go.Proofs.YtpoibibbkjogpaaGreatDoor
open Go Go.RowKit

mutual
/-- r is what is left of v without some parts. -/
inductive Rest : V → V → Prop
  | mk {k h : Int} {t : ByteArray} {l l' : List V} {ks ks' : List ByteArray} {vs vs' : List V} (hl : RestL l l') (hm : RestM ks vs ks' vs') : Rest (.mk k h t l ks vs) (.mk k h t l' ks' vs')
inductive RestL : List V → List V → Prop
  | nil : RestL [] []
  | drop {x : V} {l l' : List V} (h : RestL l l') : RestL (x :: l) l'
  | keep {x x' : V} {l l' : List V} (hx : Rest x x') (h : RestL l l') : RestL (x :: l) (x' :: l')
inductive RestM : List ByteArray → List V → List ByteArray → List V → Prop
  | nil : RestM [] [] [] []
  | drop {k : ByteArray} {x : V} {ks ks' : List ByteArray} {vs vs' : List V} (h : RestM ks vs ks' vs') : RestM (k :: ks) (x :: vs) ks' vs'
  | keep {k : ByteArray} {x x' : V} {ks ks' : List ByteArray} {vs vs' : List V} (hx : Rest x x') (h : RestM ks vs ks' vs') : RestM (k :: ks) (x :: vs) (k :: ks') (x' :: vs')
end

theorem RestL.len {l l' : List V} (h : RestL l l') : l'.length ≤ l.length := by
  cases h with
  | nil => simp
  | drop h => have := RestL.len h; simp; omega
  | keep _ h => have := RestL.len h; simp; omega
theorem RestM.len {ks ks' : List ByteArray} {vs vs' : List V} (h : RestM ks vs ks' vs') : ks.length = vs.length ∧ ks'.length = vs'.length ∧ ks'.length ≤ ks.length := by
  cases h with
  | nil => simp
  | drop h => have := RestM.len h; simp; omega
  | keep _ h => have := RestM.len h; simp; omega
/-- Each element of what is left is left of an element. -/
theorem RestL.at {l l' : List V} (h : RestL l l') : ∀ i (hi : i < l'.length), ∃ j, ∃ hj : j < l.length, Rest l[j] l'[i] := by
  cases h with
  | nil => intro i hi; simp at hi
  | drop h =>
    intro i hi
    obtain ⟨j, hj, hr⟩ := RestL.at h i hi
    exact ⟨j + 1, by simpa using hj, by simpa using hr⟩
  | keep hx h =>
    intro i hi
    cases i with
    | zero => exact ⟨0, by simp, by simpa using hx⟩
    | succ i =>
      obtain ⟨j, hj, hr⟩ := RestL.at h i (by simpa using hi)
      exact ⟨j + 1, by simpa using hj, by simpa using hr⟩
theorem RestM.at {ks ks' : List ByteArray} {vs vs' : List V} (h : RestM ks vs ks' vs') : ∀ i (hi : i < ks'.length) (hi2 : i < vs'.length), ∃ j, ∃ hj : j < ks.length, ∃ hj2 : j < vs.length, ks[j] = ks'[i] ∧ Rest vs[j] vs'[i] := by
  cases h with
  | nil => intro i hi; simp at hi
  | drop h =>
    intro i hi hi2
    obtain ⟨j, hj, hj2, he, hr⟩ := RestM.at h i hi hi2
    exact ⟨j + 1, by simpa using hj, by simpa using hj2, by simpa using he, by simpa using hr⟩
  | keep hx h =>
    intro i hi hi2
    cases i with
    | zero => exact ⟨0, by simp, by simp, rfl, by simpa using hx⟩
    | succ i =>
      obtain ⟨j, hj, hj2, he, hr⟩ := RestM.at h i (by simpa using hi) (by simpa using hi2)
      exact ⟨j + 1, by simpa using hj, by simpa using hj2, by simpa using he, by simpa using hr⟩

theorem good_parts {k h : Int} {t : ByteArray} {l : List V} {ks : List ByteArray} {vs : List V} (g : Good (.mk k h t l ks vs)) : ks.length = vs.length ∧ (∀ x ∈ l, Good x) ∧ ∀ x ∈ vs, Good x := by
  have hl := g.kinds.2.2
  cases g with
  | mk shape half valid list rise vkeys vals =>
    refine ⟨hl, fun x hx => ?_, fun x hx => ?_⟩
    · obtain ⟨i, hi, rfl⟩ := List.mem_iff_getElem.1 hx
      exact list i hi
    · obtain ⟨i, hi, rfl⟩ := List.mem_iff_getElem.1 hx
      exact vals i hi

mutual
theorem rest_refl : ∀ (v : V), Good v → Rest v v
  | .mk k h t l ks vs, g => by
    obtain ⟨hl, g1, g2⟩ := good_parts g
    exact .mk (restL_refl l g1) (restM_refl ks vs hl g2)
termination_by structural v => v
theorem restL_refl : ∀ (l : List V), (∀ x ∈ l, Good x) → RestL l l
  | [], _ => .nil
  | v :: r, g => .keep (rest_refl v (g v (List.mem_cons_self ..))) (restL_refl r fun x hx => g x (List.mem_cons_of_mem _ hx))
termination_by structural l => l
theorem restM_refl : ∀ (ks : List ByteArray) (vs : List V), ks.length = vs.length → (∀ x ∈ vs, Good x) → RestM ks vs ks vs
  | [], [], _, _ => .nil
  | [], _ :: _, h, _ => by simp at h
  | _ :: _, [], h, _ => by simp at h
  | k :: ks, v :: vs, h, g => .keep (rest_refl v (g v (List.mem_cons_self ..))) (restM_refl ks vs (by simpa using h) fun x hx => g x (List.mem_cons_of_mem _ hx))
termination_by structural _ vs => vs
end

mutual
theorem rest_trans : ∀ (a b c : V), Rest a b → Rest b c → Rest a c
  | .mk k h t l ks vs, .mk k' h' t' l' ks' vs', .mk k2 h2 t2 l2 ks2 vs2, h1, h3 => by
    cases h1 with
    | mk hl hm =>
      cases h3 with
      | mk hl' hm' => exact .mk (restL_trans l l' l2 hl hl') (restM_trans ks vs ks' vs' ks2 vs2 hm hm')
termination_by structural a => a
theorem restL_trans : ∀ (a b c : List V), RestL a b → RestL b c → RestL a c
  | [], b, c, h1, h2 => by
    cases h1
    exact h2
  | x :: a, b, c, h1, h2 => by
    cases h1 with
    | drop h => exact .drop (restL_trans a b c h h2)
    | @keep _ x' _ b' hx h =>
      cases h2 with
      | drop h2 => exact .drop (restL_trans a b' c h h2)
      | keep hx2 h2 => exact .keep (rest_trans x x' _ hx hx2) (restL_trans a b' _ h h2)
termination_by structural a => a
theorem restM_trans : ∀ (ks : List ByteArray) (vs : List V) (ks' : List ByteArray) (vs' : List V) (ks2 : List ByteArray) (vs2 : List V), RestM ks vs ks' vs' → RestM ks' vs' ks2 vs2 → RestM ks vs ks2 vs2
  | ks, [], ks', vs', ks2, vs2, h1, h2 => by
    cases h1
    exact h2
  | ks, x :: vs, ks', vs', ks2, vs2, h1, h2 => by
    cases h1 with
    | @drop k _ ks _ _ _ h => exact .drop (restM_trans ks vs ks' vs' ks2 vs2 h h2)
    | @keep k _ x' ks ks1 _ vs1 hx h =>
      cases h2 with
      | drop h2 => exact .drop (restM_trans ks vs ks1 vs1 ks2 vs2 h h2)
      | @keep _ _ x2 _ ks3 _ vs3 hx2 h2 => exact .keep (rest_trans x x' x2 hx hx2) (restM_trans ks vs ks1 vs1 ks3 vs3 h h2)
termination_by structural _ vs => vs
end

theorem restL_nil {l' : List V} (h : RestL [] l') : l' = [] := by cases h; rfl
theorem restM_nil {ks' : List ByteArray} {vs' : List V} (h : RestM [] [] ks' vs') : ks' = [] ∧ vs' = [] := by cases h; exact ⟨rfl, rfl⟩

/-- The keys of what is left stand in the same order. -/
theorem RestM.sub {ks ks' : List ByteArray} {vs vs' : List V} (h : RestM ks vs ks' vs') : ks'.Sublist ks := by
  cases h with
  | nil => exact List.Sublist.slnil
  | drop h => exact (RestM.sub h).cons _
  | keep _ h => exact (RestM.sub h).cons_cons _

end Go.Proofs.YtpoibibbkjogpaaGreatDoor

namespace Go.Proofs.YtpoibibbkjogpaaGreatDoor
open Go Go.RowKit

mutual
/-- j is v with holes in it (not v itself a hole); r is what is left. -/
inductive Hol : V → J → V → Prop
  | leaf {k h : Int} {t : ByteArray} {l : List V} {ks : List ByteArray} {vs : List V} (h5 : k ≠ 5) (h6 : k ≠ 6) (hl : l = []) (hk : ks = []) (hv : vs = []) : Hol (.mk k h t l ks vs) (toJ (.mk k h t l ks vs)) (.mk k h t l ks vs)
  | arr {h : Int} {t : ByteArray} {l l' : List V} {js : List J} (hl : HolL l js l') : Hol (.mk 5 h t l [] []) (.arr js) (.mk 5 h t l' [] [])
  | obj {h : Int} {t : ByteArray} {ks ks' : List ByteArray} {vs vs' : List V} {m : List (ByteArray × J)} (hm : HolM ks vs m ks' vs') : Hol (.mk 6 h t [] ks vs) (.obj m) (.mk 6 h t [] ks' vs')
inductive HolL : List V → List J → List V → Prop
  | nil : HolL [] [] []
  | hole {v : V} {l l' : List V} {js : List J} (h : HolL l js l') : HolL (v :: l) (.hole :: js) l'
  | keep {v r : V} {j : J} {l l' : List V} {js : List J} (hv : Hol v j r) (h : HolL l js l') : HolL (v :: l) (j :: js) (r :: l')
inductive HolM : List ByteArray → List V → List (ByteArray × J) → List ByteArray → List V → Prop
  | nil : HolM [] [] [] [] []
  | hole {k : ByteArray} {v : V} {ks ks' : List ByteArray} {vs vs' : List V} {m : List (ByteArray × J)} (h : HolM ks vs m ks' vs') : HolM (k :: ks) (v :: vs) ((k, .hole) :: m) ks' vs'
  | keep {k : ByteArray} {v r : V} {j : J} {ks ks' : List ByteArray} {vs vs' : List V} {m : List (ByteArray × J)} (hv : Hol v j r) (h : HolM ks vs m ks' vs') : HolM (k :: ks) (v :: vs) ((k, j) :: m) (k :: ks') (r :: vs')
end

theorem toJ_hole (v : V) : isHole (toJ v) = false := by
  obtain ⟨k, h, t, l, ks, vs⟩ := v
  unfold toJ
  repeat' split
  all_goals rfl
theorem Hol.not {v r : V} {j : J} (h : Hol v j r) : isHole j = false := by
  cases h with
  | leaf => exact toJ_hole _
  | arr => rfl
  | obj => rfl

mutual
theorem hol_same : ∀ (v : V), Good v → Hol v (toJ v) v
  | .mk k h t l ks vs, g => by
    obtain ⟨h5, h6, hlen⟩ := g.kinds
    obtain ⟨_, g1, g2⟩ := good_parts g
    by_cases c5 : k = 5
    · subst c5
      obtain rfl := h6.resolve_left (by omega)
      obtain rfl : vs = [] := List.eq_nil_of_length_eq_zero (by simpa using hlen.symm)
      have e : toJ (.mk 5 h t l [] []) = .arr (toJL l) := by unfold toJ; simp
      rw [e]
      exact .arr (holL_same l g1)
    · obtain rfl := h5.resolve_left c5
      by_cases c6 : k = 6
      · subst c6
        have e : toJ (.mk 6 h t [] ks vs) = .obj (toJM ks vs) := by unfold toJ; simp
        rw [e]
        exact .obj (holM_same ks vs hlen g2)
      · obtain rfl := h6.resolve_left c6
        obtain rfl : vs = [] := List.eq_nil_of_length_eq_zero (by simpa using hlen.symm)
        exact .leaf c5 c6 rfl rfl rfl
termination_by structural v => v
theorem holL_same : ∀ (l : List V), (∀ x ∈ l, Good x) → HolL l (toJL l) l
  | [], _ => by unfold toJL; exact .nil
  | v :: r, g => by
    unfold toJL
    exact .keep (hol_same v (g v (List.mem_cons_self ..))) (holL_same r fun x hx => g x (List.mem_cons_of_mem _ hx))
termination_by structural l => l
theorem holM_same : ∀ (ks : List ByteArray) (vs : List V), ks.length = vs.length → (∀ x ∈ vs, Good x) → HolM ks vs (toJM ks vs) ks vs
  | [], [], _, _ => by unfold toJM; exact .nil
  | [], _ :: _, h, _ => by simp at h
  | _ :: _, [], h, _ => by simp at h
  | k :: ks, v :: vs, h, g => by
    unfold toJM
    exact .keep (hol_same v (g v (List.mem_cons_self ..))) (holM_same ks vs (by simpa using h) fun x hx => g x (List.mem_cons_of_mem _ hx))
termination_by structural _ vs => vs
end

mutual
theorem hol_rest : ∀ (v : V) (j : J) (r : V), Hol v j r → Rest v r
  | .mk k h t l ks vs, j, r, hh => by
    cases hh with
    | leaf h5 h6 hl hk hv =>
      subst hl hk hv
      exact .mk .nil .nil
    | @arr _ _ _ l' js hl => exact .mk (holL_rest l js l' hl) .nil
    | @obj _ _ _ ks' _ vs' m hm => exact .mk .nil (holM_rest ks vs m ks' vs' hm)
termination_by structural v => v
theorem holL_rest : ∀ (l : List V) (js : List J) (l' : List V), HolL l js l' → RestL l l'
  | [], js, l', h => by cases h; exact .nil
  | v :: l, js, l', h => by
    cases h with
    | @hole _ _ _ js h => exact .drop (holL_rest l js l' h)
    | @keep _ r j _ l' js hv h => exact .keep (hol_rest v j r hv) (holL_rest l js l' h)
termination_by structural l => l
theorem holM_rest : ∀ (ks : List ByteArray) (vs : List V) (m : List (ByteArray × J)) (ks' : List ByteArray) (vs' : List V), HolM ks vs m ks' vs' → RestM ks vs ks' vs'
  | ks, [], m, ks', vs', h => by cases h; exact .nil
  | ks, v :: vs, m, ks', vs', h => by
    cases h with
    | @hole _ _ ks _ _ _ m h => exact .drop (holM_rest ks vs m ks' vs' h)
    | @keep _ _ r j ks ks' _ vs' m hv h => exact .keep (hol_rest v j r hv) (holM_rest ks vs m ks' vs' h)
termination_by structural _ vs => vs
end

/-- A place in a tree with holes: a hole, or a tree with holes. -/
def HolAt (v : V) (x : J) : Prop := x = .hole ∨ ∃ r, Hol v x r
theorem HolL.len {l l' : List V} {js : List J} (h : HolL l js l') : js.length = l.length := by
  cases h with
  | nil => rfl
  | hole h => simp [HolL.len h]
  | keep _ h => simp [HolL.len h]
theorem HolL.get {l l' : List V} {js : List J} (h : HolL l js l') : ∀ i (hi : i < l.length) (hj : i < js.length), HolAt l[i] js[i] := by
  cases h with
  | nil => intro i hi; simp at hi
  | hole h =>
    intro i hi hj
    cases i with
    | zero => exact .inl rfl
    | succ i => exact HolL.get h i (by simpa using hi) (by simpa using hj)
  | keep hv h =>
    intro i hi hj
    cases i with
    | zero => exact .inr ⟨_, hv⟩
    | succ i => exact HolL.get h i (by simpa using hi) (by simpa using hj)
theorem HolL.set {l l' : List V} {js : List J} (h : HolL l js l') : ∀ i (hi : i < l.length) (x : J), HolAt l[i] x → ∃ l'', HolL l (js.set i x) l'' := by
  cases h with
  | nil => intro i hi; simp at hi
  | @hole v l l' js h =>
    intro i hi x hx
    cases i with
    | zero =>
      rcases hx with rfl | ⟨r, hr⟩
      · exact ⟨_, .hole h⟩
      · exact ⟨_, .keep hr h⟩
    | succ i =>
      obtain ⟨l2, h2⟩ := HolL.set h i (by simpa using hi) x (by simpa using hx)
      exact ⟨_, .hole h2⟩
  | keep hv h =>
    intro i hi x hx
    cases i with
    | zero =>
      rcases hx with rfl | ⟨r, hr⟩
      · exact ⟨_, .hole h⟩
      · exact ⟨_, .keep hr h⟩
    | succ i =>
      obtain ⟨l2, h2⟩ := HolL.set h i (by simpa using hi) x (by simpa using hx)
      exact ⟨_, .keep hv h2⟩
theorem HolM.keys {ks ks' : List ByteArray} {vs vs' : List V} {m : List (ByteArray × J)} (h : HolM ks vs m ks' vs') : m.map (·.1) = ks ∧ ks.length = vs.length := by
  cases h with
  | nil => exact ⟨rfl, rfl⟩
  | hole h => have := HolM.keys h; simp [this.1, this.2]
  | keep _ h => have := HolM.keys h; simp [this.1, this.2]
theorem HolM.get {ks ks' : List ByteArray} {vs vs' : List V} {m : List (ByteArray × J)} (h : HolM ks vs m ks' vs') : ∀ i (hi : i < vs.length) (hj : i < m.length), HolAt vs[i] m[i].2 := by
  cases h with
  | nil => intro i hi; simp at hi
  | hole h =>
    intro i hi hj
    cases i with
    | zero => exact .inl rfl
    | succ i => exact HolM.get h i (by simpa using hi) (by simpa using hj)
  | keep hv h =>
    intro i hi hj
    cases i with
    | zero => exact .inr ⟨_, hv⟩
    | succ i => exact HolM.get h i (by simpa using hi) (by simpa using hj)
theorem HolM.set {ks ks' : List ByteArray} {vs vs' : List V} {m : List (ByteArray × J)} (h : HolM ks vs m ks' vs') : ∀ i (hi : i < vs.length) (hk : i < ks.length) (x : J), HolAt vs[i] x → ∃ ks'' vs'', HolM ks vs (m.set i (ks[i], x)) ks'' vs'' := by
  cases h with
  | nil => intro i hi; simp at hi
  | hole h =>
    intro i hi hk x hx
    cases i with
    | zero =>
      rcases hx with rfl | ⟨r, hr⟩
      · exact ⟨_, _, .hole h⟩
      · exact ⟨_, _, .keep hr h⟩
    | succ i =>
      obtain ⟨k2, l2, h2⟩ := HolM.set h i (by simpa using hi) (by simpa using hk) x (by simpa using hx)
      exact ⟨_, _, .hole h2⟩
  | keep hv h =>
    intro i hi hk x hx
    cases i with
    | zero =>
      rcases hx with rfl | ⟨r, hr⟩
      · exact ⟨_, _, .hole h⟩
      · exact ⟨_, _, .keep hr h⟩
    | succ i =>
      obtain ⟨k2, l2, h2⟩ := HolM.set h i (by simpa using hi) (by simpa using hk) x (by simpa using hx)
      exact ⟨_, _, .keep hv h2⟩

/-- At a key that is there, an entry laid in is an entry replaced. -/
theorem putK_set {α : Type} : ∀ {m : List (ByteArray × α)} (_ : RisesK m) {i : Nat} (hi : i < m.length) (a : α), putK m m[i].1 a = m.set i (m[i].1, a)
  | [], _, i, hi, _ => by simp at hi
  | y :: r, hr, i, hi, a => by
    have hne := rises_irrefl hr
    obtain ⟨h1, h2⟩ := List.pairwise_cons.1 hr
    obtain ⟨n1, n2⟩ := List.pairwise_cons.1 hne
    unfold putK
    rw [List.filter_cons]
    cases i with
    | zero =>
      simp only [List.getElem_cons_zero, List.set_cons_zero]
      rw [(keyL_same _ _).2 rfl]
      have e : r.filter (fun p => !(keyL p.1).sameKey (keyL y.1)) = r := List.filter_eq_self.2 fun p hp => by
        cases c : (keyL p.1).sameKey (keyL y.1)
        · rfl
        · exact absurd ((keyL_same _ _).1 c).symm (n1 p hp)
      simp only [Bool.not_true, Bool.false_eq_true, if_false, e]
      cases r with
      | nil => rfl
      | cons z s => unfold insK; rw [if_pos (h1 z (List.mem_cons_self ..))]
    | succ i =>
      have hi' : i < r.length := by simpa using hi
      simp only [List.getElem_cons_succ, List.set_cons_succ]
      have e : (keyL y.1).sameKey (keyL r[i].1) = false := by
        cases c : (keyL y.1).sameKey (keyL r[i].1)
        · rfl
        · exact absurd ((keyL_same _ _).1 c) (n1 _ (List.getElem_mem hi'))
      have hb := before_asymm (h1 _ (List.getElem_mem hi'))
      simp only [e, Bool.not_false, if_true]
      unfold insK
      rw [if_neg (by simp only; rw [hb]; simp)]
      congr 1
      exact putK_set h2 hi' a

/-- A hole at a place of v: there are no more parts than before. -/
theorem hol_upd {v : V} {p : List V} {y : V} (h : WayTo v p y) : ∀ (_ : Good v) (s : List Stp) (j : J), p = s.map Stp.v → HolAt v j → ∃ j', updJ j s .hole = some j' ∧ HolAt v j' ∧ Fine j s .hole := by
  induction h with
  | here v =>
    intro _ s j hs hj
    obtain rfl : s = [] := List.map_eq_nil_iff.1 hs.symm
    exact ⟨_, rfl, .inl rfl, trivial⟩
  | @elem k h t l ks vs p y i hi hw ih =>
    intro g s j hs hj
    cases s with
    | nil => cases hs
    | cons x s =>
      rw [List.map_cons, List.cons.injEq] at hs
      obtain ⟨hx, hs⟩ := hs
      cases x with
      | key k' => exact absurd hx (by simp [Stp.v, numV, strV])
      | idx n =>
        obtain rfl : i = n := numV_inj hx
        obtain ⟨h5, _, _⟩ := g.kinds
        obtain rfl : k = 5 := h5.resolve_right fun e => by rw [e] at hi; simp at hi
        have gi : Good l[i] := (good_parts g).2.1 _ (List.getElem_mem hi)
        rcases hj with rfl | ⟨r, hr⟩
        · exact ⟨_, rfl, .inl rfl, trivial⟩
        · cases hr with
          | leaf h5 => exact absurd rfl h5
          | @arr _ _ _ l' js hl =>
            have hlen := hl.len
            have hij : i < js.length := by omega
            obtain ⟨x', hu, hx', hf⟩ := ih gi s js[i] hs (hl.get i hi hij)
            obtain ⟨l2, h2⟩ := hl.set i hi x' hx'
            have hg : js[i]? = some js[i] := List.getElem?_eq_getElem hij
            refine ⟨.arr (js.set i x'), ?_, .inr ⟨_, .arr h2⟩, fun x hx => ?_⟩
            · simp only [updJ, hg, hu, Option.map_some]
              rw [padJ_in hij]
            · rw [hg] at hx
              cases hx
              exact hf
  | @key k h t l ks vs p y i hk hi hw ih =>
    intro g s j hs hj
    cases s with
    | nil => cases hs
    | cons x s =>
      rw [List.map_cons, List.cons.injEq] at hs
      obtain ⟨hx, hs⟩ := hs
      cases x with
      | idx n => exact absurd hx (by simp [Stp.v, numV, strV])
      | key k' =>
        obtain rfl : ks[i] = k' := strV_inj hx
        obtain ⟨_, h6, hlen⟩ := g.kinds
        obtain rfl : k = 6 := h6.resolve_right fun e => by rw [e] at hk; simp at hk
        have gi : Good vs[i] := (good_parts g).2.2 _ (List.getElem_mem hi)
        rcases hj with rfl | ⟨r, hr⟩
        · exact ⟨_, rfl, .inl rfl, trivial⟩
        · cases hr with
          | leaf _ h6 => exact absurd rfl h6
          | @obj _ _ _ ks' _ vs' m hm =>
            obtain ⟨hkeys, _⟩ := hm.keys
            have hml : m.length = ks.length := by rw [← hkeys]; simp
            have him : i < m.length := by omega
            have hmk : m[i].1 = ks[i] := by
              have : (m.map (·.1))[i]'(by simpa using him) = ks[i] := by simp only [hkeys]
              simpa using this
            have hr : RisesK m := by
              cases g with
              | mk shape half valid list rise vkeys vals =>
                have := keys_rise rise
                rw [← hkeys, List.pairwise_map] at this
                exact this
            obtain ⟨x', hu, hx', hf⟩ := ih gi s m[i].2 hs (hm.get i hi him)
            obtain ⟨k2, l2, h2⟩ := hm.set i hi hk x' hx'
            have hg : getK m ks[i] = some m[i].2 := getK_of (rises_irrefl hr) (by rw [← hmk]; exact List.getElem_mem him)
            refine ⟨.obj (m.set i (ks[i], x')), ?_, .inr ⟨_, .obj h2⟩, fun x hx => ?_⟩
            · simp only [updJ, hg, hu, Option.map_some]
              rw [← hmk, putK_set hr him]
            · rw [hg] at hx
              cases hx
              exact hf

end Go.Proofs.YtpoibibbkjogpaaGreatDoor

namespace Go.Proofs.YtpoibibbkjogpaaGreatDoor
open Go Go.RowKit Go.Maps Go.Deep Go.WideMaps

/-- Blocks outside S stand as they stood. -/
structure Turns (S : Nat → Prop) (w w' : World) : Prop where
  os : w'.os = w.os
  tape : w'.tape = w.tape
  output : w'.output = w.output
  size : w.heap.size ≤ w'.heap.size
  block : ∀ k, k < w.heap.size → ¬ S k → w'.heap[k]? = w.heap[k]?
theorem Turns.refl (S : Nat → Prop) (w : World) : Turns S w w := ⟨rfl, rfl, rfl, Nat.le_refl _, fun _ _ _ => rfl⟩
theorem Turns.trans {S S' : Nat → Prop} {a b c : World} (h : Turns S a b) (k : Turns S' b c) (hS : ∀ q, q < a.heap.size → S' q → S q) : Turns S a c :=
  ⟨k.os.trans h.os, k.tape.trans h.tape, k.output.trans h.output, Nat.le_trans h.size k.size, fun q hq hn => (k.block q (Nat.lt_of_lt_of_le hq h.size) (fun e => hn (hS q hq e))).trans (h.block q hq hn)⟩
theorem Turns.of_grown {w w' : World} {row : Option Nat} (h : w.grownBy w' row) : Turns (fun q => row = some q) w w' :=
  ⟨h.os, h.tape, h.output, h.size, fun q hq hn => h.block q hq (fun e => hn e.symm)⟩
theorem Turns.of_below {w w' : World} (h : Below w.heap.size w w') : Turns (fun _ => False) w w' := ⟨h.os, h.tape, h.output, h.size, fun q hq _ => h.block q hq⟩
theorem Turns.below {S : Nat → Prop} {w w' : World} {B : Nat} (h : Turns S w w') (hB : B ≤ w.heap.size) (hS : ∀ q, S q → B ≤ q) : Below B w w' :=
  ⟨h.os, h.tape, h.output, h.size, fun q hq => h.block q (by omega) (fun e => by have := hS q e; omega)⟩
theorem Turns.set {S : Nat → Prop} {w w' : World} (h : Turns S w w') {a : Addr} (ha : S a.block) (u : Value) : Turns S w (w'.setCell a u) :=
  ⟨h.os, h.tape, h.output, by simpa using h.size, fun q hq hn => by
    rw [← h.block q hq hn]
    exact RowKit.Below.heap_setCell _ _ _ _ (fun e => hn (e ▸ ha))⟩
theorem RepJ.turned {S S' : Nat → Prop} {w w' : World} {j : J} {v : Value} (h : RepJ w S j v) (ht : Turns S' w w') (hS : ∀ q, S q → q < w.heap.size) (hd : ∀ q, S q → S' q → False) : RepJ w' S j v :=
  h.carry fun q hq => ht.block q (hS q hq) (fun e => hd q hq e)

theorem ranges_carry {H : Type} {P : Program} {k : TypeId} {R : Value → Option (DataW H × List MemPlace)} {w w' : World} {b r n : Nat} {D : DataW H} {left : Lit → Bool} {cnt : Nat} (h : w.ranges P k R b r n D left cnt) (hb : w'.heap[b]? = w.heap[b]?) (hr : w'.heap[r]? = w.heap[r]?) : w'.ranges P k R b r n D left cnt := by
  obtain ⟨es, clock, since, seen, c0, h1, F, hs, hD, h2, rest⟩ := h
  exact ⟨es, clock, since, seen, c0, hb.trans h1, F, hs, hD, hr.trans h2, rest⟩

/-- Two rising lists with the same members are one. -/
theorem rises_ext {α : Type} : ∀ {l l' : List (ByteArray × α)}, RisesK l → RisesK l' → (∀ x, x ∈ l ↔ x ∈ l') → l = l'
  | [], [], _, _, _ => rfl
  | [], b :: s, _, _, h => by have := (h b).2 (by simp); simp at this
  | a :: r, [], _, _, h => by have := (h a).1 (by simp); simp at this
  | a :: r, b :: s, h1, h2, h => by
    obtain ⟨a1, a2⟩ := List.pairwise_cons.1 h1
    obtain ⟨b1, b2⟩ := List.pairwise_cons.1 h2
    have e : a = b := by
      rcases List.mem_cons.1 ((h a).1 (by simp)) with e | ha
      · exact e
      · rcases List.mem_cons.1 ((h b).2 (by simp)) with e | hb
        · exact e.symm
        · have := before_asymm (a1 b hb)
          rw [b1 a ha] at this
          cases this
    subst e
    rw [rises_ext a2 b2 fun x => ⟨fun hx => ?_, fun hx => ?_⟩]
    · rcases List.mem_cons.1 ((h x).1 (by simp [hx])) with e | hx'
      · have := a1 x hx
        rw [e, Go.WideShapes.before_irrefl] at this
        cases this
      · exact hx'
    · rcases List.mem_cons.1 ((h x).2 (by simp [hx])) with e | hx'
      · have := b1 x hx
        rw [e, Go.WideShapes.before_irrefl] at this
        cases this
      · exact hx'

theorem entT_del (t : List (ByteArray × Part)) (k : ByteArray) : (DataW.map (entT t)).del (keyL k) = .map (entT (t.filter fun x => !(keyL x.1).sameKey (keyL k))) := by
  show DataW.map (List.filter (fun p => !p.1.sameKey (keyL k)) (entT t)) = _
  unfold entT
  rw [List.filter_map]
  rfl
theorem entT_at {t : List (ByteArray × Part)} {kl : Lit} {v : Value} (h : ∀ z, (DataW.map (entT t)).atKey kl z = .held v) : ∃ x ∈ t, keyL x.1 = kl ∧ x.2.v = v := by
  have h0 := h .nil
  simp only [DataW.atKey] at h0
  cases hf : (entT t).find? (fun p => p.1.sameKey kl) with
  | none => rw [hf] at h0; cases h0
  | some p =>
    rw [hf] at h0
    have h1 := List.mem_of_find?_eq_some hf
    have h2 := List.find?_some hf
    obtain ⟨x, hx, rfl⟩ := List.mem_map.1 h1
    refine ⟨x, hx, WideAt.sameKey_eq h2, ?_⟩
    simpa using h0
theorem entT_has {t : List (ByteArray × Part)} {x : ByteArray × Part} (h : x ∈ t) : Maps.has (DataW.map (entT t)) (keyL x.1) = true := by
  unfold Maps.has
  rw [List.any_eq_true]
  exact ⟨_, List.mem_map.2 ⟨x, h, rfl⟩, (keyL_same _ _).2 rfl⟩
theorem entT_has' {t : List (ByteArray × Part)} {kl : Lit} (h : Maps.has (DataW.map (entT t)) kl = true) : ∃ x ∈ t, keyL x.1 = kl := by
  unfold Maps.has at h
  obtain ⟨p, hp, hs⟩ := List.any_eq_true.1 h
  obtain ⟨x, hx, rfl⟩ := List.mem_map.1 hp
  exact ⟨x, hx, WideAt.sameKey_eq hs⟩

theorem keyL_inj {a b : ByteArray} (h : keyL a = keyL b) : a = b := (keyL_same a b).1 (by rw [h]; exact (keyL_same b b).2 rfl)

/-- What is to come of the entries t0: a hole goes, of a tree with holes there is left what T tells. -/
def Dest (t0 : List (ByteArray × Part)) (T : List (ByteArray × V)) : Prop :=
  (∀ x ∈ t0, (x.2.j = .hole ∧ ∀ y ∈ T, y.1 ≠ x.1) ∨ ∃ v r, Hol v x.2.j r ∧ (x.1, r) ∈ T) ∧ (∀ y ∈ T, ∃ x ∈ t0, x.1 = y.1) ∧ RisesK T

/-- Under way: those that are still to come stand as they stood. -/
structure DelSt (w : World) (t0 : List (ByteArray × Part)) (T : List (ByteArray × V)) (t : List (ByteArray × Part)) (left : Lit → Bool) : Prop where
  parts : ∀ x ∈ t, ∃ x0 ∈ t0, x0.1 = x.1 ∧ x0.2.f = x.2.f ∧ ((left (keyL x.1) = true ∧ x = x0) ∨ (left (keyL x.1) = false ∧ ∃ r, (x.1, r) ∈ T ∧ x.2.j = toJ r))
  reps : ∀ x ∈ t, RepJ w x.2.f x.2.j x.2.v
  there : ∀ x ∈ t0, left (keyL x.1) = true → x ∈ t
  done : ∀ y ∈ T, left (keyL y.1) = false → ∃ x ∈ t, x.1 = y.1

theorem DelSt.start {w : World} {t0 : List (ByteArray × Part)} {T : List (ByteArray × V)} (hd : Dest t0 T) (hr : ∀ x ∈ t0, RepJ w x.2.f x.2.j x.2.v) : DelSt w t0 T t0 (Maps.has (DataW.map (entT t0))) :=
  ⟨fun x hx => ⟨x, hx, rfl, rfl, .inl ⟨entT_has hx, rfl⟩⟩, hr, fun x hx _ => hx, fun y hy hl => by
    obtain ⟨x, hx, e⟩ := hd.2.1 y hy
    rw [← e, entT_has hx] at hl
    cases hl⟩
theorem DelSt.finish {w : World} {t0 t : List (ByteArray × Part)} {T : List (ByteArray × V)} {left : Lit → Bool} (h : DelSt w t0 T t left) (hl : ∀ k, left k = false) (hd : Dest t0 T) (ht : RisesK t) : jOf t = T.map fun y => (y.1, toJ y.2) := by
  have u : ∀ y ∈ T, ∀ y' ∈ T, y.1 = y'.1 → y = y' := fun y hy y' hy' e => by
    by_cases c : y = y'
    · exact c
    · exact absurd e (pair_all (R := fun p q : ByteArray × V => p.1 ≠ q.1) (fun a b h => Ne.symm h) (rises_irrefl hd.2.2) hy hy' c)
  refine rises_ext ?_ ?_ fun p => ⟨fun hp => ?_, fun hp => ?_⟩
  · unfold jOf RisesK
    rw [List.pairwise_map]
    exact ht
  · unfold RisesK
    rw [List.pairwise_map]
    exact hd.2.2
  · obtain ⟨x, hx, rfl⟩ := List.mem_map.1 hp
    obtain ⟨x0, _, _, _, h1 | ⟨_, r, h2, h3⟩⟩ := h.parts x hx
    · rw [hl] at h1; cases h1.1
    · exact List.mem_map.2 ⟨_, h2, by rw [h3]⟩
  · obtain ⟨y, hy, rfl⟩ := List.mem_map.1 hp
    obtain ⟨x, hx, e⟩ := h.done y hy (hl _)
    obtain ⟨x0, _, _, _, h1 | ⟨_, r, h2, h3⟩⟩ := h.parts x hx
    · rw [hl] at h1; cases h1.1
    · have := u _ h2 _ hy e
      refine List.mem_map.2 ⟨x, hx, ?_⟩
      rw [h3, e]
      rw [← this]

theorem struck {left : Lit → Bool} {a k : ByteArray} (h : a ≠ k) : (left (keyL a) && !(keyL a).sameKey (keyL k)) = left (keyL a) := by
  have : (keyL a).sameKey (keyL k) = false := by
    cases c : (keyL a).sameKey (keyL k)
    · rfl
    · exact absurd ((keyL_same _ _).1 c) h
  rw [this]
  simp
theorem struck_self {left : Lit → Bool} {k : ByteArray} : (left (keyL k) && !(keyL k).sameKey (keyL k)) = false := by
  rw [(keyL_same _ _).2 rfl]
  simp
theorem mem_strike {t : List (ByteArray × Part)} {k : ByteArray} {y : ByteArray × Part} : y ∈ t.filter (fun x => !(keyL x.1).sameKey (keyL k)) ↔ y ∈ t ∧ y.1 ≠ k := by
  rw [List.mem_filter]
  constructor
  · rintro ⟨h1, h2⟩
    exact ⟨h1, fun e => by rw [(keyL_same _ _).2 e] at h2; cases h2⟩
  · rintro ⟨h1, h2⟩
    refine ⟨h1, ?_⟩
    cases c : (keyL y.1).sameKey (keyL k)
    · rfl
    · exact absurd ((keyL_same _ _).1 c) h2

/-- A hole is struck out. -/
theorem DelSt.gone {w w' : World} {t0 t : List (ByteArray × Part)} {T : List (ByteArray × V)} {left : Lit → Bool} (h : DelSt w t0 T t left) (hd : Dest t0 T) {x : ByteArray × Part} (hx : x ∈ t) (hl : left (keyL x.1) = true) (hj : x.2.j = .hole)
    (hr : ∀ y ∈ t, y.1 ≠ x.1 → RepJ w' y.2.f y.2.j y.2.v) : DelSt w' t0 T (t.filter fun y => !(keyL y.1).sameKey (keyL x.1)) (fun z => left z && !z.sameKey (keyL x.1)) := by
  have hno : ∀ y ∈ T, y.1 ≠ x.1 := by
    obtain ⟨x0, hx0, e0, _, h1 | ⟨h1, _⟩⟩ := h.parts x hx
    · obtain ⟨_, rfl⟩ := h1
      rcases hd.1 x hx0 with ⟨_, h2⟩ | ⟨v, r, h2, _⟩
      · exact h2
      · have := h2.not
        rw [hj] at this
        cases this
    · rw [hl] at h1; cases h1
  refine ⟨fun y hy => ?_, fun y hy => ?_, fun y hy hly => ?_, fun y hy hly => ?_⟩
  · obtain ⟨h1, h2⟩ := mem_strike.1 hy
    obtain ⟨x0, a1, a2, a3, a4⟩ := h.parts y h1
    refine ⟨x0, a1, a2, a3, ?_⟩
    simp only [struck h2]
    exact a4
  · obtain ⟨h1, h2⟩ := mem_strike.1 hy
    exact hr y h1 h2
  · have hne : y.1 ≠ x.1 := fun e => by simp only [e, struck_self] at hly; cases hly
    simp only [struck hne] at hly
    exact mem_strike.2 ⟨h.there y hy hly, hne⟩
  · have hne := hno y hy
    simp only [struck hne] at hly
    obtain ⟨z, hz, e⟩ := h.done y hy hly
    exact ⟨z, mem_strike.2 ⟨hz, by rw [e]; exact hne⟩, e⟩

/-- A tree with holes has been emptied. -/
theorem DelSt.kept {w w' : World} {t0 t : List (ByteArray × Part)} {T : List (ByteArray × V)} {left : Lit → Bool} (h : DelSt w t0 T t left) {x : ByteArray × Part} (hx : x ∈ t) {r : V} (hT : (x.1, r) ∈ T) {u : Value}
    (hu : RepJ w' x.2.f (toJ r) u) (hr : ∀ y ∈ t, y.1 ≠ x.1 → RepJ w' y.2.f y.2.j y.2.v) : DelSt w' t0 T (putK t x.1 ⟨toJ r, u, x.2.f⟩) (fun z => left z && !z.sameKey (keyL x.1)) := by
  obtain ⟨x0, hx0, e0, ef, _⟩ := h.parts x hx
  refine ⟨fun y hy => ?_, fun y hy => ?_, fun y hy hly => ?_, fun y hy hly => ?_⟩
  · rcases mem_putK.1 hy with rfl | ⟨h1, h2⟩
    · exact ⟨x0, hx0, e0, ef, .inr ⟨struck_self, r, hT, rfl⟩⟩
    · obtain ⟨y0, a1, a2, a3, a4⟩ := h.parts y h1
      refine ⟨y0, a1, a2, a3, ?_⟩
      simp only [struck h2]
      exact a4
  · rcases mem_putK.1 hy with rfl | ⟨h1, h2⟩
    · exact hu
    · exact hr y h1 h2
  · have hne : y.1 ≠ x.1 := fun e => by simp only [e, struck_self] at hly; cases hly
    simp only [struck hne] at hly
    exact mem_putK.2 (.inr ⟨h.there y hy hly, hne⟩)
  · by_cases e : y.1 = x.1
    · exact ⟨_, mem_putK.2 (.inl rfl), e.symm⟩
    · simp only [struck e] at hly
      obtain ⟨z, hz, ez⟩ := h.done y hy hly
      exact ⟨z, mem_putK.2 (.inr ⟨hz, by rw [ez]; exact e⟩), ez⟩

/-- What is to come of a map with holes. -/
theorem dest_of {ks ks' : List ByteArray} {vs vs' : List V} {t0 : List (ByteArray × Part)} (hm : HolM ks vs (jOf t0) ks' vs') (hr : RisesK t0) : Dest t0 (ks'.zip vs') ∧ ∀ x ∈ t0, x.2.j = .hole ∨ ∃ v ∈ vs, ∃ r, Hol v x.2.j r ∧ (x.1, r) ∈ ks'.zip vs' := by
  have key : ∀ (ks : List ByteArray) (vs : List V) (m : List (ByteArray × J)) (ks' : List ByteArray) (vs' : List V), HolM ks vs m ks' vs' → m.Pairwise (fun p q => p.1 ≠ q.1) →
      (∀ p ∈ m, (p.2 = .hole ∧ ∀ y ∈ ks'.zip vs', y.1 ≠ p.1) ∨ ∃ v ∈ vs, ∃ r, Hol v p.2 r ∧ (p.1, r) ∈ ks'.zip vs') ∧ ∀ y ∈ ks'.zip vs', ∃ p ∈ m, p.1 = y.1 := by
    intro ks
    induction ks with
    | nil =>
      intro vs m ks' vs' h _
      cases h
      exact ⟨fun p hp => (by cases hp), fun y hy => (by cases hy)⟩
    | cons k ks ih =>
      intro vs m ks' vs' h hp
      cases h with
      | @hole _ v _ _ vs _ m h =>
        obtain ⟨p1, p2⟩ := List.pairwise_cons.1 hp
        obtain ⟨a1, a2⟩ := ih vs m ks' vs' h p2
        refine ⟨fun p hpm => ?_, fun y hy => ?_⟩
        · rcases List.mem_cons.1 hpm with rfl | hpm
          · refine .inl ⟨rfl, fun y hy e => ?_⟩
            obtain ⟨q, hq, eq⟩ := a2 y hy
            exact p1 q hq (by rw [eq, e])
          · rcases a1 p hpm with h1 | ⟨v', hv', r, h1, h2⟩
            · exact .inl h1
            · exact .inr ⟨v', List.mem_cons_of_mem _ hv', r, h1, h2⟩
        · obtain ⟨q, hq, eq⟩ := a2 y hy
          exact ⟨q, List.mem_cons_of_mem _ hq, eq⟩
      | @keep _ v r j _ ks2 vs vs2 m hv h =>
        obtain ⟨p1, p2⟩ := List.pairwise_cons.1 hp
        obtain ⟨a1, a2⟩ := ih vs m ks2 vs2 h p2
        simp only [List.zip_cons_cons]
        refine ⟨fun p hpm => ?_, fun y hy => ?_⟩
        · rcases List.mem_cons.1 hpm with rfl | hpm
          · exact .inr ⟨v, List.mem_cons_self .., r, hv, List.mem_cons_self ..⟩
          · rcases a1 p hpm with ⟨h1, h2⟩ | ⟨v', hv', r', h1, h2⟩
            · refine .inl ⟨h1, fun y hy => ?_⟩
              rcases List.mem_cons.1 hy with rfl | hy
              · exact p1 p hpm
              · exact h2 y hy
            · exact .inr ⟨v', List.mem_cons_of_mem _ hv', r', h1, List.mem_cons_of_mem _ h2⟩
        · rcases List.mem_cons.1 hy with rfl | hy
          · exact ⟨_, List.mem_cons_self .., rfl⟩
          · obtain ⟨q, hq, eq⟩ := a2 y hy
            exact ⟨q, List.mem_cons_of_mem _ hq, eq⟩
  have hp : (jOf t0).Pairwise (fun p q => p.1 ≠ q.1) := by
    unfold jOf
    rw [List.pairwise_map]
    exact rises_irrefl hr
  obtain ⟨a1, a2⟩ := key ks vs _ ks' vs' hm hp
  have hkeys := hm.keys
  have hsub : ks'.Sublist ks := (holM_rest ks vs _ ks' vs' hm).sub
  have hlen := (holM_rest ks vs _ ks' vs' hm).len
  have hz : (ks'.zip vs').map (·.1) = ks' := List.map_fst_zip (by omega)
  have hrs : RisesK (ks'.zip vs') := by
    have h1 : ks.Pairwise fun a b => (keyL a).before (keyL b) = true := by
      rw [← hkeys.1]
      unfold jOf
      rw [List.map_map, List.pairwise_map]
      exact hr
    have h2 := h1.sublist hsub
    rw [← hz, List.pairwise_map] at h2
    exact h2
  refine ⟨⟨fun x hx => ?_, fun y hy => ?_, hrs⟩, fun x hx => ?_⟩
  · rcases a1 (x.1, x.2.j) (List.mem_map.2 ⟨x, hx, rfl⟩) with h | ⟨v, _, r, h⟩
    · exact .inl h
    · exact .inr ⟨v, r, h⟩
  · obtain ⟨p, hp, e⟩ := a2 y hy
    obtain ⟨x, hx, rfl⟩ := List.mem_map.1 hp
    exact ⟨x, hx, e⟩
  · rcases a1 (x.1, x.2.j) (List.mem_map.2 ⟨x, hx, rfl⟩) with ⟨h, _⟩ | h
    · exact .inl h
    · exact .inr h

end Go.Proofs.YtpoibibbkjogpaaGreatDoor

namespace Go.Proofs.YtpoibibbkjogpaaGreatDoor
open Go Go.RowKit Go.Maps Go.Deep Go.WideMaps

/-- An array's row and its elements, each with its footprint. -/
def RowAt (w : World) (b o N : Nat) (f : Nat → Value) (S : Nat → Prop) (t : List Part) : Prop :=
  S b ∧ w.rowIs b 20 N f ∧ o + t.length ≤ N ∧ (∀ i (hi : i < t.length), f (o + i) = t[i].v) ∧ (∀ x ∈ t, ¬ x.f b ∧ (∀ k, x.f k → S k) ∧ RepJ w x.f x.j x.v) ∧ t.Pairwise OffP
theorem arr_row {w : World} {S : Nat → Prop} {l : List J} {v : Value} (h : RepJ w S (.arr l) v) : ∃ a c t, v = .iface 59 (.slice a t.length c) ∧ l = t.map (·.j) ∧ t.length * 16 ≤ 140737488351232 ∧ t.length ≤ c ∧ c ≤ capMax ∧ (0 < t.length → ∃ b o N f, a = some ⟨b, o, none⟩ ∧ RowAt w b o N f S t) ∧ a ≠ none := by
  cases h with
  | @arr _ _ a c f b o N F hl hc ca own sub dis ra hcb hnn =>
    have hlen : (l.mapIdx fun i j => (⟨j, f (o + i), F i⟩ : Part)).length = l.length := by simp
    have hget : ∀ i (hi : i < l.length), (l.mapIdx fun i j => (⟨j, f (o + i), F i⟩ : Part))[i]'(by rw [hlen]; exact hi) = ⟨l[i], f (o + i), F i⟩ := fun i hi => by simp
    refine ⟨a, c, l.mapIdx fun i j => ⟨j, f (o + i), F i⟩, by rw [hlen], ?_, by rw [hlen]; exact hl, by rw [hlen]; exact hc, hcb, fun h0 => ?_, hnn⟩
    · apply List.ext_getElem
      · simp
      · intro i h1 h2
        simp
    · rw [hlen] at h0
      obtain ⟨e, hb, hrow, hN⟩ := ca h0
      refine ⟨b, o, N, f, e, hb, hrow, by rw [hlen]; exact hN, fun i hi => ?_, fun x hx => ?_, ?_⟩
      · rw [hlen] at hi
        rw [hget i hi]
      · obtain ⟨i, hi, rfl⟩ := List.mem_iff_getElem.1 hx
        rw [hlen] at hi
        rw [hget i hi]
        exact ⟨own i hi, fun k hk => sub i k hi hk, ra i hi⟩
      · rw [List.pairwise_iff_getElem]
        intro i j hi hj hij
        rw [hlen] at hi hj
        rw [hget i hi, hget j hj]
        exact fun k h1 h2 => dis i j k hij hj h1 h2
theorem row_arr {w : World} {S : Nat → Prop} {t : List Part} {b o N c : Nat} {f : Nat → Value} {a : Option Addr} (hl : t.length * 16 ≤ 140737488351232) (hc : t.length ≤ c) (hcb : c ≤ capMax) (h : 0 < t.length → a = some ⟨b, o, none⟩ ∧ RowAt w b o N f S t) (hnn : a ≠ none) :
    RepJ w S (.arr (t.map (·.j))) (.iface 59 (.slice a t.length c)) := by
  have hF : ∀ i (hi : i < t.length), ((t[i]?.map (·.f)).getD (fun _ => False)) = t[i].f := fun i hi => by simp [hi]
  have hlen : (t.map (·.j)).length = t.length := by simp
  have h' : ∀ i, i < t.length → a = some ⟨b, o, none⟩ ∧ RowAt w b o N f S t := fun i hi => h (by omega)
  have := @RepJ.arr w S (t.map (·.j)) a c f b o N (fun i => (t[i]?.map (·.f)).getD (fun _ => False)) (by rw [hlen]; exact hl) (by rw [hlen]; exact hc) (fun h0 => by rw [hlen] at h0; obtain ⟨e, h1, h2, h3, _⟩ := h h0; exact ⟨e, h1, h2, by rw [hlen]; exact h3⟩)
    (fun i hi => by rw [hlen] at hi; obtain ⟨_, _, _, _, _, h5, _⟩ := h' i hi; rw [hF i hi]; exact (h5 _ (List.getElem_mem hi)).1) (fun i k hi hk => by rw [hlen] at hi; obtain ⟨_, _, _, _, _, h5, _⟩ := h' i hi; rw [hF i hi] at hk; exact (h5 _ (List.getElem_mem hi)).2.1 k hk)
    (fun i j k hij hj h1 h2 => by rw [hlen] at hj; obtain ⟨_, _, _, _, _, _, h6⟩ := h' j hj; rw [hF i (by omega)] at h1; rw [hF j hj] at h2; exact List.pairwise_iff_getElem.1 h6 i j (by omega) hj hij k h1 h2)
    (fun i hi => by rw [hlen] at hi; obtain ⟨_, _, _, _, h4, h5, _⟩ := h' i hi; simp only [hF i hi, List.getElem_map]; rw [h4 i hi]; exact (h5 _ (List.getElem_mem hi)).2.2) hcb hnn
  rwa [hlen] at this

/-- Under way: n elements are through; tk is what of them is kept, at the row's head. -/
structure ArrSt (w : World) (b o N : Nat) (f : Nat → Value) (S : Nat → Prop) (t0 : List Part) (l : List V) (l' : List V) (n : Nat) (tk : List Part) : Prop where
  row : w.rowIs b 20 N f
  len : tk.length ≤ n
  heads : ∀ q (hq : q < tk.length), f (o + q) = tk[q].v
  tails : ∀ q (hq : q < t0.length), n ≤ q → f (o + q) = t0[q].v
  kreps : ∀ x ∈ tk, ¬ x.f b ∧ (∀ k, x.f k → S k) ∧ RepJ w x.f x.j x.v
  treps : ∀ q (hq : q < t0.length), n ≤ q → ¬ t0[q].f b ∧ (∀ k, t0[q].f k → S k) ∧ RepJ w t0[q].f t0[q].j t0[q].v
  off : ((tk ++ t0.drop n).map (·.f)).Pairwise fun F G => ∀ k, F k → G k → False
  left : ∃ pre rest, l' = pre ++ rest ∧ HolL (l.drop n) ((t0.map (·.j)).drop n) rest ∧ tk.map (·.j) = pre.map toJ

theorem ArrSt.start {w : World} {b o N : Nat} {f : Nat → Value} {S : Nat → Prop} {t0 : List Part} {l l' : List V} (h : RowAt w b o N f S t0) (hl : HolL l (t0.map (·.j)) l') : ArrSt w b o N f S t0 l l' 0 [] := by
  obtain ⟨h1, h2, h3, h4, h5, h6⟩ := h
  refine ⟨h2, Nat.le_refl _, fun q hq => (by simp at hq), fun q hq _ => h4 q hq, fun x hx => (by cases hx), fun q hq _ => h5 _ (List.getElem_mem hq), ?_, [], l', rfl, hl, rfl⟩
  rw [List.nil_append, List.drop_zero, List.pairwise_map]
  exact h6

/-- The next one: a hole, or a tree with holes. -/
theorem ArrSt.next {w : World} {b o N : Nat} {f : Nat → Value} {S : Nat → Prop} {t0 tk : List Part} {l l' : List V} {n : Nat} (h : ArrSt w b o N f S t0 l l' n tk) (hn : n < t0.length) (hll : l.length = t0.length) :
    (t0[n].j = .hole ∧ ArrSt w b o N f S t0 l l' (n + 1) tk) ∨ ∃ r, Hol (l[n]'(by omega)) t0[n].j r ∧ isHole t0[n].j = false ∧ ∀ (w' : World) (u : Value), RepJ w' t0[n].f (toJ r) u → w'.rowIs b 20 N (fun q => if q = o + tk.length then u else f q) →
      (∀ x : Part, (∀ k, x.f k → t0[n].f k → False) → ¬ x.f b → (∀ k, x.f k → S k) → RepJ w x.f x.j x.v → RepJ w' x.f x.j x.v) → ArrSt w' b o N (fun q => if q = o + tk.length then u else f q) S t0 l l' (n + 1) (tk ++ [⟨toJ r, u, t0[n].f⟩]) := by
  obtain ⟨pre, rest, e1, hH, e2⟩ := h.left
  have hd : t0.drop n = t0[n] :: t0.drop (n + 1) := List.drop_eq_getElem_cons hn
  have hdl : l.drop n = l[n]'(by omega) :: l.drop (n + 1) := List.drop_eq_getElem_cons (by omega)
  have hdj : (t0.map (·.j)).drop n = t0[n].j :: (t0.map (·.j)).drop (n + 1) := by
    rw [List.drop_eq_getElem_cons (by simpa using hn)]
    simp
  have hoff := h.off
  rw [hd] at hoff
  rw [hdl, hdj] at hH
  generalize hjn : t0[n].j = jn at hH
  cases hH with
  | hole hH =>
    refine .inl ⟨rfl, h.row, Nat.le_succ_of_le h.len, h.heads, fun q hq hle => h.tails q hq (by omega), h.kreps, fun q hq hle => h.treps q hq (by omega), ?_, pre, rest, e1, hH, e2⟩
    rw [List.map_append, List.map_cons] at hoff
    rw [List.map_append]
    exact hoff.sublist (List.Sublist.append (List.Sublist.refl _) (List.sublist_cons_self _ _))
  | @keep _ r _ _ rest _ hv hH =>
    refine .inr ⟨r, hv, hv.not, fun w' u hu hrow hcarry => ?_⟩
    have hpair := hoff
    rw [List.map_append, List.map_cons] at hpair
    obtain ⟨p1, p2, p3⟩ := List.pairwise_append.1 hpair
    obtain ⟨p4, p5⟩ := List.pairwise_cons.1 p2
    have hlen := h.len
    refine ⟨hrow, by simp; omega, fun q hq => ?_, fun q hq hle => ?_, fun x hx => ?_, fun q hq hle => ?_, ?_, pre ++ [r], rest, by rw [e1]; simp, hH, by rw [List.map_append, e2]; simp⟩
    · by_cases c : q = tk.length
      · subst c
        simp
      · have hq' : q < tk.length := by simp at hq; omega
        rw [if_neg (by omega), List.getElem_append_left hq']
        exact h.heads q hq'
    · rw [if_neg (by omega)]
      exact h.tails q hq (by omega)
    · rcases List.mem_append.1 hx with hx | hx
      · obtain ⟨h1, h2, h3⟩ := h.kreps x hx
        exact ⟨h1, h2, hcarry x (fun k a b => p3 x.f (List.mem_map.2 ⟨x, hx, rfl⟩) t0[n].f (List.mem_cons_self ..) k a b) h1 h2 h3⟩
      · obtain rfl : x = ⟨toJ r, u, t0[n].f⟩ := by simpa using hx
        obtain ⟨h1, h2, _⟩ := h.treps n hn (Nat.le_refl _)
        exact ⟨h1, h2, hu⟩
    · obtain ⟨h1, h2, h3⟩ := h.treps q hq (by omega)
      have hmem : t0[q].f ∈ (t0.drop (n + 1)).map (·.f) := by
        refine List.mem_map.2 ⟨t0[q], ?_, rfl⟩
        rw [List.mem_drop_iff_getElem]
        exact ⟨q - (n + 1), by omega, by congr 1; omega⟩
      exact ⟨h1, h2, hcarry t0[q] (fun k a b => p4 _ hmem k b a) h1 h2 h3⟩
    · rw [List.append_assoc, List.map_append]
      simpa using hpair

theorem ArrSt.done {w : World} {b o N : Nat} {f : Nat → Value} {S : Nat → Prop} {t0 tk : List Part} {l l' : List V} (h : ArrSt w b o N f S t0 l l' t0.length tk) (hll : l.length = t0.length) : tk.map (·.j) = toJL l' := by
  obtain ⟨pre, rest, e1, hH, e2⟩ := h.left
  have e3 : l.drop t0.length = [] := by rw [← hll, List.drop_length]
  have e4 : (t0.map (·.j)).drop t0.length = [] := List.drop_of_length_le (by simp)
  rw [e3, e4] at hH
  cases hH
  rw [e1, e2, List.append_nil, toJL_eq]

end Go.Proofs.YtpoibibbkjogpaaGreatDoor
