/- Contract of impl.mapFromGo: the rows that it grows. No function is walked here. -/
/- A region that draws its order: an operation that only reads may be taken first, where what it reads stands behind each operation that may come before it. (Beside the library's OrdersHeld: the condition may differ from operation to operation.) No program in sight. -/
import Derived.Test.YtiphcojcdegnkaaGreatDoorM12
import Derived.Test.YtiphcojcdegnkaaGreatDoorM13
import Derived.Deep.AppendLies
import Derived.OrdersHeld
namespace Go.Proofs.YtiphcojcdegnkaaGreatDoor
open Go Go.RowKit Go.Maps Go.Deep

/-- kv is a row of the keys, vv one of the values, both of the call's own; the values lie beside both. -/
def MapRows (w : World) (lo : Nat) (kv vv : Value) (ks : List ByteArray) (vs : List V) : Prop :=
  ∃ (C : Nat → List Value) (F : Nat → Nat → Prop), w.ownsRow lo 9 1 kv ks.length (ks.map .string) ∧ w.ownsRow lo 26 6 vv vs.length (flat C vs.length) ∧ (∀ i (hi : i < vs.length), RepS w (F i) vs[i] (C i)) ∧
    (∀ i k, i < vs.length → F i k → lo ≤ k ∧ k < w.heap.size ∧ vv.ownBlock ≠ some k ∧ kv.ownBlock ≠ some k) ∧ ∀ g, kv.ownBlock = some g → vv.ownBlock ≠ some g

theorem MapRows.nil (w : World) (lo : Nat) : MapRows w lo (.slice none 0 0) (.slice none 0 0) [] [] :=
  ⟨fun _ => [], fun _ _ => False, World.ownsRow_nil _ _ _ _, World.ownsRow_nil _ _ _ _, fun i hi => by simp at hi, fun _ _ hi => by simp at hi, fun g e => by cases e⟩

theorem kept_row {w w' : World} {row : Option Nat} {base : Nat} {e : TypeId} {size : Nat} {v : Value} {n : Nat} {xs : List Value} (h : w.ownsRow base e size v n xs) (hg : w.grownBy w' row) (hr : ∀ k, row = some k → k < base) : w'.ownsRow base e size v n xs := by
  refine h.kept hg ?_
  cases hv : v.ownBlock with
  | none => exact .inl rfl
  | some b =>
    refine .inr fun e => ?_
    have := h.lt b hv
    have := hr b e.symm
    omega

theorem MapRows.kept {w w' : World} {lo : Nat} {kv vv : Value} {ks : List ByteArray} {vs : List V} (h : MapRows w lo kv vv ks vs) (row : Option Nat) (hg : w.grownBy w' row) (hr : ∀ k, row = some k → k < lo) : MapRows w' lo kv vv ks vs := by
  obtain ⟨C, F, hk, hv, hr1, hF, hd⟩ := h
  refine ⟨C, F, kept_row hk hg hr, kept_row hv hg hr, fun i hi => (hr1 i hi).carry fun k hk => ?_, fun i k hi hk => ?_, hd⟩
  · obtain ⟨h1, h2, _⟩ := hF i k hi hk
    exact hg.block k h2 (fun e => by have := hr k e.symm; omega)
  · obtain ⟨h1, h2, h3⟩ := hF i k hi hk
    exact ⟨h1, by have := hg.size; omega, h3⟩

theorem MapRows.rows {w : World} {lo : Nat} {kv vv : Value} {ks : List ByteArray} {vs : List V} (h : MapRows w lo kv vv ks vs) : w.ownsRow lo 9 1 kv ks.length (ks.map .string) ∧ RowS w lo lo vv vs := by
  obtain ⟨C, F, hk, hv, hr1, hF, _⟩ := h
  exact ⟨hk, C, F, hv, hr1, fun i k hi hk => ⟨(hF i k hi hk).1, (hF i k hi hk).2.1, (hF i k hi hk).2.2.1⟩⟩

/-- Both rows are appended to, the keys' first. -/
theorem MapRows.step {W X1 w1 X2 w5 : World} {lo : Nat} {kv vv : Value} {ks : List ByteArray} {vs : List V} {C : Nat → List Value} {F : Nat → Nat → Prop} {k : ByteArray} {x : V} {cs : List Value} {S : Nat → Prop} {g1 c1 g2 c2 : Nat}
    (hr1 : ∀ i (hi : i < vs.length), RepS W (F i) vs[i] (C i)) (hF : ∀ i k, i < vs.length → F i k → lo ≤ k ∧ k < W.heap.size ∧ vv.ownBlock ≠ some k ∧ kv.ownBlock ≠ some k) (hd : ∀ g, kv.ownBlock = some g → vv.ownBlock ≠ some g)
    (hlv : ∀ g, vv.ownBlock = some g → g < W.heap.size)
    (hx : RepS W S x cs) (hS : ∀ k, S k → lo ≤ k ∧ k < W.heap.size ∧ vv.ownBlock ≠ some k ∧ kv.ownBlock ≠ some k)
    (gx : W.grownBy X1 none) (ga : X1.grownBy w1 kv.ownBlock) (gy : w1.grownBy X2 none) (gb : X2.grownBy w5 vv.ownBlock)
    (ho1 : w1.ownsRow lo 9 1 (.slice (some ⟨g1, 0, none⟩) (ks.length + 1) c1) (ks.length + 1) (ks.map .string ++ [.string k])) (hat1 : kv.ownBlock = some g1 ∨ g1 = X1.heap.size)
    (ho2 : w5.ownsRow lo 26 6 (.slice (some ⟨g2, 0, none⟩) (vs.length + 1) c2) (vs.length + 1) (flat C vs.length ++ cs)) (hat2 : vv.ownBlock = some g2 ∨ g2 = X2.heap.size) :
    MapRows w5 lo (.slice (some ⟨g1, 0, none⟩) (ks.length + 1) c1) (.slice (some ⟨g2, 0, none⟩) (vs.length + 1) c2) (ks ++ [k]) (vs ++ [x]) := by
  have s1 := gx.size
  have s2 := ga.size
  have s3 := gy.size
  have s4 := gb.size
  have hlt1 : g1 < w1.heap.size := (ho1.lt g1 rfl).2
  have same : ∀ q, q < W.heap.size → vv.ownBlock ≠ some q → kv.ownBlock ≠ some q → w5.heap[q]? = W.heap[q]? := fun q hq h1 h2 =>
    (gb.block q (by omega) (fun e => h1 e.symm)).trans ((gy.block q (by omega) (by simp)).trans ((ga.block q (by omega) (fun e => h2 e.symm)).trans (gx.block q hq (by simp))))
  have new1 : ∀ q, q < W.heap.size → kv.ownBlock ≠ some q → g1 ≠ q := fun q hq h e => by
    rcases hat1 with h' | h'
    · exact h (by rw [h', e])
    · omega
  have new2 : ∀ q, q < W.heap.size → vv.ownBlock ≠ some q → g2 ≠ q := fun q hq h e => by
    rcases hat2 with h' | h'
    · exact h (by rw [h', e])
    · omega
  have key : ∀ q, lo ≤ q ∧ q < W.heap.size ∧ vv.ownBlock ≠ some q ∧ kv.ownBlock ≠ some q → lo ≤ q ∧ q < w5.heap.size ∧ (Value.slice (some ⟨g2, 0, none⟩) (vs.length + 1) c2).ownBlock ≠ some q ∧ (Value.slice (some ⟨g1, 0, none⟩) (ks.length + 1) c1).ownBlock ≠ some q :=
    fun q ⟨h1, h2, h3, h4⟩ => ⟨h1, by omega, by simpa [Value.ownBlock] using new2 q h2 h3, by simpa [Value.ownBlock] using new1 q h2 h4⟩
  have hne : vv.ownBlock ≠ some g1 := by
    intro e
    have hv := hlv g1 e
    rcases hat1 with h' | h'
    · exact hd g1 h' e
    · omega
  have ho1' : w5.ownsRow lo 9 1 (.slice (some ⟨g1, 0, none⟩) (ks.length + 1) c1) (ks.length + 1) (ks.map .string ++ [.string k]) :=
    (ho1.kept gy (.inr (by simp [Value.ownBlock]))).kept gb (.inr (by simp only [Value.ownBlock]; exact fun e => hne e.symm))
  have hd' : g1 ≠ g2 := by
    intro e
    rcases hat2 with h' | h'
    · exact hne (by rw [e]; exact h')
    · omega
  refine ⟨fun i => if i < vs.length then C i else cs, fun i => if i < vs.length then F i else S, ?_, ?_, ?_, ?_, ?_⟩
  · rw [List.length_append, List.length_singleton, List.map_append]
    exact ho1'
  · rw [List.length_append, List.length_singleton]
    simp only [flat]
    rw [if_neg (by omega), flat_same (C' := C) (fun i hi => by rw [if_pos hi])]
    exact ho2
  · intro i hi
    rw [List.length_append, List.length_singleton] at hi
    by_cases e : i < vs.length
    · simp only [e, if_true]
      rw [List.getElem_append_left e]
      exact (hr1 i e).carry fun q hq => same q (hF i q e hq).2.1 (hF i q e hq).2.2.1 (hF i q e hq).2.2.2
    · obtain rfl : i = vs.length := by omega
      simp only [Nat.lt_irrefl, if_false]
      rw [List.getElem_append_right (by omega)]
      simp only [Nat.sub_self, List.getElem_cons_zero]
      exact hx.carry fun q hq => same q (hS q hq).2.1 (hS q hq).2.2.1 (hS q hq).2.2.2
  · intro i q hi hq
    rw [List.length_append, List.length_singleton] at hi
    by_cases e : i < vs.length
    · simp only [e, if_true] at hq
      exact key q (hF i q e hq)
    · simp only [e, if_false] at hq
      exact key q (hS q hq)
  · intro g e
    simp only [Value.ownBlock, Option.some.injEq] at e
    subst e
    simp only [Value.ownBlock, ne_eq, Option.some.injEq]
    exact fun e => hd' e.symm

end Go.Proofs.YtiphcojcdegnkaaGreatDoor

namespace Go.Proofs.YtiphcojcdegnkaaGreatDoor
open Go

theorem set_cs {α : Type} : (∀ (a v : α) (l : List α), (a :: l).set 0 v = v :: l) ∧ ∀ (a v : α) (l : List α) (n : Nat), (a :: l).set (n + 1) v = a :: l.set n v :=
  ⟨fun _ _ _ => List.set_cons_zero, fun _ _ _ _ => List.set_cons_succ⟩

section
variable {P : Program} {ops : Array Oper} {Q : Exit → Act → World → Prop} {md : Region.Mode} {S : Nat → World → Prop} {T : World → Prop}

/-- Whatever order is picked from here on; behind operation i stands S i. -/
def wpAnyG (P : Program) (md : Region.Mode) (ops : Array Oper) (Q : Exit → Act → World → Prop) (S : Nat → World → Prop) : Nat → Array Bool → Act → World → Prop
  | 0, listed, a, w => Region.ready md ops listed = [] ∧ Q .normal a w
  | fuel + 1, listed, a, w => (Region.ready md ops listed = [] → Q .normal a w) ∧
    ∀ i, i ∈ Region.ready md ops listed → wpOp P ops Q i (fun a' w' => S i w' ∧ wpAnyG P md ops Q S fuel (listed.setIfInBounds i true) a' w') a w

theorem wpAny_of_G : ∀ (fuel : Nat) (listed : Array Bool) (a : Act) (w : World), wpAnyG P md ops Q S fuel listed a w → wpAny P md ops Q fuel listed a w := by
  intro fuel
  induction fuel with
  | zero => exact fun _ _ _ h => h
  | succ fuel ih => exact fun listed a w h => ⟨h.1, fun i hi => wpOp_mono (fun a' w' h' => ih _ a' w' h'.2) (h.2 i hi)⟩

theorem wpAnyG_first {i : Nat} {oi : Oper} {v : Value} (hi : ops[i]? = some oi) (hsel : ∀ (j : Nat) (o : Oper) cs b, ops[j]? = some o → o.op ≠ .select cs b)
    (hQ : ∀ c a w, Q (.panic c) (a.put oi.dst v) w → Q (.panic c) a w) (hTi : ∀ w, T w → S i w) :
    ∀ (fuel : Nat) (listed : Array Bool) (a : Act) (w : World),
      (∀ j oj, ops[j]? = some oj → j ≠ i → listed.getD j true = false → (∀ e ∈ oj.after, Region.binds md e = true → e.on ≠ i) → oi.apart ops oj = true ∧ ∀ w', S j w' → T w') →
      i ∈ Region.ready md ops listed → YieldsIf P ops T oi v a → T w →
      wpAnyG P md ops Q S fuel (listed.setIfInBounds i true) (a.put oi.dst v) w → wpAnyG P md ops Q S (fuel + 1) listed a w := by
  intro fuel
  induction fuel with
  | zero =>
    intro listed a w _ hr hy hT H
    refine ⟨fun h0 => absurd (h0 ▸ hr) (by simp), fun j hj => ?_⟩
    rcases Nat.decEq j i with hne | rfl
    · have := ready_mono hj hne
      rw [H.1] at this
      cases this
    · exact hy.wpOp hi hT ⟨hTi _ hT, H⟩
  | succ fuel ih =>
    intro listed a w hfree hr hy hT H
    refine ⟨fun h0 => absurd (h0 ▸ hr) (by simp), fun j hj => ?_⟩
    rcases Nat.decEq j i with hne | rfl
    · obtain ⟨hun, oj, hoj, hall⟩ := mem_ready.1 hj
      have hiun := (mem_ready.1 hr).1
      have hwait : ∀ e ∈ oj.after, Region.binds md e = true → e.on ≠ i := by
        intro e he hb heq
        have h1 := hall e he hb
        rw [heq] at h1
        by_cases hlt : i < listed.size
        · simp [hlt] at hiun h1
          rw [hiun] at h1
          cases h1
        · simp [Array.getElem?_eq_none (by omega : listed.size ≤ i)] at h1
      obtain ⟨hap, hST⟩ := hfree j oj hoj hne hun hwait
      refine wpOp_mono ?_ (wpOp_putIf hoj hap (fun cs b => hsel i oi cs b hi) (fun cs b => hsel j oj cs b hoj) hQ hy (H.2 j (ready_mono hj hne)))
      rintro a' w' ⟨hy', hS', hrest⟩
      refine ⟨hS', ih (listed.setIfInBounds j true) a' w' ?_ (ready_mono hr (fun e => hne e.symm)) hy' (hST _ hS') ?_⟩
      · intro k ok hk hki hkun hno
        refine hfree k ok hk hki ?_ hno
        rcases Nat.decEq j k with hjk | rfl
        · rw [getD_set_ne true hjk] at hkun; exact hkun
        · exact hun
      · rw [Array.setIfInBounds_comm _ _ hne]
        exact hrest
    · exact hy.wpOp hi hT ⟨hTi _ hT, H⟩

theorem wpAnyG_all {rs : List Nat} {fuel : Nat} {listed : Array Bool} {a : Act} {w : World} (hr : Region.ready md ops listed = rs) (hne : rs ≠ [])
    (h : ∀ i ∈ rs, wpOp P ops Q i (fun a' w' => S i w' ∧ wpAnyG P md ops Q S fuel (listed.setIfInBounds i true) a' w') a w) : wpAnyG P md ops Q S (fuel + 1) listed a w :=
  ⟨fun h0 => absurd (hr ▸ h0) hne, fun i hi => h i (hr ▸ hi)⟩

theorem wpAnyG_done {listed : Array Bool} {a : Act} {w : World} (hr : Region.ready md ops listed = []) (h : Q .normal a w) : wpAnyG P md ops Q S 0 listed a w := ⟨hr, h⟩

/-- The operation at place i runs to a value. -/
theorem wpOp_value {i : Nat} {o : Oper} {v : Value} {w w' : World} {a : Act} {K : Act → World → Prop} (hi : ops[i]? = some o) (hg : o.guard = none) (hrun : (execOp a.eval o).run P w = .ok (.value v) w') (h : K (a.put o.dst v) w') : wpOp P ops Q i K a w := by
  have hw : Region.wanted o (yielded ops a.tmps) = true := by simp [Region.wanted, hg]
  unfold wpOp
  simp only [hi, hw, if_true, Oper.wp, hrun, Oper.upon]
  exact .inl h
theorem wpOp_skip {i : Nat} {o : Oper} {w w' : World} {a : Act} {K : Act → World → Prop} (hi : ops[i]? = some o) (hg : o.guard = none) (hrun : (execOp a.eval o).run P w = .ok .skip w') (h : K (a.put o.dst undef) w') : wpOp P ops Q i K a w := by
  have hw : Region.wanted o (yielded ops a.tmps) = true := by simp [Region.wanted, hg]
  unfold wpOp
  simp only [hi, hw, if_true, Oper.wp, hrun, Oper.upon]
  exact .inl h

/-- Taken first, the side conditions by one look at the region's edges. -/
def freeOf (md : Region.Mode) (ops : Array Oper) (listed : Array Bool) (i : Nat) (oi : Oper) (ok : Nat → Bool) : Bool :=
  (List.range ops.size).all fun j => match ops[j]? with
    | none => true
    | some oj => j == i || listed.getD j true || oj.after.any (fun e => Region.binds md e && e.on == i) || (oi.apart ops oj && ok j)

theorem wpAnyG_take {i : Nat} {oi : Oper} {v : Value} {fuel : Nat} {listed : Array Bool} {a : Act} {w : World} (ok : Nat → Bool) (hi : ops[i]? = some oi) (hs : Region.noSelect ops = true)
    (hf : freeOf md ops listed i oi ok = true) (hr : (Region.ready md ops listed).contains i = true) (hQ : ∀ c a w, Q (.panic c) (a.put oi.dst v) w → Q (.panic c) a w)
    (hok : ∀ j, ok j = true → ∀ w', S j w' → T w') (hTi : ∀ w, T w → S i w) (hg : oi.guard = none) (hy : ∀ w', T w' → (execOp a.eval oi).run P w' = .ok (.value v) w') (hT : T w)
    (h : wpAnyG P md ops Q S fuel (listed.setIfInBounds i true) (a.put oi.dst v) w) : wpAnyG P md ops Q S (fuel + 1) listed a w := by
  refine wpAnyG_first hi (Region.noSelect_spec hs) hQ hTi fuel listed a w ?_ (by simpa using hr) (.inl ⟨by simp [Region.wanted, hg], hy⟩) hT h
  intro j oj hoj hne hun hno
  have hlt : j < ops.size := (Array.getElem?_eq_some_iff.1 hoj).1
  have := List.all_eq_true.1 hf j (by simpa using hlt)
  simp only [hoj] at this
  have e1 : (j == i) = false := by simpa using hne
  have e2 : (oj.after.any fun e => Region.binds md e && e.on == i) = false := by
    rw [Array.any_eq_false']
    intro e he hc
    simp only [Bool.and_eq_true, beq_iff_eq] at hc
    exact hno e he hc.1 hc.2
  rw [e1, hun, e2] at this
  simp only [Bool.false_or, Bool.and_eq_true] at this
  exact ⟨this.1, hok j this.2⟩

end
end Go.Proofs.YtiphcojcdegnkaaGreatDoor
