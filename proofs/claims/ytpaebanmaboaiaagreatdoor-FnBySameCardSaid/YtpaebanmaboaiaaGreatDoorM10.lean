/- A region that draws its order: an operation that only reads may be taken first, where what it reads stands behind each operation that may come before it. (Beside the library's OrdersHeld: the condition may differ from operation to operation.) No program in sight. -/
import Derived.OrdersHeld
namespace Go.Proofs.YtpaebanmaboaiaaGreatDoor
open Go
theorem set_cs {α : Type} : (∀ (a v : α) (l : List α), (a :: l).set 0 v = v :: l) ∧ ∀ (a v : α) (l : List α) (n : Nat), (a :: l).set (n + 1) v = a :: l.set n v :=
  ⟨fun _ _ _ => List.set_cons_zero, fun _ _ _ _ => List.set_cons_succ⟩
section
variable {P : Program} {ops : Array Oper} {Q : Exit → Act → World → Prop} {md : Region.Mode} {S : Nat → World → Prop} {T : World → Prop}
/-- Whatever order is picked from here on; behind operation i stands S i. -/
def wpAnyG (P : Program) (md : Region.Mode) (ops : Array Oper) (Q : Exit → Act → World → Prop) (S : Nat → World → Prop) : Nat → Array Bool → Act → World → Prop
  | 0, listed, a, w => Region.ready md ops listed = [] ∧ Q .normal a w
  | fuel + 1, listed, a, w => (Region.ready md ops listed = [] → Q .normal a w) ∧
    ∀ i, i ∈ Region.ready md ops listed → wpOp P ops Q i (fun a' w' => S i w' ∧ wpAnyG P md ops Q S fuel (listed.setIfInBounds i true) a' w') a w
theorem wpAny_of_G : ∀ (fuel : Nat) (listed : Array Bool) (a : Act) (w : World), wpAnyG P md ops Q S fuel listed a w → wpAny P md ops Q fuel listed a w := by
  intro fuel
  induction fuel with
  | zero => exact fun _ _ _ h => h
  | succ fuel ih => exact fun listed a w h => ⟨h.1, fun i hi => wpOp_mono (fun a' w' h' => ih _ a' w' h'.2) (h.2 i hi)⟩
theorem wpAnyG_first {i : Nat} {oi : Oper} {v : Value} (hi : ops[i]? = some oi) (hsel : ∀ (j : Nat) (o : Oper) cs b, ops[j]? = some o → o.op ≠ .select cs b)
    (hQ : ∀ c a w, Q (.panic c) (a.put oi.dst v) w → Q (.panic c) a w) (hTi : ∀ w, T w → S i w) :
    ∀ (fuel : Nat) (listed : Array Bool) (a : Act) (w : World),
      (∀ j oj, ops[j]? = some oj → j ≠ i → listed.getD j true = false → (∀ e ∈ oj.after, Region.binds md e = true → e.on ≠ i) → oi.apart ops oj = true ∧ ∀ w', S j w' → T w') →
      i ∈ Region.ready md ops listed → YieldsIf P ops T oi v a → T w →
      wpAnyG P md ops Q S fuel (listed.setIfInBounds i true) (a.put oi.dst v) w → wpAnyG P md ops Q S (fuel + 1) listed a w := by
  intro fuel
  induction fuel with
  | zero =>
    intro listed a w _ hr hy hT H
    refine ⟨fun h0 => absurd (h0 ▸ hr) (by simp), fun j hj => ?_⟩
    rcases Nat.decEq j i with hne | rfl
    · have := ready_mono hj hne
      rw [H.1] at this
      cases this
    · exact hy.wpOp hi hT ⟨hTi _ hT, H⟩
  | succ fuel ih =>
    intro listed a w hfree hr hy hT H
    refine ⟨fun h0 => absurd (h0 ▸ hr) (by simp), fun j hj => ?_⟩
    rcases Nat.decEq j i with hne | rfl
    · obtain ⟨hun, oj, hoj, hall⟩ := mem_ready.1 hj
      have hiun := (mem_ready.1 hr).1
      have hwait : ∀ e ∈ oj.after, Region.binds md e = true → e.on ≠ i := by
        intro e he hb heq
        have h1 := hall e he hb
        rw [heq] at h1
        by_cases hlt : i < listed.size
        · simp [hlt] at hiun h1
          rw [hiun] at h1
          cases h1
        · simp [Array.getElem?_eq_none (by omega : listed.size ≤ i)] at h1
      obtain ⟨hap, hST⟩ := hfree j oj hoj hne hun hwait
      refine wpOp_mono ?_ (wpOp_putIf hoj hap (fun cs b => hsel i oi cs b hi) (fun cs b => hsel j oj cs b hoj) hQ hy (H.2 j (ready_mono hj hne)))
      rintro a' w' ⟨hy', hS', hrest⟩
      refine ⟨hS', ih (listed.setIfInBounds j true) a' w' ?_ (ready_mono hr (fun e => hne e.symm)) hy' (hST _ hS') ?_⟩
      · intro k ok hk hki hkun hno
        refine hfree k ok hk hki ?_ hno
        rcases Nat.decEq j k with hjk | rfl
        · rw [getD_set_ne true hjk] at hkun; exact hkun
        · exact hun
      · rw [Array.setIfInBounds_comm _ _ hne]
        exact hrest
    · exact hy.wpOp hi hT ⟨hTi _ hT, H⟩
theorem wpAnyG_all {rs : List Nat} {fuel : Nat} {listed : Array Bool} {a : Act} {w : World} (hr : Region.ready md ops listed = rs) (hne : rs ≠ [])
    (h : ∀ i ∈ rs, wpOp P ops Q i (fun a' w' => S i w' ∧ wpAnyG P md ops Q S fuel (listed.setIfInBounds i true) a' w') a w) : wpAnyG P md ops Q S (fuel + 1) listed a w :=
  ⟨fun h0 => absurd (hr ▸ h0) hne, fun i hi => h i (hr ▸ hi)⟩
theorem wpAnyG_done {listed : Array Bool} {a : Act} {w : World} (hr : Region.ready md ops listed = []) (h : Q .normal a w) : wpAnyG P md ops Q S 0 listed a w := ⟨hr, h⟩
/-- The operation at place i runs to a value. -/
theorem wpOp_value {i : Nat} {o : Oper} {v : Value} {w w' : World} {a : Act} {K : Act → World → Prop} (hi : ops[i]? = some o) (hg : o.guard = none) (hrun : (execOp a.eval o).run P w = .ok (.value v) w') (h : K (a.put o.dst v) w') : wpOp P ops Q i K a w := by
  have hw : Region.wanted o (yielded ops a.tmps) = true := by simp [Region.wanted, hg]
  unfold wpOp
  simp only [hi, hw, if_true, Oper.wp, hrun, Oper.upon]
  exact .inl h
theorem wpOp_skip {i : Nat} {o : Oper} {w w' : World} {a : Act} {K : Act → World → Prop} (hi : ops[i]? = some o) (hg : o.guard = none) (hrun : (execOp a.eval o).run P w = .ok .skip w') (h : K (a.put o.dst undef) w') : wpOp P ops Q i K a w := by
  have hw : Region.wanted o (yielded ops a.tmps) = true := by simp [Region.wanted, hg]
  unfold wpOp
  simp only [hi, hw, if_true, Oper.wp, hrun, Oper.upon]
  exact .inl h
/-- Taken first, the side conditions by one look at the region's edges. -/
def freeOf (md : Region.Mode) (ops : Array Oper) (listed : Array Bool) (i : Nat) (oi : Oper) (ok : Nat → Bool) : Bool :=
  (List.range ops.size).all fun j => match ops[j]? with
    | none => true
    | some oj => j == i || listed.getD j true || oj.after.any (fun e => Region.binds md e && e.on == i) || (oi.apart ops oj && ok j)
theorem wpAnyG_take {i : Nat} {oi : Oper} {v : Value} {fuel : Nat} {listed : Array Bool} {a : Act} {w : World} (ok : Nat → Bool) (hi : ops[i]? = some oi) (hs : Region.noSelect ops = true)
    (hf : freeOf md ops listed i oi ok = true) (hr : (Region.ready md ops listed).contains i = true) (hQ : ∀ c a w, Q (.panic c) (a.put oi.dst v) w → Q (.panic c) a w)
    (hok : ∀ j, ok j = true → ∀ w', S j w' → T w') (hTi : ∀ w, T w → S i w) (hg : oi.guard = none) (hy : ∀ w', T w' → (execOp a.eval oi).run P w' = .ok (.value v) w') (hT : T w)
    (h : wpAnyG P md ops Q S fuel (listed.setIfInBounds i true) (a.put oi.dst v) w) : wpAnyG P md ops Q S (fuel + 1) listed a w := by
  refine wpAnyG_first hi (Region.noSelect_spec hs) hQ hTi fuel listed a w ?_ (by simpa using hr) (.inl ⟨by simp [Region.wanted, hg], hy⟩) hT h
  intro j oj hoj hne hun hno
  have hlt : j < ops.size := (Array.getElem?_eq_some_iff.1 hoj).1
  have := List.all_eq_true.1 hf j (by simpa using hlt)
  simp only [hoj] at this
  have e1 : (j == i) = false := by simpa using hne
  have e2 : (oj.after.any fun e => Region.binds md e && e.on == i) = false := by
    rw [Array.any_eq_false']
    intro e he hc
    simp only [Bool.and_eq_true, beq_iff_eq] at hc
    exact hno e he hc.1 hc.2
  rw [e1, hun, e2] at this
  simp only [Bool.false_or, Bool.and_eq_true] at this
  exact ⟨this.1, hok j this.2⟩
end
end Go.Proofs.YtpaebanmaboaiaaGreatDoor
