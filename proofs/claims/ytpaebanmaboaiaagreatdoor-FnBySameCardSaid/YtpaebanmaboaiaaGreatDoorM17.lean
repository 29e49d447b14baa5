/- What reads as a datum of type impl.Value is a value of RepV. -/
import Derived.Test.YtpaebanmaboaiaaGreatDoorM01
import Derived.ChangeArms
import Derived.SizedLaws
namespace Go.Proofs.YtpaebanmaboaiaaGreatDoor
open Go Go.RowKit
theorem spot_none {w : World} {a : Addr} {v : Value} (h : w.cell? a = some v) : a.spot = none ∧ a.block < w.heap.size := by
  unfold World.cell? at h
  split at h
  · rename_i hb
    split at h
    · cases h
    · rename_i hs
      refine ⟨by simpa using hs, ?_⟩
      exact (Array.getElem?_eq_some_iff.1 hb).1
  · cases h
theorem add_none (b o i : Nat) : (⟨b, o, none⟩ : Addr).add i = ⟨b, o + i, none⟩ := by
  unfold Addr.add
  split
  · subst_vars; rfl
  · rfl
theorem weights_mem_all {H : Type} {P : Program} {e : TypeId} : ∀ {l : List (DataW H)} {i : Nat} {d : DataW H}, l[i]? = some d → ∀ n ∈ d.weights P e, n ∈ DataW.weightsAll P e l
  | [], _, _, h, _, _ => by simp at h
  | d0 :: r, 0, d, h, n, hn => by
    simp only [List.getElem?_cons_zero, Option.some.injEq] at h
    subst h
    simp only [DataW.weightsAll, List.mem_append]
    exact .inl hn
  | d0 :: r, i + 1, d, h, n, hn => by
    simp only [List.getElem?_cons_succ] at h
    simp only [DataW.weightsAll, List.mem_append]
    exact .inr (weights_mem_all h n hn)
theorem cells_value : Tryz.prog.cellsOf 26 = 6 := by kernel_rfl
theorem cells_string : Tryz.prog.cellsOf 9 = 1 := by kernel_rfl
theorem bytes_value : Tryz.prog.bytesOf 26 = 104 := by kernel_rfl
theorem bytes_string : Tryz.prog.bytesOf 9 = 16 := by kernel_rfl
theorem cells_kind : Tryz.prog.cellsOf 22 = 1 := by kernel_rfl
theorem cells_int : Tryz.prog.cellsOf 3 = 1 := by kernel_rfl
theorem cells_values : Tryz.prog.cellsOf 23 = 1 := by kernel_rfl
theorem cells_strings : Tryz.prog.cellsOf 24 = 1 := by kernel_rfl
section
variable {H : Type} {enc : TypeId × Value → H} {W : World} {sp : Nat → Bool}
theorem rows_of {n len : Nat} {a : Addr} {elems : List (DataW H × List MemPlace)} (hlen : elems.length = len)
    (hel : ∀ i, i < len → (W.cells? 0 (a.add (i * 6)) 6).bind (DataW.trod enc Tryz.prog W 0 sp true n 26) = elems[i]?)
    (ih : ∀ (i : Nat) (e : DataW H × List MemPlace), elems[i]? = some e → ∀ cs, DataW.trod enc Tryz.prog W 0 sp true n 26 cs = some e → ∃ v, RepV W W.heap.size v cs) :
    ∃ (l : List V) (C : Nat → List Value), l.length = len ∧ (0 < len → ∃ b o, a = ⟨b, o, none⟩ ∧ b < W.heap.size ∧ ∀ i, i < len → CellsAt W b (o + i * 6) (C i)) ∧
      ∀ i (hi : i < l.length), RepV W W.heap.size l[i] (C i) := by
  have each : ∀ i : Fin len, ∃ p : V × List Value, W.cells? 0 (a.add (i.1 * 6)) 6 = some p.2 ∧ RepV W W.heap.size p.1 p.2 := by
    intro i
    have h1 := hel i.1 i.2
    have h2 : elems[i.1]? = some (elems[i.1]'(by rw [hlen]; exact i.2)) := List.getElem?_eq_getElem _
    rw [h2, Option.bind_eq_some_iff] at h1
    obtain ⟨cs, hc, ht⟩ := h1
    obtain ⟨v, hv⟩ := ih i.1 _ h2 cs ht
    exact ⟨(v, cs), hc, hv⟩
  obtain ⟨F, hF⟩ := Classical.axiomOfChoice each
  refine ⟨List.ofFn fun i => (F i).1, fun i => if h : i < len then (F ⟨i, h⟩).2 else [], by simp, fun h0 => ?_, fun i hi => ?_⟩
  · obtain ⟨_, h6, hc⟩ := World.cells?_some (hF ⟨0, h0⟩).1
    have c0 := hc 0 (by omega)
    rw [List.getElem?_eq_getElem (by omega)] at c0
    simp [Addr.add] at c0
    obtain ⟨s0, hb⟩ := spot_none c0
    refine ⟨a.block, a.off, ?_, hb, fun i hi => ?_⟩
    · obtain ⟨b, o, s⟩ := a
      simp only at s0
      rw [s0]
    · have ea : a = ⟨a.block, a.off, none⟩ := by
        obtain ⟨b, o, s⟩ := a
        simp only at s0
        rw [s0]
      obtain ⟨_, h6, hc⟩ := World.cells?_some (hF ⟨i, hi⟩).1
      intro j hj
      simp only [dif_pos hi] at hj ⊢
      have := hc j (by omega)
      rw [ea, add_none, add_none, List.getElem?_eq_getElem (by omega)] at this
      exact this
  · have hi' : i < len := by simpa using hi
    simp only [List.getElem_ofFn, dif_pos hi']
    exact (hF ⟨i, hi'⟩).2
theorem keys_of {n len : Nat} {a : Addr} {elems : List (DataW H × List MemPlace)} (hlen : elems.length = len)
    (hel : ∀ i, i < len → (W.cells? 0 (a.add (i * 1)) 1).bind (DataW.trod enc Tryz.prog W 0 sp true n 9) = elems[i]?)
    (hw : ∀ (i : Nat) (e : DataW H × List MemPlace), elems[i]? = some e → ∀ m ∈ e.1.weights Tryz.prog 9, m ≤ reachBytes) :
    ∃ (l : List ByteArray), l.length = len ∧ (0 < len → ∃ b o, a = ⟨b, o, none⟩ ∧ b < W.heap.size ∧ ∀ i (hi : i < l.length), W.cell? ⟨b, o + i, none⟩ = some (.string l[i])) ∧
      ∀ s ∈ l, s.size ≤ 140737488351232 := by
  have each : ∀ i : Fin len, ∃ s : ByteArray, W.cells? 0 (a.add (i.1 * 1)) 1 = some [.string s] ∧ s.size ≤ 140737488351232 := by
    intro i
    have h1 := hel i.1 i.2
    have h2 : elems[i.1]? = some (elems[i.1]'(by rw [hlen]; exact i.2)) := List.getElem?_eq_getElem _
    rw [h2, Option.bind_eq_some_iff] at h1
    obtain ⟨cs, hc, ht⟩ := h1
    obtain ⟨s, rfl, e, _⟩ := DataW.trod_string Tryz.underlying9 ht
    refine ⟨s, hc, ?_⟩
    have := hw i.1 _ h2 s.size (by rw [e]; simp [DataW.weights])
    exact this
  obtain ⟨F, hF⟩ := Classical.axiomOfChoice each
  refine ⟨List.ofFn fun i => F i, by simp, fun h0 => ?_, fun s hs => ?_⟩
  · have c0 := (World.cells?_some (hF ⟨0, h0⟩).1).2.2 0 (by omega)
    have c0 : W.cell? a = some (.string (F ⟨0, h0⟩)) := by simpa [Addr.add] using c0
    obtain ⟨s0, hb⟩ := spot_none c0
    have ea : a = ⟨a.block, a.off, none⟩ := by
      obtain ⟨b, o, s⟩ := a
      simp only at s0
      rw [s0]
    refine ⟨a.block, a.off, ea, hb, fun i hi => ?_⟩
    have hi' : i < len := by simpa using hi
    have := (World.cells?_some (hF ⟨i, hi'⟩).1).2.2 0 (by omega)
    rw [ea, add_none, add_none, Nat.mul_one, Nat.add_zero] at this
    simpa using this
  · obtain ⟨i, rfl⟩ := List.mem_ofFn.1 hs
    exact (hF i).2
set_option maxRecDepth 10000 in
theorem rep_of_trod : ∀ (fuel : Nat) (cs : List Value) (x : DataW H × List MemPlace), DataW.trod enc Tryz.prog W 0 sp true fuel 26 cs = some x →
    (∀ m ∈ x.1.weights Tryz.prog 26, m ≤ reachBytes) → ∃ v, RepV W W.heap.size v cs := by
  intro fuel
  induction fuel using Nat.strongRecOn with
  | _ fuel ih =>
  intro cs x htr hw
  obtain ⟨xs, n, rfl, hx, h6, hlen, hf⟩ := DataW.trod_struct Tryz.underlying26 htr
  rw [cells_value] at h6
  match cs, h6 with
  | [c0, c1, c2, c3, c4, c5], _ =>
  match xs, hlen with
  | [x0, x1, x2, x3, x4, x5], _ =>
  have f0 : DataW.trod enc Tryz.prog W 0 sp true n 22 (([c0, c1, c2, c3, c4, c5].drop 0).take (Tryz.prog.cellsOf 22)) = some x0 := hf 0 _ rfl
  rw [cells_kind] at f0
  have f1 : DataW.trod enc Tryz.prog W 0 sp true n 3 (([c0, c1, c2, c3, c4, c5].drop 1).take (Tryz.prog.cellsOf 3)) = some x1 := hf 1 _ rfl
  rw [cells_int] at f1
  have f2 : DataW.trod enc Tryz.prog W 0 sp true n 9 (([c0, c1, c2, c3, c4, c5].drop 2).take (Tryz.prog.cellsOf 9)) = some x2 := hf 2 _ rfl
  rw [cells_string] at f2
  have f3 : DataW.trod enc Tryz.prog W 0 sp true n 23 (([c0, c1, c2, c3, c4, c5].drop 3).take (Tryz.prog.cellsOf 23)) = some x3 := hf 3 _ rfl
  rw [cells_values] at f3
  have f4 : DataW.trod enc Tryz.prog W 0 sp true n 24 (([c0, c1, c2, c3, c4, c5].drop 4).take (Tryz.prog.cellsOf 24)) = some x4 := hf 4 _ rfl
  rw [cells_strings] at f4
  have f5 : DataW.trod enc Tryz.prog W 0 sp true n 23 (([c0, c1, c2, c3, c4, c5].drop 5).take (Tryz.prog.cellsOf 23)) = some x5 := hf 5 _ rfl
  rw [cells_values] at f5
  have wt : ∀ (j : Nat) (t : TypeId) (d : DataW H), [22, 3, 9, 23, 24, 23][j]? = some t → [x0.1, x1.1, x2.1, x3.1, x4.1, x5.1][j]? = some d →
      ∀ m ∈ d.weights Tryz.prog t, m ≤ reachBytes := by
    intro j t d ht hd m hm
    refine hw m ?_
    rw [hx]
    simp only [DataW.weights, Tryz.underlying26]
    exact DataW.weights_mem_each ht hd m hm
  obtain ⟨k, e0, _, k1⟩ := DataW.trod_int Tryz.underlying22 f0
  obtain ⟨h, e1, _, h1⟩ := DataW.trod_int Tryz.underlying3 f1
  obtain ⟨t, e2, q2, _⟩ := DataW.trod_string Tryz.underlying9 f2
  cases e0; cases e1; cases e2
  have ht : t.size ≤ 140737488351232 := wt 2 _ _ rfl rfl t.size (by rw [q2]; simp [DataW.weights])
  have hk : -9223372036854775808 ≤ k ∧ k ≤ 9223372036854775807 := by simpa [Lit.wf, IntKind.min, IntKind.max, IntKind.signed, IntKind.bits] using k1
  have hh : -9223372036854775808 ≤ h ∧ h ≤ 9223372036854775807 := by simpa [Lit.wf, IntKind.min, IntKind.max, IntKind.signed, IntKind.bits] using h1
  have list : ∀ (c : Value) (y : DataW H × List MemPlace), DataW.trod enc Tryz.prog W 0 sp true n 23 [c] = some y → (∀ m ∈ y.1.weights Tryz.prog 23, m ≤ reachBytes) →
      ∃ (l : List V) (la : Option Addr) (lc : Nat) (C : Nat → List Value), c = .slice la l.length lc ∧ l.length * 104 ≤ 140737488351232 ∧
        (0 < l.length → ∃ b o, la = some ⟨b, o, none⟩ ∧ b < W.heap.size ∧ ∀ i, i < l.length → CellsAt W b (o + i * 6) (C i)) ∧ (∀ i (hi : i < l.length), RepV W W.heap.size l[i] (C i)) ∧ l.length ≤ lc := by
    intro c y hy hwy
    rcases DataW.trod_slice Tryz.underlying23 hy with ⟨e, _⟩ | ⟨a, len, cap, elems, rest, m, rfl, e, q, _, hlc, _, hl, hel, _⟩
    · cases e
      exact ⟨[], _, _, fun _ => [], rfl, by simp, fun h0 => absurd h0 (by simp), fun i hi => absurd hi (by simp), Nat.le_refl 0⟩
    · cases e
      rw [cells_value] at hel
      have hww : ∀ (i : Nat) (e : DataW H × List MemPlace), elems[i]? = some e → ∀ m ∈ e.1.weights Tryz.prog 26, m ≤ reachBytes := by
        intro i e he m hm
        refine hwy m ?_
        rw [q]
        simp only [DataW.weights, Tryz.underlying23, List.mem_cons, List.mem_append]
        exact .inr (.inl (weights_mem_all (i := i) (by rw [List.getElem?_map, he]; rfl) m hm))
      obtain ⟨l, C, rfl, hc, hr⟩ := rows_of hl hel (fun i e he cs hcs => ih m (by omega) cs e hcs (hww i e he))
      refine ⟨l, _, _, C, rfl, ?_, fun h0 => ?_, hr, by omega⟩
      · have := hwy ((elems.length + rest.length) * 104) (by rw [q]; simp [DataW.weights, Tryz.underlying23, bytes_value])
        have e : reachBytes = 140737488351232 := rfl
        rw [hl] at this
        omega
      · obtain ⟨b, o, rfl, hb, hcs⟩ := hc h0
        exact ⟨b, o, rfl, hb, hcs⟩
  obtain ⟨l, la, lc, C, rfl, hl, cl, rl, hlc⟩ := list c3 x3 f3 (wt 3 _ _ rfl rfl)
  obtain ⟨vs, va, vc, D, rfl, hvs, cv, rv, _⟩ := list c5 x5 f5 (wt 5 _ _ rfl rfl)
  have keys : ∃ (ks : List ByteArray) (ka : Option Addr) (kc : Nat), c4 = .slice ka ks.length kc ∧ ks.length * 16 ≤ 140737488351232 ∧ (∀ s ∈ ks, s.size ≤ 140737488351232) ∧
      (0 < ks.length → ∃ b o, ka = some ⟨b, o, none⟩ ∧ b < W.heap.size ∧ ∀ i (hi : i < ks.length), W.cell? ⟨b, o + i, none⟩ = some (.string ks[i])) := by
    have hwy := wt 4 _ _ rfl rfl
    rcases DataW.trod_slice Tryz.underlying24 f4 with ⟨e, _⟩ | ⟨a, len, cap, elems, rest, m, rfl, e, q, _, _, _, hl, hel, _⟩
    · cases e
      exact ⟨[], _, _, rfl, by simp, fun s hs => absurd hs (by simp), fun h0 => absurd h0 (by simp)⟩
    · cases e
      rw [cells_string] at hel
      have hww : ∀ (i : Nat) (e : DataW H × List MemPlace), elems[i]? = some e → ∀ m ∈ e.1.weights Tryz.prog 9, m ≤ reachBytes := by
        intro i e he m hm
        refine hwy m ?_
        rw [q]
        simp only [DataW.weights, Tryz.underlying24, List.mem_cons, List.mem_append]
        exact .inr (.inl (weights_mem_all (i := i) (by rw [List.getElem?_map, he]; rfl) m hm))
      obtain ⟨ks, rfl, hc, hs⟩ := keys_of hl hel hww
      refine ⟨ks, _, _, rfl, ?_, hs, fun h0 => ?_⟩
      · have := hwy ((elems.length + rest.length) * 16) (by rw [q]; simp [DataW.weights, Tryz.underlying24, bytes_string])
        have e : reachBytes = 140737488351232 := rfl
        rw [hl] at this
        omega
      · obtain ⟨b, o, rfl, hb, hcs⟩ := hc h0
        exact ⟨b, o, rfl, hb, hcs⟩
  obtain ⟨ks, ka, kc, rfl, hks, hs, ck⟩ := keys
  exact ⟨_, .mk C D hk hh ht hl hks hvs hs cl rl ck cv rv hlc⟩
end
end Go.Proofs.YtpaebanmaboaiaaGreatDoor
