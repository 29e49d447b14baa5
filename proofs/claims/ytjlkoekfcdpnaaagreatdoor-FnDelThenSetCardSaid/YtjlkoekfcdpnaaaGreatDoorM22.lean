/- What reads as a datum of type []impl.Value is a row of values. -/
import Derived.Test.YtjlkoekfcdpnaaaGreatDoorM19
namespace Go.Proofs.YtjlkoekfcdpnaaaGreatDoor
open Go Go.RowKit
section
variable {H : Type} {enc : TypeId × Value → H} {W : World} {sp : Nat → Bool}
theorem list_of_trod {fuel : Nat} {c : Value} {y : DataW H × List MemPlace} (hy : DataW.trod enc Tryz.prog W 0 (fun _ => true) true fuel 23 [c] = some y) (hwy : ∀ m ∈ y.1.weights Tryz.prog 23, m ≤ reachBytes) :
    ∃ (l : List V) (la : Option Addr) (lc : Nat) (C : Nat → List Value), c = .slice la l.length lc ∧ l.length * 104 ≤ 140737488351232 ∧
      (0 < l.length → ∃ b o, la = some ⟨b, o, none⟩ ∧ b < W.heap.size ∧ ∀ i, i < l.length → CellsAt W b (o + i * 6) (C i)) ∧ (∀ i (hi : i < l.length), RepV W W.heap.size l[i] (C i)) ∧ l.length ≤ lc := by
  rcases DataW.trod_slice Tryz.underlying23 hy with ⟨e, _⟩ | ⟨a, len, cap, elems, rest, m, rfl, e, q, _, hlc, _, hl, hel, _⟩
  · cases e
    exact ⟨[], _, _, fun _ => [], rfl, by simp, fun h0 => absurd h0 (by simp), fun i hi => absurd hi (by simp), Nat.le_refl 0⟩
  · cases e
    rw [cells_value] at hel
    have hww : ∀ (i : Nat) (e : DataW H × List MemPlace), elems[i]? = some e → ∀ m ∈ e.1.weights Tryz.prog 26, m ≤ reachBytes := by
      intro i e he m hm
      refine hwy m ?_
      rw [q]
      simp only [DataW.weights, Tryz.underlying23, List.mem_cons, List.mem_append]
      exact .inr (.inl (weights_mem_all (i := i) (by rw [List.getElem?_map, he]; rfl) m hm))
    obtain ⟨l, C, rfl, hc, hr⟩ := rows_of hl hel (fun i e he cs hcs => rep_of_trod m cs e hcs (hww i e he))
    refine ⟨l, _, _, C, rfl, ?_, fun h0 => ?_, hr, by omega⟩
    · have := hwy ((elems.length + rest.length) * 104) (by rw [q]; simp [DataW.weights, Tryz.underlying23, bytes_value])
      have e : reachBytes = 140737488351232 := rfl
      rw [hl] at this
      omega
    · obtain ⟨b, o, rfl, hb, hcs⟩ := hc h0
      exact ⟨b, o, rfl, hb, hcs⟩
end
end Go.Proofs.YtjlkoekfcdpnaaaGreatDoor
