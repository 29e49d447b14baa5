/- Plain: what spec.Fit says of a value. -/
import Derived.Test.YtmcahfcihhddjaaGreatDoorVal
namespace Go.Proofs.YtmcahfcihhddjaaGreatDoor
open Go Go.RowKit

mutual
theorem look_good : ∀ (v : V) (deep : Int) (s : Lk), (lookV v deep s).bad = false → Good v ∧ s.bad = false
  | .mk k h t l ks vs, deep, s, hb => by
    unfold lookV at hb
    split at hb
    · rename_i e
      rw [e] at hb
      cases hb
    · obtain ⟨hm, hv, hr, hk⟩ := look_goodM none ks vs deep _ hb
      obtain ⟨hl, hs⟩ := look_goodL l deep _ hm
      obtain ⟨hs, _, hval⟩ := Lk.str_bad hs
      obtain ⟨hs, hhalf⟩ := (Lk.want_bad _ _).1 hs
      obtain ⟨hs, hshape⟩ := (Lk.want_bad _ _).1 hs
      have hlen : ks.length = vs.length := by
        simp only [shapeB, Bool.and_eq_true, beq_iff_eq] at hshape
        exact hshape.2
      exact ⟨.mk hshape hhalf hval hl (fun i hi => (hr hlen).2 i hi) (fun i hi => hk hlen i hi) (fun i hi => hv hlen i hi), (Lk.part_bad hs).1⟩
theorem look_goodL : ∀ (l : List V) (deep : Int) (s : Lk), (lookL l deep s).bad = false → (∀ i (hi : i < l.length), Good l[i]) ∧ s.bad = false
  | [], _, s, hb => ⟨fun i hi => absurd hi (by simp), by unfold lookL at hb; exact hb⟩
  | v :: r, deep, s, hb => by
    unfold lookL at hb
    split at hb
    · rename_i e
      rw [e] at hb
      cases hb
    · rename_i e
      obtain ⟨hr, hs⟩ := look_goodL r deep _ hb
      obtain ⟨hv, _⟩ := look_good v _ _ hs
      refine ⟨fun i hi => ?_, by simpa using e⟩
      cases i with
      | zero => exact hv
      | succ j => exact hr j (by simpa using hi)
theorem look_goodM : ∀ (p : Option ByteArray) (ks : List ByteArray) (vs : List V) (deep : Int) (s : Lk), (lookM p ks vs deep s).bad = false →
    s.bad = false ∧ (ks.length = vs.length → ∀ i (hi : i < vs.length), Good vs[i]) ∧
    (ks.length = vs.length → (∀ (h0 : 0 < ks.length), riseB p ks[0] = true) ∧ ∀ i (hi : i + 1 < ks.length), Op.bytesLess ks[i].toList ks[i + 1].toList = true) ∧
    (ks.length = vs.length → ∀ i (hi : i < ks.length), Lib.validD ks[i].data.toList = true)
  | p, [], vs, deep, s, hb => by
    unfold lookM at hb
    refine ⟨hb, fun e i hi => ?_, fun e => ⟨fun h0 => absurd h0 (by simp), fun i hi => absurd hi (by simp)⟩, fun e i hi => absurd hi (by simp)⟩
    simp at e
    omega
  | p, k :: ks, [], deep, s, hb => by
    unfold lookM at hb
    exact ⟨hb, fun e => by simp at e, fun e => by simp at e, fun e => by simp at e⟩
  | p, k :: ks, v :: vs, deep, s, hb => by
    unfold lookM at hb
    split at hb
    · rename_i e
      rw [e] at hb
      cases hb
    · rename_i e
      obtain ⟨hm, hv, hr, hk⟩ := look_goodM (some k) ks vs deep _ hb
      obtain ⟨gv, hs⟩ := look_good v _ _ hm
      obtain ⟨hs, hrise⟩ := (Lk.want_bad _ _).1 hs
      obtain ⟨_, _, hval⟩ := Lk.str_bad hs
      refine ⟨by simpa using e, fun e i hi => ?_, fun e => ⟨fun _ => hrise, fun i hi => ?_⟩, fun e i hi => ?_⟩
      · have e' : ks.length = vs.length := by simpa using e
        cases i with
        | zero => exact gv
        | succ j => exact hv e' j (by simpa using hi)
      · have e' : ks.length = vs.length := by simpa using e
        cases i with
        | zero => exact (hr e').1 (by simpa using hi)
        | succ j => exact (hr e').2 j (by simpa using hi)
      · have e' : ks.length = vs.length := by simpa using e
        cases i with
        | zero => exact hval
        | succ j => exact hk e' j (by simpa using hi)
end

theorem fit_good {v : V} (h : fitB v = true) : Good v :=
  (look_good v 0 _ (by simpa [fitB] using h)).1

end Go.Proofs.YtmcahfcihhddjaaGreatDoor
