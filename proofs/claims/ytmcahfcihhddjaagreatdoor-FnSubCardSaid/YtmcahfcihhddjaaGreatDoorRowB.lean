/- Rows of impl.Value of a call's own whose elements lie in memory that came in. No function is walked here. -/
import Derived.Test.YtmcahfcihhddjaaGreatDoorFromGo2
namespace Go.Proofs.YtmcahfcihhddjaaGreatDoor
open Go Go.RowKit Go.Maps Go.Deep

def RowB (w : World) (B base : Nat) (v : Value) (l : List V) : Prop :=
  ∃ (C : Nat → List Value), w.ownsRow base 26 6 v l.length (flat C l.length) ∧ ∀ i (hi : i < l.length), RepV w B l[i] (C i)

theorem RowB.nil (w : World) (B base : Nat) : RowB w B base (.slice none 0 0) [] := ⟨fun _ => [], World.ownsRow_nil _ _ _ _, fun i hi => by simp at hi⟩

theorem kept_row0 {w w' : World} {base : Nat} {e : TypeId} {size : Nat} {v : Value} {n : Nat} {xs : List Value} (h : w.ownsRow base e size v n xs) (hg : w.grownBy w' none) : w'.ownsRow base e size v n xs := by
  refine h.kept hg ?_
  cases v.ownBlock <;> simp

theorem RowB.below {w w' : World} {B base : Nat} {v : Value} {l : List V} (h : RowB w B base v l) (hb : Below w.heap.size w w') (hB : B ≤ w.heap.size) : RowB w' B base v l := by
  obtain ⟨C, ho, hr⟩ := h
  exact ⟨C, kept_row0 ho (below_grown hb none), fun i hi => (hr i hi).carry (hb.mono hB) (Nat.le_refl _)⟩

theorem RowB.step {w w' : World} {B base : Nat} {v v' : Value} {l : List V} {x : V} {cs : List Value} {C : Nat → List Value}
    (hr : ∀ i (hi : i < l.length), RepV w B l[i] (C i)) (hx : RepV w B x cs) (hB : B ≤ base) (hB2 : B ≤ w.heap.size) (hv : ∀ g, v.ownBlock = some g → base ≤ g)
    (hown : w'.ownsRow base 26 6 v' (l.length + 1) (flat C l.length ++ cs)) (hg : w.grownBy w' v.ownBlock) : RowB w' B base v' (l ++ [x]) := by
  have hb : Below B w w' := (Below.refl B w).grown hg hB2 (fun q hq => by have := hv q hq; omega)
  refine ⟨fun i => if i < l.length then C i else cs, ?_, ?_⟩
  · rw [List.length_append, List.length_singleton]
    simp only [flat]
    rw [if_neg (by omega), flat_same (C' := C) (fun i hi => by rw [if_pos hi])]
    exact hown
  · intro i hi
    rw [List.length_append, List.length_singleton] at hi
    by_cases e : i < l.length
    · simp only [e, if_true]
      rw [List.getElem_append_left e]
      exact (hr i e).carry hb (Nat.le_refl _)
    · obtain rfl : i = l.length := by omega
      simp only [Nat.lt_irrefl, if_false]
      rw [List.getElem_append_right (by omega)]
      simp only [Nat.sub_self, List.getElem_cons_zero]
      exact hx.carry hb (Nat.le_refl _)

theorem RowB.parts {w : World} {B base : Nat} {v : Value} {l : List V} (h : RowB w B base v l) :
    ∃ (la : Option Addr) (lc : Nat) (C : Nat → List Value), v = .slice la l.length lc ∧
      (0 < l.length → ∃ b o, la = some ⟨b, o, none⟩ ∧ (base ≤ b ∧ b < w.heap.size) ∧ ∀ i, i < l.length → CellsAt w b (o + i * 6) (C i)) ∧
      ∀ i (hi : i < l.length), RepV w B l[i] (C i) := by
  obtain ⟨C, hown, hr⟩ := h
  have h6 : ∀ i, i < l.length → (C i).length = 6 := fun i hi => (hr i hi).toS.six
  rcases hown.2 with ⟨e, h0⟩ | ⟨g, cap, cur, e, hb, hg, _⟩
  · exact ⟨none, 0, C, by rw [e, h0], fun h => by omega, hr⟩
  · refine ⟨some ⟨g, 0, none⟩, cap, C, e, fun _ => ⟨g, 0, rfl, ⟨hb, (Array.getElem?_eq_some_iff.1 hg).1⟩, fun i hi j hj => ?_⟩, hr⟩
    have hj6 : j < 6 := by have := h6 i hi; omega
    have hc := hown.cells (g := g) (by rw [e]; rfl) (i * 6 + j) (C i)[j] (by rw [flat_get h6 i j hi hj6, List.getElem?_eq_getElem hj])
    rw [addr_add] at hc
    rw [Nat.zero_add]
    exact hc

theorem RowB.list {w : World} {B base : Nat} {v : Value} {l : List V} (h : RowB w B base v l) (hl : l.length * 104 ≤ 140737488351232) :
    ∃ la lc, v = .slice la l.length lc ∧ RepS w (fun k => k < B ∨ (base ≤ k ∧ k < w.heap.size)) (.mk 5 0 ⟨#[]⟩ l [] []) [.int .i64 5, .int .i64 0, .string ⟨#[]⟩, .slice la l.length lc, .slice none 0 0, .slice none 0 0] := by
  obtain ⟨la, lc, C, e, cl, rl⟩ := h.parts
  refine ⟨la, lc, e, .mk (ks := []) (vs := []) C C (by omega) (by omega) (Nat.zero_le _ : (⟨#[]⟩ : ByteArray).size ≤ _) hl (by simp) (by simp) (fun s hs => by simp at hs) (fun h0 => ?_) (fun i hi => (rl i hi).toS.mono fun k hk => .inl hk) (fun h => by simp at h) (fun h => by simp at h) (fun i hi => by simp at hi)⟩
  obtain ⟨b, o, e, hb, hc⟩ := cl h0
  exact ⟨b, o, e, .inr hb, hc⟩

end Go.Proofs.YtmcahfcihhddjaaGreatDoor
