/- Contract of impl.mapFromGo: the rows that it grows. No function is walked here. -/
import Derived.Test.YtmcahfcihhddjaaGreatDoorFromGo2
import Derived.Test.YtmcahfcihhddjaaGreatDoorIter
import Derived.Deep.AppendLies
namespace Go.Proofs.YtmcahfcihhddjaaGreatDoor
open Go Go.RowKit Go.Maps Go.Deep

/-- kv is a row of the keys, vv one of the values, both of the call's own; the values lie beside both. -/
def MapRows (w : World) (lo : Nat) (kv vv : Value) (ks : List ByteArray) (vs : List V) : Prop :=
  ∃ (C : Nat → List Value) (F : Nat → Nat → Prop), w.ownsRow lo 9 1 kv ks.length (ks.map .string) ∧ w.ownsRow lo 26 6 vv vs.length (flat C vs.length) ∧ (∀ i (hi : i < vs.length), RepS w (F i) vs[i] (C i)) ∧
    (∀ i k, i < vs.length → F i k → lo ≤ k ∧ k < w.heap.size ∧ vv.ownBlock ≠ some k ∧ kv.ownBlock ≠ some k) ∧ ∀ g, kv.ownBlock = some g → vv.ownBlock ≠ some g

theorem MapRows.nil (w : World) (lo : Nat) : MapRows w lo (.slice none 0 0) (.slice none 0 0) [] [] :=
  ⟨fun _ => [], fun _ _ => False, World.ownsRow_nil _ _ _ _, World.ownsRow_nil _ _ _ _, fun i hi => by simp at hi, fun _ _ hi => by simp at hi, fun g e => by cases e⟩

theorem kept_row {w w' : World} {row : Option Nat} {base : Nat} {e : TypeId} {size : Nat} {v : Value} {n : Nat} {xs : List Value} (h : w.ownsRow base e size v n xs) (hg : w.grownBy w' row) (hr : ∀ k, row = some k → k < base) : w'.ownsRow base e size v n xs := by
  refine h.kept hg ?_
  cases hv : v.ownBlock with
  | none => exact .inl rfl
  | some b =>
    refine .inr fun e => ?_
    have := h.lt b hv
    have := hr b e.symm
    omega

theorem MapRows.kept {w w' : World} {lo : Nat} {kv vv : Value} {ks : List ByteArray} {vs : List V} (h : MapRows w lo kv vv ks vs) (row : Option Nat) (hg : w.grownBy w' row) (hr : ∀ k, row = some k → k < lo) : MapRows w' lo kv vv ks vs := by
  obtain ⟨C, F, hk, hv, hr1, hF, hd⟩ := h
  refine ⟨C, F, kept_row hk hg hr, kept_row hv hg hr, fun i hi => (hr1 i hi).carry fun k hk => ?_, fun i k hi hk => ?_, hd⟩
  · obtain ⟨h1, h2, _⟩ := hF i k hi hk
    exact hg.block k h2 (fun e => by have := hr k e.symm; omega)
  · obtain ⟨h1, h2, h3⟩ := hF i k hi hk
    exact ⟨h1, by have := hg.size; omega, h3⟩

theorem MapRows.rows {w : World} {lo : Nat} {kv vv : Value} {ks : List ByteArray} {vs : List V} (h : MapRows w lo kv vv ks vs) : w.ownsRow lo 9 1 kv ks.length (ks.map .string) ∧ RowS w lo lo vv vs := by
  obtain ⟨C, F, hk, hv, hr1, hF, _⟩ := h
  exact ⟨hk, C, F, hv, hr1, fun i k hi hk => ⟨(hF i k hi hk).1, (hF i k hi hk).2.1, (hF i k hi hk).2.2.1⟩⟩

/-- Both rows are appended to, the keys' first. -/
theorem MapRows.step {W X1 w1 X2 w5 : World} {lo : Nat} {kv vv : Value} {ks : List ByteArray} {vs : List V} {C : Nat → List Value} {F : Nat → Nat → Prop} {k : ByteArray} {x : V} {cs : List Value} {S : Nat → Prop} {g1 c1 g2 c2 : Nat}
    (hr1 : ∀ i (hi : i < vs.length), RepS W (F i) vs[i] (C i)) (hF : ∀ i k, i < vs.length → F i k → lo ≤ k ∧ k < W.heap.size ∧ vv.ownBlock ≠ some k ∧ kv.ownBlock ≠ some k) (hd : ∀ g, kv.ownBlock = some g → vv.ownBlock ≠ some g)
    (hlv : ∀ g, vv.ownBlock = some g → g < W.heap.size)
    (hx : RepS W S x cs) (hS : ∀ k, S k → lo ≤ k ∧ k < W.heap.size ∧ vv.ownBlock ≠ some k ∧ kv.ownBlock ≠ some k)
    (gx : W.grownBy X1 none) (ga : X1.grownBy w1 kv.ownBlock) (gy : w1.grownBy X2 none) (gb : X2.grownBy w5 vv.ownBlock)
    (ho1 : w1.ownsRow lo 9 1 (.slice (some ⟨g1, 0, none⟩) (ks.length + 1) c1) (ks.length + 1) (ks.map .string ++ [.string k])) (hat1 : kv.ownBlock = some g1 ∨ g1 = X1.heap.size)
    (ho2 : w5.ownsRow lo 26 6 (.slice (some ⟨g2, 0, none⟩) (vs.length + 1) c2) (vs.length + 1) (flat C vs.length ++ cs)) (hat2 : vv.ownBlock = some g2 ∨ g2 = X2.heap.size) :
    MapRows w5 lo (.slice (some ⟨g1, 0, none⟩) (ks.length + 1) c1) (.slice (some ⟨g2, 0, none⟩) (vs.length + 1) c2) (ks ++ [k]) (vs ++ [x]) := by
  have s1 := gx.size
  have s2 := ga.size
  have s3 := gy.size
  have s4 := gb.size
  have hlt1 : g1 < w1.heap.size := (ho1.lt g1 rfl).2
  have same : ∀ q, q < W.heap.size → vv.ownBlock ≠ some q → kv.ownBlock ≠ some q → w5.heap[q]? = W.heap[q]? := fun q hq h1 h2 =>
    (gb.block q (by omega) (fun e => h1 e.symm)).trans ((gy.block q (by omega) (by simp)).trans ((ga.block q (by omega) (fun e => h2 e.symm)).trans (gx.block q hq (by simp))))
  have new1 : ∀ q, q < W.heap.size → kv.ownBlock ≠ some q → g1 ≠ q := fun q hq h e => by
    rcases hat1 with h' | h'
    · exact h (by rw [h', e])
    · omega
  have new2 : ∀ q, q < W.heap.size → vv.ownBlock ≠ some q → g2 ≠ q := fun q hq h e => by
    rcases hat2 with h' | h'
    · exact h (by rw [h', e])
    · omega
  have key : ∀ q, lo ≤ q ∧ q < W.heap.size ∧ vv.ownBlock ≠ some q ∧ kv.ownBlock ≠ some q → lo ≤ q ∧ q < w5.heap.size ∧ (Value.slice (some ⟨g2, 0, none⟩) (vs.length + 1) c2).ownBlock ≠ some q ∧ (Value.slice (some ⟨g1, 0, none⟩) (ks.length + 1) c1).ownBlock ≠ some q :=
    fun q ⟨h1, h2, h3, h4⟩ => ⟨h1, by omega, by simpa [Value.ownBlock] using new2 q h2 h3, by simpa [Value.ownBlock] using new1 q h2 h4⟩
  have hne : vv.ownBlock ≠ some g1 := by
    intro e
    have hv := hlv g1 e
    rcases hat1 with h' | h'
    · exact hd g1 h' e
    · omega
  have ho1' : w5.ownsRow lo 9 1 (.slice (some ⟨g1, 0, none⟩) (ks.length + 1) c1) (ks.length + 1) (ks.map .string ++ [.string k]) :=
    (ho1.kept gy (.inr (by simp [Value.ownBlock]))).kept gb (.inr (by simp only [Value.ownBlock]; exact fun e => hne e.symm))
  have hd' : g1 ≠ g2 := by
    intro e
    rcases hat2 with h' | h'
    · exact hne (by rw [e]; exact h')
    · omega
  refine ⟨fun i => if i < vs.length then C i else cs, fun i => if i < vs.length then F i else S, ?_, ?_, ?_, ?_, ?_⟩
  · rw [List.length_append, List.length_singleton, List.map_append]
    exact ho1'
  · rw [List.length_append, List.length_singleton]
    simp only [flat]
    rw [if_neg (by omega), flat_same (C' := C) (fun i hi => by rw [if_pos hi])]
    exact ho2
  · intro i hi
    rw [List.length_append, List.length_singleton] at hi
    by_cases e : i < vs.length
    · simp only [e, if_true]
      rw [List.getElem_append_left e]
      exact (hr1 i e).carry fun q hq => same q (hF i q e hq).2.1 (hF i q e hq).2.2.1 (hF i q e hq).2.2.2
    · obtain rfl : i = vs.length := by omega
      simp only [Nat.lt_irrefl, if_false]
      rw [List.getElem_append_right (by omega)]
      simp only [Nat.sub_self, List.getElem_cons_zero]
      exact hx.carry fun q hq => same q (hS q hq).2.1 (hS q hq).2.2.1 (hS q hq).2.2.2
  · intro i q hi hq
    rw [List.length_append, List.length_singleton] at hi
    by_cases e : i < vs.length
    · simp only [e, if_true] at hq
      exact key q (hF i q e hq)
    · simp only [e, if_false] at hq
      exact key q (hS q hq)
  · intro g e
    simp only [Value.ownBlock, Option.some.injEq] at e
    subst e
    simp only [Value.ownBlock, ne_eq, Option.some.injEq]
    exact fun e => hd' e.symm

end Go.Proofs.YtmcahfcihhddjaaGreatDoor
