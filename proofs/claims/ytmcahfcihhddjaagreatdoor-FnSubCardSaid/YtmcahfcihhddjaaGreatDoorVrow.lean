/- Rows of impl.Value that a call itself makes; a value with the blocks that it lies in. No function is walked here. -/
import Derived.Test.YtmcahfcihhddjaaGreatDoorBaseJ
namespace Go.Proofs.YtmcahfcihhddjaaGreatDoor
open Go Go.RowKit Go.Maps Go.Deep

/-- The cells cs are the value v, in w; the blocks that it lies in are in S. -/
inductive RepS (w : World) (S : Nat → Prop) : V → List Value → Prop
  | mk {k h : Int} {t : ByteArray} {l : List V} {ks : List ByteArray} {vs : List V} {la ka va : Option Addr} {lc kc vc : Nat} (C D : Nat → List Value)
    (hk : -9223372036854775808 ≤ k ∧ k ≤ 9223372036854775807) (hh : -9223372036854775808 ≤ h ∧ h ≤ 9223372036854775807)
    (ht : t.size ≤ 140737488351232) (hl : l.length * 104 ≤ 140737488351232) (hks : ks.length * 16 ≤ 140737488351232) (hvs : vs.length * 104 ≤ 140737488351232)
    (hs : ∀ s ∈ ks, s.size ≤ 140737488351232)
    (cl : 0 < l.length → ∃ b o, la = some ⟨b, o, none⟩ ∧ S b ∧ ∀ i, i < l.length → CellsAt w b (o + i * 6) (C i))
    (rl : ∀ i (hi : i < l.length), RepS w S l[i] (C i))
    (ck : 0 < ks.length → ∃ b o, ka = some ⟨b, o, none⟩ ∧ S b ∧ ∀ i (hi : i < ks.length), w.cell? ⟨b, o + i, none⟩ = some (.string ks[i]))
    (cv : 0 < vs.length → ∃ b o, va = some ⟨b, o, none⟩ ∧ S b ∧ ∀ i, i < vs.length → CellsAt w b (o + i * 6) (D i))
    (rv : ∀ i (hi : i < vs.length), RepS w S vs[i] (D i)) :
    RepS w S (.mk k h t l ks vs) [.int .i64 k, .int .i64 h, .string t, .slice la l.length lc, .slice ka ks.length kc, .slice va vs.length vc]

theorem CellsAt.same {w w' : World} {b o : Nat} {cs : List Value} (h : CellsAt w b o cs) (hb : w'.heap[b]? = w.heap[b]?) : CellsAt w' b o cs :=
  fun j hj => (World.cell?_of_block (a := ⟨b, o + j, none⟩) hb).trans (h j hj)

theorem RepS.turn {w w' : World} {S S' : Nat → Prop} {v : V} {cs : List Value} (h : RepS w S v cs) (hS : ∀ k, S k → w'.heap[k]? = w.heap[k]? ∧ S' k) : RepS w' S' v cs := by
  induction h with
  | mk C D hk hh ht hl hks hvs hs cl _ ck cv _ ihl ihv =>
    refine .mk C D hk hh ht hl hks hvs hs ?_ ihl ?_ ?_ ihv
    · intro h0
      obtain ⟨b, o, e, hb, hc⟩ := cl h0
      exact ⟨b, o, e, (hS b hb).2, fun i hi => (hc i hi).same (hS b hb).1⟩
    · intro h0
      obtain ⟨b, o, e, hb, hc⟩ := ck h0
      exact ⟨b, o, e, (hS b hb).2, fun i hi => (World.cell?_of_block (a := ⟨b, o + i, none⟩) (hS b hb).1).trans (hc i hi)⟩
    · intro h0
      obtain ⟨b, o, e, hb, hc⟩ := cv h0
      exact ⟨b, o, e, (hS b hb).2, fun i hi => (hc i hi).same (hS b hb).1⟩
theorem RepS.carry {w w' : World} {S : Nat → Prop} {v : V} {cs : List Value} (h : RepS w S v cs) (hS : ∀ k, S k → w'.heap[k]? = w.heap[k]?) : RepS w' S v cs :=
  h.turn fun k hk => ⟨hS k hk, hk⟩
theorem RepS.mono {w : World} {S S' : Nat → Prop} {v : V} {cs : List Value} (h : RepS w S v cs) (hS : ∀ k, S k → S' k) : RepS w S' v cs :=
  h.turn fun k hk => ⟨rfl, hS k hk⟩
theorem RepS.toV {w : World} {S : Nat → Prop} {B : Nat} {v : V} {cs : List Value} (h : RepS w S v cs) (hS : ∀ k, S k → k < B) : RepV w B v cs := by
  induction h with
  | mk C D hk hh ht hl hks hvs hs cl _ ck cv _ ihl ihv =>
    refine .mk C D hk hh ht hl hks hvs hs ?_ ihl ?_ ?_ ihv
    · intro h0
      obtain ⟨b, o, e, hb, hc⟩ := cl h0
      exact ⟨b, o, e, hS b hb, hc⟩
    · intro h0
      obtain ⟨b, o, e, hb, hc⟩ := ck h0
      exact ⟨b, o, e, hS b hb, hc⟩
    · intro h0
      obtain ⟨b, o, e, hb, hc⟩ := cv h0
      exact ⟨b, o, e, hS b hb, hc⟩
theorem RepV.toS {w : World} {B : Nat} {v : V} {cs : List Value} (h : RepV w B v cs) : RepS w (· < B) v cs := by
  induction h with
  | mk C D hk hh ht hl hks hvs hs cl _ ck cv _ ihl ihv => exact .mk C D hk hh ht hl hks hvs hs cl ihl ck cv ihv
theorem RepS.shape {w : World} {S : Nat → Prop} {v : V} {cs : List Value} (h : RepS w S v cs) : ∃ (k h : Int) (t : ByteArray) (la ka va : Option Addr) (nl cl nk ck nv cv : Nat),
    cs = [.int .i64 k, .int .i64 h, .string t, .slice la nl cl, .slice ka nk ck, .slice va nv cv] := by
  cases h
  exact ⟨_, _, _, _, _, _, _, _, _, _, _, _, rfl⟩
theorem RepS.six {w : World} {S : Nat → Prop} {v : V} {cs : List Value} (h : RepS w S v cs) : cs.length = 6 := by
  cases h
  rfl
theorem RepS.one {w : World} {S : Nat → Prop} {v : V} {cs : List Value} (h : RepS w S v cs) : ∀ u ∈ cs, u.oneCell' = true := by
  cases h
  intro u hu
  simp only [List.mem_cons, List.not_mem_nil, or_false] at hu
  rcases hu with rfl | rfl | rfl | rfl | rfl | rfl <;> rfl

theorem addr_add (g j : Nat) : (⟨g, 0, none⟩ : Addr).add j = ⟨g, j, none⟩ := by unfold Addr.add; split <;> simp_all

/-- The cells of the first n elements, one behind the other. -/
def flat (C : Nat → List Value) : Nat → List Value
  | 0 => []
  | n + 1 => flat C n ++ C n
theorem flat_len {C : Nat → List Value} : ∀ {n : Nat}, (∀ i, i < n → (C i).length = 6) → (flat C n).length = n * 6
  | 0, _ => rfl
  | n + 1, h => by
    simp only [flat, List.length_append]
    rw [flat_len (fun i hi => h i (by omega)), h n (by omega)]
    omega
theorem flat_get {C : Nat → List Value} : ∀ {n : Nat}, (∀ i, i < n → (C i).length = 6) → ∀ i j, i < n → j < 6 → (flat C n)[i * 6 + j]? = (C i)[j]?
  | 0, _, _, _, hi, _ => by omega
  | n + 1, h, i, j, hi, hj => by
    have hlen := flat_len (C := C) (n := n) (fun i hi => h i (by omega))
    simp only [flat]
    by_cases e : i < n
    · rw [List.getElem?_append_left (by omega)]
      exact flat_get (fun i hi => h i (by omega)) i j e hj
    · obtain rfl : i = n := by omega
      rw [List.getElem?_append_right (by omega), hlen]
      congr 1
      omega
theorem flat_same {C C' : Nat → List Value} : ∀ {n : Nat}, (∀ i, i < n → C i = C' i) → flat C n = flat C' n
  | 0, _ => rfl
  | n + 1, h => by simp only [flat]; rw [flat_same (fun i hi => h i (by omega)), h n (by omega)]

/-- v is a slice of impl.Value of the call's own that holds l; what its elements lie in is at or above lo, and not the row itself. -/
def RowS (w : World) (lo base : Nat) (v : Value) (l : List V) : Prop :=
  ∃ (C : Nat → List Value) (F : Nat → Nat → Prop), w.ownsRow base 26 6 v l.length (flat C l.length) ∧ (∀ i (hi : i < l.length), RepS w (F i) l[i] (C i)) ∧
    ∀ i k, i < l.length → F i k → lo ≤ k ∧ k < w.heap.size ∧ v.ownBlock ≠ some k

theorem RowS.nil (w : World) (lo base : Nat) : RowS w lo base (.slice none 0 0) [] :=
  ⟨fun _ => [], fun _ _ => False, World.ownsRow_nil _ _ _ _, fun i hi => by simp at hi, fun _ _ hi => by simp at hi⟩

theorem RowS.kept {w w' : World} {lo base : Nat} {v : Value} {l : List V} (h : RowS w lo base v l) (row : Option Nat) (hg : w.grownBy w' row) (hlo : lo ≤ base) (hr : ∀ k, row = some k → k < lo) : RowS w' lo base v l := by
  obtain ⟨C, F, hown, hr1, hF⟩ := h
  refine ⟨C, F, hown.kept hg ?_, fun i hi => (hr1 i hi).carry fun k hk => ?_, fun i k hi hk => ?_⟩
  · cases hv : v.ownBlock with
    | none => exact .inl rfl
    | some b =>
      refine .inr fun e => ?_
      have := hown.lt b hv
      have := hr b e.symm
      omega
  · obtain ⟨h1, h2, _⟩ := hF i k hi hk
    exact hg.block k h2 (fun e => by have := hr k e.symm; omega)
  · obtain ⟨h1, h2, h3⟩ := hF i k hi hk
    exact ⟨h1, by have := hg.size; omega, h3⟩

/-- What append leaves. -/
theorem RowS.step {w w' : World} {lo base : Nat} {v v' : Value} {l : List V} {x : V} {cs : List Value} {S : Nat → Prop} {C : Nat → List Value} {F : Nat → Nat → Prop}
    (hr1 : ∀ i (hi : i < l.length), RepS w (F i) l[i] (C i)) (hF : ∀ i k, i < l.length → F i k → lo ≤ k ∧ k < w.heap.size ∧ v.ownBlock ≠ some k)
    (hx : RepS w S x cs) (hS : ∀ k, S k → lo ≤ k ∧ k < w.heap.size ∧ v.ownBlock ≠ some k)
    (hown : w'.ownsRow base 26 6 v' (l.length + 1) (flat C l.length ++ cs)) (hg : w.grownBy w' v.ownBlock) (hat : v'.ownBlock = v.ownBlock ∨ v'.ownBlock = some w.heap.size) :
    RowS w' lo base v' (l ++ [x]) := by
  have key : ∀ k, lo ≤ k ∧ k < w.heap.size ∧ v.ownBlock ≠ some k → lo ≤ k ∧ k < w'.heap.size ∧ v'.ownBlock ≠ some k := fun k ⟨h1, h2, h3⟩ => by
    refine ⟨h1, by have := hg.size; omega, ?_⟩
    rcases hat with e | e
    · rw [e]; exact h3
    · rw [e]; intro e'; cases e'; omega
  refine ⟨fun i => if i < l.length then C i else cs, fun i => if i < l.length then F i else S, ?_, ?_, ?_⟩
  · rw [List.length_append, List.length_singleton]
    simp only [flat]
    rw [if_neg (by omega), flat_same (C' := C) (fun i hi => by rw [if_pos hi])]
    exact hown
  · intro i hi
    rw [List.length_append, List.length_singleton] at hi
    by_cases e : i < l.length
    · simp only [e, if_true]
      rw [List.getElem_append_left e]
      exact (hr1 i e).carry fun k hk => hg.block k (hF i k e hk).2.1 (fun e' => (hF i k e hk).2.2 e'.symm)
    · obtain rfl : i = l.length := by omega
      simp only [Nat.lt_irrefl, if_false]
      rw [List.getElem_append_right (by omega)]
      simp only [Nat.sub_self, List.getElem_cons_zero]
      exact hx.carry fun k hk => hg.block k (hS k hk).2.1 (fun e' => (hS k hk).2.2 e'.symm)
  · intro i k hi hk
    rw [List.length_append, List.length_singleton] at hi
    by_cases e : i < l.length
    · simp only [e, if_true] at hk
      exact key k (hF i k e hk)
    · simp only [e, if_false] at hk
      exact key k (hS k hk)

theorem RowS.parts {w : World} {lo base : Nat} {v : Value} {l : List V} (h : RowS w lo base v l) (hlo : lo ≤ base) :
    ∃ (la : Option Addr) (lc : Nat) (C : Nat → List Value), v = .slice la l.length lc ∧
      (0 < l.length → ∃ b o, la = some ⟨b, o, none⟩ ∧ (lo ≤ b ∧ b < w.heap.size) ∧ ∀ i, i < l.length → CellsAt w b (o + i * 6) (C i)) ∧
      ∀ i (hi : i < l.length), RepS w (fun k => lo ≤ k ∧ k < w.heap.size) l[i] (C i) := by
  obtain ⟨C, F, hown, hr, hF⟩ := h
  have h6 : ∀ i, i < l.length → (C i).length = 6 := fun i hi => (hr i hi).six
  have hr' : ∀ i (hi : i < l.length), RepS w (fun k => lo ≤ k ∧ k < w.heap.size) l[i] (C i) := fun i hi => (hr i hi).mono fun k hk => ⟨(hF i k hi hk).1, (hF i k hi hk).2.1⟩
  rcases hown.2 with ⟨e, h0⟩ | ⟨g, cap, cur, e, hb, hg, _⟩
  · exact ⟨none, 0, C, by rw [e, h0], fun h => by omega, hr'⟩
  · refine ⟨some ⟨g, 0, none⟩, cap, C, e, fun _ => ⟨g, 0, rfl, ⟨by omega, (Array.getElem?_eq_some_iff.1 hg).1⟩, fun i hi j hj => ?_⟩, hr'⟩
    have hj6 : j < 6 := by have := h6 i hi; omega
    have hc := hown.cells (g := g) (by rw [e]; rfl) (i * 6 + j) (C i)[j] (by rw [flat_get h6 i j hi hj6, List.getElem?_eq_getElem hj])
    rw [addr_add] at hc
    rw [Nat.zero_add]
    exact hc

/-- An array over such a row. -/
theorem RowS.list {w : World} {lo base : Nat} {v : Value} {l : List V} (h : RowS w lo base v l) (hlo : lo ≤ base) (hl : l.length * 104 ≤ 140737488351232) :
    ∃ la lc, v = .slice la l.length lc ∧ RepS w (fun k => lo ≤ k ∧ k < w.heap.size) (.mk 5 0 ⟨#[]⟩ l [] []) [.int .i64 5, .int .i64 0, .string ⟨#[]⟩, .slice la l.length lc, .slice none 0 0, .slice none 0 0] := by
  obtain ⟨la, lc, C, e, cl, rl⟩ := h.parts hlo
  exact ⟨la, lc, e, .mk (ks := []) (vs := []) C C (by omega) (by omega) (Nat.zero_le _ : (⟨#[]⟩ : ByteArray).size ≤ _) hl (by simp) (by simp) (fun s hs => by simp at hs) cl rl (fun h => by simp at h) (fun h => by simp at h) (fun i hi => by simp at hi)⟩

/-- A map over a row of keys and a row of values. -/
theorem RowS.map {w : World} {lo base base' : Nat} {kv v : Value} {ks : List ByteArray} {vs : List V} (hk : w.ownsRow base' 9 1 kv ks.length (ks.map .string)) (h : RowS w lo base v vs) (hlo : lo ≤ base) (hlo' : lo ≤ base')
    (hks : ks.length * 16 ≤ 140737488351232) (hvs : vs.length * 104 ≤ 140737488351232) (hs : ∀ s ∈ ks, s.size ≤ 140737488351232) :
    ∃ ka kc va vc, kv = .slice ka ks.length kc ∧ v = .slice va vs.length vc ∧
      RepS w (fun k => lo ≤ k ∧ k < w.heap.size) (.mk 6 0 ⟨#[]⟩ [] ks vs) [.int .i64 6, .int .i64 0, .string ⟨#[]⟩, .slice none 0 0, .slice ka ks.length kc, .slice va vs.length vc] := by
  obtain ⟨va, vc, D, e, cv, rv⟩ := h.parts hlo
  have hkk : ∃ ka kc, kv = .slice ka ks.length kc ∧ (0 < ks.length → ∃ b o, ka = some ⟨b, o, none⟩ ∧ (lo ≤ b ∧ b < w.heap.size) ∧ ∀ i (hi : i < ks.length), w.cell? ⟨b, o + i, none⟩ = some (.string ks[i])) := by
    rcases hk.2 with ⟨e, h0⟩ | ⟨g, cap, cur, e, hb, hg, _⟩
    · exact ⟨none, 0, by rw [e, h0], fun h => by omega⟩
    · refine ⟨some ⟨g, 0, none⟩, cap, e, fun _ => ⟨g, 0, rfl, ⟨by omega, (Array.getElem?_eq_some_iff.1 hg).1⟩, fun i hi => ?_⟩⟩
      have hc := hk.cells (g := g) (by rw [e]; rfl) i (.string ks[i]) (by simp [hi])
      rw [addr_add] at hc
      rw [Nat.zero_add]
      exact hc
  obtain ⟨ka, kc, ek, ck⟩ := hkk
  exact ⟨ka, kc, va, vc, ek, e, .mk (l := []) D D (by omega) (by omega) (Nat.zero_le _ : (⟨#[]⟩ : ByteArray).size ≤ _) (by simp) hks hvs hs (fun h => by simp at h) (fun i hi => by simp at hi) ck cv rv⟩

theorem info_value : (Tryz.prog.info? 26).map (fun i => (i.zero, i.size, i.bytes)) = some (some (.agg #[.int .i64 0, .int .i64 0, .string ⟨#[]⟩, .slice none 0 0, .slice none 0 0, .slice none 0 0]), 6, 104) := by kernel_rfl

/-- A block of cells, just made. -/
theorem cells_new (w : World) (cs : List Value) (t : TypeId) : ∀ j u, cs[j]? = some u → (w.alloc (.cells cs.toArray t)).cell? ((⟨w.heap.size, 0, none⟩ : Addr).add j) = some u := by
  intro j u hu
  rw [addr_add, cell_of_row (w.alloc (.cells cs.toArray t)) w.heap.size j cs.toArray t (0, 0) (at_alloc w _)]
  simpa using hu

end Go.Proofs.YtmcahfcihhddjaaGreatDoor
