/- Rows of impl.Value that a call itself makes; a value with the blocks that it lies in. No function is walked here. -/
/- An answer of the reference as it returns; spec.Array. -/
/- Contracts of spec.sign, texts, keys, lists, Cmp, Same, at values that read. -/
import Derived.Test.YtiphcojcdegnkaaGreatDoorM02
import Derived.Test.YtiphcojcdegnkaaGreatDoorM01
import Derived.WalkLawsBesides
import Derived.Test.YtiphcojcdegnkaaGreatDoorM07
namespace Go.Proofs.YtiphcojcdegnkaaGreatDoor
open Go Go.RowKit Go.Maps Go.Deep

/-- The cells cs are the value v, in w; the blocks that it lies in are in S. -/
inductive RepS (w : World) (S : Nat → Prop) : V → List Value → Prop
  | mk {k h : Int} {t : ByteArray} {l : List V} {ks : List ByteArray} {vs : List V} {la ka va : Option Addr} {lc kc vc : Nat} (C D : Nat → List Value)
    (hk : -9223372036854775808 ≤ k ∧ k ≤ 9223372036854775807) (hh : -9223372036854775808 ≤ h ∧ h ≤ 9223372036854775807)
    (ht : t.size ≤ 140737488351232) (hl : l.length * 104 ≤ 140737488351232) (hks : ks.length * 16 ≤ 140737488351232) (hvs : vs.length * 104 ≤ 140737488351232)
    (hs : ∀ s ∈ ks, s.size ≤ 140737488351232)
    (cl : 0 < l.length → ∃ b o, la = some ⟨b, o, none⟩ ∧ S b ∧ ∀ i, i < l.length → CellsAt w b (o + i * 6) (C i))
    (rl : ∀ i (hi : i < l.length), RepS w S l[i] (C i))
    (ck : 0 < ks.length → ∃ b o, ka = some ⟨b, o, none⟩ ∧ S b ∧ ∀ i (hi : i < ks.length), w.cell? ⟨b, o + i, none⟩ = some (.string ks[i]))
    (cv : 0 < vs.length → ∃ b o, va = some ⟨b, o, none⟩ ∧ S b ∧ ∀ i, i < vs.length → CellsAt w b (o + i * 6) (D i))
    (rv : ∀ i (hi : i < vs.length), RepS w S vs[i] (D i)) (hlc : l.length ≤ lc) :
    RepS w S (.mk k h t l ks vs) [.int .i64 k, .int .i64 h, .string t, .slice la l.length lc, .slice ka ks.length kc, .slice va vs.length vc]

theorem CellsAt.same {w w' : World} {b o : Nat} {cs : List Value} (h : CellsAt w b o cs) (hb : w'.heap[b]? = w.heap[b]?) : CellsAt w' b o cs :=
  fun j hj => (World.cell?_of_block (a := ⟨b, o + j, none⟩) hb).trans (h j hj)

theorem RepS.turn {w w' : World} {S S' : Nat → Prop} {v : V} {cs : List Value} (h : RepS w S v cs) (hS : ∀ k, S k → w'.heap[k]? = w.heap[k]? ∧ S' k) : RepS w' S' v cs := by
  induction h with
  | mk C D hk hh ht hl hks hvs hs cl _ ck cv _ hlc ihl ihv =>
    refine .mk C D hk hh ht hl hks hvs hs ?_ ihl ?_ ?_ ihv hlc
    · intro h0
      obtain ⟨b, o, e, hb, hc⟩ := cl h0
      exact ⟨b, o, e, (hS b hb).2, fun i hi => (hc i hi).same (hS b hb).1⟩
    · intro h0
      obtain ⟨b, o, e, hb, hc⟩ := ck h0
      exact ⟨b, o, e, (hS b hb).2, fun i hi => (World.cell?_of_block (a := ⟨b, o + i, none⟩) (hS b hb).1).trans (hc i hi)⟩
    · intro h0
      obtain ⟨b, o, e, hb, hc⟩ := cv h0
      exact ⟨b, o, e, (hS b hb).2, fun i hi => (hc i hi).same (hS b hb).1⟩
theorem RepS.carry {w w' : World} {S : Nat → Prop} {v : V} {cs : List Value} (h : RepS w S v cs) (hS : ∀ k, S k → w'.heap[k]? = w.heap[k]?) : RepS w' S v cs :=
  h.turn fun k hk => ⟨hS k hk, hk⟩
theorem RepS.mono {w : World} {S S' : Nat → Prop} {v : V} {cs : List Value} (h : RepS w S v cs) (hS : ∀ k, S k → S' k) : RepS w S' v cs :=
  h.turn fun k hk => ⟨rfl, hS k hk⟩
theorem RepS.toV {w : World} {S : Nat → Prop} {B : Nat} {v : V} {cs : List Value} (h : RepS w S v cs) (hS : ∀ k, S k → k < B) : RepV w B v cs := by
  induction h with
  | mk C D hk hh ht hl hks hvs hs cl _ ck cv _ hlc ihl ihv =>
    refine .mk C D hk hh ht hl hks hvs hs ?_ ihl ?_ ?_ ihv hlc
    · intro h0
      obtain ⟨b, o, e, hb, hc⟩ := cl h0
      exact ⟨b, o, e, hS b hb, hc⟩
    · intro h0
      obtain ⟨b, o, e, hb, hc⟩ := ck h0
      exact ⟨b, o, e, hS b hb, hc⟩
    · intro h0
      obtain ⟨b, o, e, hb, hc⟩ := cv h0
      exact ⟨b, o, e, hS b hb, hc⟩
theorem RepV.toS {w : World} {B : Nat} {v : V} {cs : List Value} (h : RepV w B v cs) : RepS w (· < B) v cs := by
  induction h with
  | mk C D hk hh ht hl hks hvs hs cl _ ck cv _ hlc ihl ihv => exact .mk C D hk hh ht hl hks hvs hs cl ihl ck cv ihv hlc
theorem RepS.shape {w : World} {S : Nat → Prop} {v : V} {cs : List Value} (h : RepS w S v cs) : ∃ (k h : Int) (t : ByteArray) (la ka va : Option Addr) (nl cl nk ck nv cv : Nat),
    cs = [.int .i64 k, .int .i64 h, .string t, .slice la nl cl, .slice ka nk ck, .slice va nv cv] := by
  cases h
  exact ⟨_, _, _, _, _, _, _, _, _, _, _, _, rfl⟩
theorem RepS.six {w : World} {S : Nat → Prop} {v : V} {cs : List Value} (h : RepS w S v cs) : cs.length = 6 := by
  cases h
  rfl
theorem RepS.one {w : World} {S : Nat → Prop} {v : V} {cs : List Value} (h : RepS w S v cs) : ∀ u ∈ cs, u.oneCell' = true := by
  cases h
  intro u hu
  simp only [List.mem_cons, List.not_mem_nil, or_false] at hu
  rcases hu with rfl | rfl | rfl | rfl | rfl | rfl <;> rfl

theorem addr_add (g j : Nat) : (⟨g, 0, none⟩ : Addr).add j = ⟨g, j, none⟩ := by unfold Addr.add; split <;> simp_all

/-- The cells of the first n elements, one behind the other. -/
def flat (C : Nat → List Value) : Nat → List Value
  | 0 => []
  | n + 1 => flat C n ++ C n
theorem flat_len {C : Nat → List Value} : ∀ {n : Nat}, (∀ i, i < n → (C i).length = 6) → (flat C n).length = n * 6
  | 0, _ => rfl
  | n + 1, h => by
    simp only [flat, List.length_append]
    rw [flat_len (fun i hi => h i (by omega)), h n (by omega)]
    omega
theorem flat_get {C : Nat → List Value} : ∀ {n : Nat}, (∀ i, i < n → (C i).length = 6) → ∀ i j, i < n → j < 6 → (flat C n)[i * 6 + j]? = (C i)[j]?
  | 0, _, _, _, hi, _ => by omega
  | n + 1, h, i, j, hi, hj => by
    have hlen := flat_len (C := C) (n := n) (fun i hi => h i (by omega))
    simp only [flat]
    by_cases e : i < n
    · rw [List.getElem?_append_left (by omega)]
      exact flat_get (fun i hi => h i (by omega)) i j e hj
    · obtain rfl : i = n := by omega
      rw [List.getElem?_append_right (by omega), hlen]
      congr 1
      omega
theorem flat_same {C C' : Nat → List Value} : ∀ {n : Nat}, (∀ i, i < n → C i = C' i) → flat C n = flat C' n
  | 0, _ => rfl
  | n + 1, h => by simp only [flat]; rw [flat_same (fun i hi => h i (by omega)), h n (by omega)]

/-- v is a slice of impl.Value of the call's own that holds l; what its elements lie in is at or above lo, and not the row itself. -/
def RowS (w : World) (lo base : Nat) (v : Value) (l : List V) : Prop :=
  ∃ (C : Nat → List Value) (F : Nat → Nat → Prop), w.ownsRow base 26 6 v l.length (flat C l.length) ∧ (∀ i (hi : i < l.length), RepS w (F i) l[i] (C i)) ∧
    ∀ i k, i < l.length → F i k → lo ≤ k ∧ k < w.heap.size ∧ v.ownBlock ≠ some k

theorem RowS.nil (w : World) (lo base : Nat) : RowS w lo base (.slice none 0 0) [] :=
  ⟨fun _ => [], fun _ _ => False, World.ownsRow_nil _ _ _ _, fun i hi => by simp at hi, fun _ _ hi => by simp at hi⟩

theorem RowS.kept {w w' : World} {lo base : Nat} {v : Value} {l : List V} (h : RowS w lo base v l) (row : Option Nat) (hg : w.grownBy w' row) (hlo : lo ≤ base) (hr : ∀ k, row = some k → k < lo) : RowS w' lo base v l := by
  obtain ⟨C, F, hown, hr1, hF⟩ := h
  refine ⟨C, F, hown.kept hg ?_, fun i hi => (hr1 i hi).carry fun k hk => ?_, fun i k hi hk => ?_⟩
  · cases hv : v.ownBlock with
    | none => exact .inl rfl
    | some b =>
      refine .inr fun e => ?_
      have := hown.lt b hv
      have := hr b e.symm
      omega
  · obtain ⟨h1, h2, _⟩ := hF i k hi hk
    exact hg.block k h2 (fun e => by have := hr k e.symm; omega)
  · obtain ⟨h1, h2, h3⟩ := hF i k hi hk
    exact ⟨h1, by have := hg.size; omega, h3⟩

/-- What append leaves. -/
theorem RowS.step {w w' : World} {lo base : Nat} {v v' : Value} {l : List V} {x : V} {cs : List Value} {S : Nat → Prop} {C : Nat → List Value} {F : Nat → Nat → Prop}
    (hr1 : ∀ i (hi : i < l.length), RepS w (F i) l[i] (C i)) (hF : ∀ i k, i < l.length → F i k → lo ≤ k ∧ k < w.heap.size ∧ v.ownBlock ≠ some k)
    (hx : RepS w S x cs) (hS : ∀ k, S k → lo ≤ k ∧ k < w.heap.size ∧ v.ownBlock ≠ some k)
    (hown : w'.ownsRow base 26 6 v' (l.length + 1) (flat C l.length ++ cs)) (hg : w.grownBy w' v.ownBlock) (hat : v'.ownBlock = v.ownBlock ∨ v'.ownBlock = some w.heap.size) :
    RowS w' lo base v' (l ++ [x]) := by
  have key : ∀ k, lo ≤ k ∧ k < w.heap.size ∧ v.ownBlock ≠ some k → lo ≤ k ∧ k < w'.heap.size ∧ v'.ownBlock ≠ some k := fun k ⟨h1, h2, h3⟩ => by
    refine ⟨h1, by have := hg.size; omega, ?_⟩
    rcases hat with e | e
    · rw [e]; exact h3
    · rw [e]; intro e'; cases e'; omega
  refine ⟨fun i => if i < l.length then C i else cs, fun i => if i < l.length then F i else S, ?_, ?_, ?_⟩
  · rw [List.length_append, List.length_singleton]
    simp only [flat]
    rw [if_neg (by omega), flat_same (C' := C) (fun i hi => by rw [if_pos hi])]
    exact hown
  · intro i hi
    rw [List.length_append, List.length_singleton] at hi
    by_cases e : i < l.length
    · simp only [e, if_true]
      rw [List.getElem_append_left e]
      exact (hr1 i e).carry fun k hk => hg.block k (hF i k e hk).2.1 (fun e' => (hF i k e hk).2.2 e'.symm)
    · obtain rfl : i = l.length := by omega
      simp only [Nat.lt_irrefl, if_false]
      rw [List.getElem_append_right (by omega)]
      simp only [Nat.sub_self, List.getElem_cons_zero]
      exact hx.carry fun k hk => hg.block k (hS k hk).2.1 (fun e' => (hS k hk).2.2 e'.symm)
  · intro i k hi hk
    rw [List.length_append, List.length_singleton] at hi
    by_cases e : i < l.length
    · simp only [e, if_true] at hk
      exact key k (hF i k e hk)
    · simp only [e, if_false] at hk
      exact key k (hS k hk)

theorem RowS.parts {w : World} {lo base : Nat} {v : Value} {l : List V} (h : RowS w lo base v l) (hlo : lo ≤ base) :
    ∃ (la : Option Addr) (lc : Nat) (C : Nat → List Value), v = .slice la l.length lc ∧
      (0 < l.length → ∃ b o, la = some ⟨b, o, none⟩ ∧ (lo ≤ b ∧ b < w.heap.size) ∧ ∀ i, i < l.length → CellsAt w b (o + i * 6) (C i)) ∧
      (∀ i (hi : i < l.length), RepS w (fun k => lo ≤ k ∧ k < w.heap.size) l[i] (C i)) ∧ l.length ≤ lc := by
  obtain ⟨C, F, hown, hr, hF⟩ := h
  have h6 : ∀ i, i < l.length → (C i).length = 6 := fun i hi => (hr i hi).six
  have hr' : ∀ i (hi : i < l.length), RepS w (fun k => lo ≤ k ∧ k < w.heap.size) l[i] (C i) := fun i hi => (hr i hi).mono fun k hk => ⟨(hF i k hi hk).1, (hF i k hi hk).2.1⟩
  rcases hown.2 with ⟨e, h0⟩ | ⟨g, cap, cur, e, hb, hg, hnc, _⟩
  · exact ⟨none, 0, C, by rw [e, h0], fun h => by omega, hr', by omega⟩
  · refine ⟨some ⟨g, 0, none⟩, cap, C, e, fun _ => ⟨g, 0, rfl, ⟨by omega, (Array.getElem?_eq_some_iff.1 hg).1⟩, fun i hi j hj => ?_⟩, hr', hnc⟩
    have hj6 : j < 6 := by have := h6 i hi; omega
    have hc := hown.cells (g := g) (by rw [e]; rfl) (i * 6 + j) (C i)[j] (by rw [flat_get h6 i j hi hj6, List.getElem?_eq_getElem hj])
    rw [addr_add] at hc
    rw [Nat.zero_add]
    exact hc

/-- An array over such a row. -/
theorem RowS.list {w : World} {lo base : Nat} {v : Value} {l : List V} (h : RowS w lo base v l) (hlo : lo ≤ base) (hl : l.length * 104 ≤ 140737488351232) :
    ∃ la lc, v = .slice la l.length lc ∧ RepS w (fun k => lo ≤ k ∧ k < w.heap.size) (.mk 5 0 ⟨#[]⟩ l [] []) [.int .i64 5, .int .i64 0, .string ⟨#[]⟩, .slice la l.length lc, .slice none 0 0, .slice none 0 0] := by
  obtain ⟨la, lc, C, e, cl, rl, hlc⟩ := h.parts hlo
  exact ⟨la, lc, e, .mk (ks := []) (vs := []) C C (by omega) (by omega) (Nat.zero_le _ : (⟨#[]⟩ : ByteArray).size ≤ _) hl (by simp) (by simp) (fun s hs => by simp at hs) cl rl (fun h => by simp at h) (fun h => by simp at h) (fun i hi => by simp at hi) hlc⟩

/-- A map over a row of keys and a row of values. -/
theorem RowS.map {w : World} {lo base base' : Nat} {kv v : Value} {ks : List ByteArray} {vs : List V} (hk : w.ownsRow base' 9 1 kv ks.length (ks.map .string)) (h : RowS w lo base v vs) (hlo : lo ≤ base) (hlo' : lo ≤ base')
    (hks : ks.length * 16 ≤ 140737488351232) (hvs : vs.length * 104 ≤ 140737488351232) (hs : ∀ s ∈ ks, s.size ≤ 140737488351232) :
    ∃ ka kc va vc, kv = .slice ka ks.length kc ∧ v = .slice va vs.length vc ∧
      RepS w (fun k => lo ≤ k ∧ k < w.heap.size) (.mk 6 0 ⟨#[]⟩ [] ks vs) [.int .i64 6, .int .i64 0, .string ⟨#[]⟩, .slice none 0 0, .slice ka ks.length kc, .slice va vs.length vc] := by
  obtain ⟨va, vc, D, e, cv, rv, _⟩ := h.parts hlo
  have hkk : ∃ ka kc, kv = .slice ka ks.length kc ∧ (0 < ks.length → ∃ b o, ka = some ⟨b, o, none⟩ ∧ (lo ≤ b ∧ b < w.heap.size) ∧ ∀ i (hi : i < ks.length), w.cell? ⟨b, o + i, none⟩ = some (.string ks[i])) := by
    rcases hk.2 with ⟨e, h0⟩ | ⟨g, cap, cur, e, hb, hg, _⟩
    · exact ⟨none, 0, by rw [e, h0], fun h => by omega⟩
    · refine ⟨some ⟨g, 0, none⟩, cap, e, fun _ => ⟨g, 0, rfl, ⟨by omega, (Array.getElem?_eq_some_iff.1 hg).1⟩, fun i hi => ?_⟩⟩
      have hc := hk.cells (g := g) (by rw [e]; rfl) i (.string ks[i]) (by simp [hi])
      rw [addr_add] at hc
      rw [Nat.zero_add]
      exact hc
  obtain ⟨ka, kc, ek, ck⟩ := hkk
  exact ⟨ka, kc, va, vc, ek, e, .mk (l := []) D D (by omega) (by omega) (Nat.zero_le _ : (⟨#[]⟩ : ByteArray).size ≤ _) (by simp) hks hvs hs (fun h => by simp at h) (fun i hi => by simp at hi) ck cv rv (Nat.le_refl 0 : ([] : List V).length ≤ 0)⟩

theorem info_value : (Tryz.prog.info? 26).map (fun i => (i.zero, i.size, i.bytes)) = some (some (.agg #[.int .i64 0, .int .i64 0, .string ⟨#[]⟩, .slice none 0 0, .slice none 0 0, .slice none 0 0]), 6, 104) := by kernel_rfl

/-- A block of cells, just made. -/
theorem cells_new (w : World) (cs : List Value) (t : TypeId) : ∀ j u, cs[j]? = some u → (w.alloc (.cells cs.toArray t)).cell? ((⟨w.heap.size, 0, none⟩ : Addr).add j) = some u := by
  intro j u hu
  rw [addr_add, cell_of_row (w.alloc (.cells cs.toArray t)) w.heap.size j cs.toArray t (0, 0) (at_alloc w _)]
  simpa using hu

end Go.Proofs.YtiphcojcdegnkaaGreatDoor

namespace Go.Proofs.YtiphcojcdegnkaaGreatDoor
open Go Go.RowKit Go.Maps Go.Deep

/-- The blocks below B, and those made since w. -/
def OldNew (B : Nat) (w w' : World) (k : Nat) : Prop := k < B ∨ (w.heap.size ≤ k ∧ k < w'.heap.size)

def AnsAt (w : World) (B : Nat) (a : Ans) (e : Ending) (w' : World) : Prop :=
  ∃ (k h : Int) (t : ByteArray) (la ka va : Option Addr) (nl cl nk ck nv cv : Nat), e = .returned (.tuple #[.agg #[.int .i64 k, .int .i64 h, .string t, .slice la nl cl, .slice ka nk ck, .slice va nv cv], .int .i64 a.how]) ∧
    (∀ v, a = .fine v → RepS w' (OldNew B w w') v [.int .i64 k, .int .i64 h, .string t, .slice la nl cl, .slice ka nk ck, .slice va nv cv]) ∧ Below w.heap.size w w'

set_option maxRecDepth 100000 in
theorem array_any (a : Option Addr) (n c : Nat) (w : World) : Calls Tryz.prog 40 #[.slice a n c] w fun e w' =>
    e = .returned (.agg #[.int .i64 5, .int .i64 0, .string ⟨#[]⟩, .slice a n c, .slice none 0 0, .slice none 0 0]) ∧ Below w.heap.size w w' := by
  go_enter Tryz.func40, Tryz.ntmps40
  go_wp2_with fail
  refine bodyPost_ret (v := .agg #[.int .i64 5, .int .i64 0, .string ⟨#[]⟩, .slice a n c, .slice none 0 0, .slice none 0 0]) ?_ rfl ⟨rfl, below_alloc1 w _⟩
  exact results_cell_row (p := 2) (ty := 26) rfl _ _ w.heap.size 26 _ (0, 0) _ rfl (at_alloc w _) Tryz.underlying26 rfl (by kernel_rfl)

end Go.Proofs.YtiphcojcdegnkaaGreatDoor

namespace Go.Proofs.YtiphcojcdegnkaaGreatDoor
open Go Go.RowKit

theorem sign_any (n : Int) (w : World) : Calls Tryz.prog 42 #[.int .i64 n] w fun e w' => e = .returned (.int .i64 (signI n)) ∧ w' = w := by
  by_cases h : n < 0
  · go_enter Tryz.func42, Tryz.ntmps42
    go_wp2_with fail
    go_ret
    exact ⟨by simp [signI, h], rfl⟩
  · by_cases h' : 0 < n
    · go_enter Tryz.func42, Tryz.ntmps42
      go_wp2_with fail
      go_ret
      exact ⟨by simp [signI, h, h'], rfl⟩
    · go_enter Tryz.func42, Tryz.ntmps42
      go_wp2_with fail
      go_ret
      exact ⟨by unfold signI; rw [if_neg (by omega), if_neg (by omega)]; rfl, rfl⟩

theorem texts_any (a b : ByteArray) (w : World) : Calls Tryz.prog 43 #[.string a, .string b] w fun e w' => e = .returned (.int .i64 (textsC a b)) ∧ w' = w := by
  have hsw : Op.bytesLess a.toList b.toList = false → (a.toList == b.toList) = !Op.bytesLess b.toList a.toList := by
    intro h
    by_cases e : a.toList = b.toList
    · rw [e, bLess_eq]; simp [List.lt_irrefl]
    · have : (a.toList == b.toList) = false := by simpa using e
      rw [this]
      rw [bLess_eq] at h ⊢
      simp only [decide_eq_false_iff_not] at h
      symm
      rw [Bool.not_eq_false', decide_eq_true_eq]
      exact Decidable.byContradiction fun h2 => e (List.le_antisymm (List.not_lt.1 h2) (List.not_lt.1 h))
  cases h : Op.bytesLess a.toList b.toList
  · have hs := hsw h
    cases h' : Op.bytesLess b.toList a.toList
    · have hc : textsC a b = 0 := by unfold textsC; rw [h, h']; rfl
      rw [h'] at hs
      have Hc := Lib.hid hc
      clear hc hsw
      go_enter Tryz.func43, Tryz.ntmps43
      go_wp2_with fail
      go_ret
      exact ⟨by rw [Hc.out]; rfl, rfl⟩
    · have hc : textsC a b = 1 := by unfold textsC; rw [h, h']; rfl
      rw [h'] at hs
      have Hc := Lib.hid hc
      clear hc hsw
      go_enter Tryz.func43, Tryz.ntmps43
      go_wp2_with fail
      go_ret
      exact ⟨by rw [Hc.out]; rfl, rfl⟩
  · have hc : textsC a b = -1 := by unfold textsC; rw [h]; rfl
    have Hc := Lib.hid hc
    clear hc hsw
    go_enter Tryz.func43, Tryz.ntmps43
    go_wp2_with fail
    go_ret
    exact ⟨by rw [Hc.out]; rfl, rfl⟩

def TwoLoop (w : World) (n1 n2 : Nat) (rest : Nat → Int) (fin : Int) (i : Value) (wr : World) : Prop :=
  ∃ n : Nat, n ≤ n1 ∧ n ≤ n2 ∧ i = .int .i64 (n : Nat) ∧ Below w.heap.size w wr ∧ rest n = fin

def IntP (w : World) (c : Int) (e : Ending) (w' : World) : Prop := e = .returned (.int .i64 c) ∧ Below w.heap.size w w'

set_option maxHeartbeats 1000000 in
set_option maxRecDepth 100000 in
theorem keys_any (w : World) (ks ks' : List ByteArray) (ka ka' : Option Addr) (kc kc' : Nat) (hl : ks.length * 16 ≤ 140737488351232) (hl' : ks'.length * 16 ≤ 140737488351232)
    (ck : 0 < ks.length → ∃ b o, ka = some ⟨b, o, none⟩ ∧ b < w.heap.size ∧ ∀ i (hi : i < ks.length), w.cell? ⟨b, o + i, none⟩ = some (.string ks[i]))
    (ck' : 0 < ks'.length → ∃ b o, ka' = some ⟨b, o, none⟩ ∧ b < w.heap.size ∧ ∀ i (hi : i < ks'.length), w.cell? ⟨b, o + i, none⟩ = some (.string ks'[i])) :
    Calls Tryz.prog 45 #[.slice ka ks.length kc, .slice ka' ks'.length kc'] w (IntP w (keysC ks ks')) := by
  have Hck := Lib.hid ck; clear ck
  have Hck' := Lib.hid ck'; clear ck'
  go_enter Tryz.func45, Tryz.ntmps45
  go_wp2_with fail
  go_loopw [5] (fun i wr => TwoLoop w ks.length ks'.length (fun n => keysC (ks.drop n) (ks'.drop n)) (keysC ks ks') i wr) (fun i _ => ks.length - (intOf i).toNat)
  case atStart => exact ⟨0, Nat.zero_le _, Nat.zero_le _, rfl, Below.refl _ _, rfl⟩
  case round =>
    obtain ⟨n, hn, hn', rfl, hb, hfin⟩ := hrel
    have Hfin := Lib.hid hfin; clear hfin
    by_cases h1 : n < ks.length
    · by_cases h2 : n < ks'.length
      · obtain ⟨b1, o1, rfl, hb1, c1⟩ := Hck.out (by omega)
        obtain ⟨b2, o2, rfl, hb2, c2⟩ := Hck'.out (by omega)
        have y1 : wr.cell? ⟨b1, o1 + n, none⟩ = some (.string ks[n]) := (hb.cell (p := ⟨b1, o1 + n, none⟩) hb1).trans (c1 n h1)
        have y2 : wr.cell? ⟨b2, o2 + n, none⟩ = some (.string ks'[n]) := (hb.cell (p := ⟨b2, o2 + n, none⟩) hb2).trans (c2 n h2)
        have hd := keysC_drop ks ks' n h1 h2
        have Hd := Lib.hid (Hfin.out.symm.trans hd); clear hd
        have t1 : (n : Int) < (ks.length : Int) := by omega
        have t2 : (n : Int) < (ks'.length : Int) := by omega
        have t3 : (0 : Int) ≤ (n : Int) := by omega
        clear c1 c2
        generalize ks[n] = x at y1 Hd
        generalize ks'[n] = y at y2 Hd
        go_wp2_with fail
        refine wp_region_tail 8 (by kernel_rfl) (by kernel_rfl) ?_
        simp only [List.take_succ_cons, List.take_zero, List.drop_succ_cons, List.drop_zero]
        repeat (go_big_quiet_step (fail))
        refine wpQuiet_nil ?_
        clear t1 t2 t3
        go_wp2_with fail
        refine (texts_any _ _ _).mono ?_
        rintro e w2 ⟨rfl, rfl⟩
        generalize textsC x y = c at Hd
        by_cases hc : c = 0
        · have Hd2 := Lib.hid (Hd.out.trans (if_pos hc)); clear Hd
          subst hc
          go_wp2_with fail
          go_roundw
          case rel => exact ⟨n + 1, by omega, by omega, by go_num, hb.drew, Hd2.out.symm⟩
          case measure => simp [intOf]; omega
        · have Hd2 := Lib.hid (Hd.out.trans (if_neg hc)); clear Hd
          have tc : (c != 0) = true := by simpa using hc
          clear hc
          go_wp2_with fail
          go_ret
          exact ⟨by rw [Hd2.out]; rfl, hb.drew⟩
      · have hd := keysC_end ks ks' n (by omega) hn hn'
        have Hd := Lib.hid (Hfin.out.symm.trans hd); clear hd
        go_wp2_with fail
        go_ret
        exact ⟨by rw [Hd.out]; rfl, hb⟩
    · have hd := keysC_end ks ks' n (by omega) hn hn'
      have Hd := Lib.hid (Hfin.out.symm.trans hd); clear hd
      go_wp2_with fail
      go_ret
      exact ⟨by rw [Hd.out]; rfl, hb⟩

def CmpOK (w0 : World) (B : Nat) (a b : V) (ca cb : List Value) : Prop :=
  ∀ w, Below B w0 w → B ≤ w.heap.size → Calls Tryz.prog 27 #[.agg ca.toArray, .agg cb.toArray] w (IntP w (cmpV a b))

set_option maxHeartbeats 2000000 in
set_option maxRecDepth 100000 in
theorem lists_of (w0 : World) (B : Nat) (l l' : List V) (la la' : Option Addr) (lc lc' : Nat) (C C' : Nat → List Value) (hl : l.length * 104 ≤ 140737488351232) (hl' : l'.length * 104 ≤ 140737488351232)
    (cl : 0 < l.length → ∃ b o, la = some ⟨b, o, none⟩ ∧ b < B ∧ ∀ i, i < l.length → CellsAt w0 b (o + i * 6) (C i)) (rl : ∀ i (hi : i < l.length), RepV w0 B l[i] (C i))
    (cl' : 0 < l'.length → ∃ b o, la' = some ⟨b, o, none⟩ ∧ b < B ∧ ∀ i, i < l'.length → CellsAt w0 b (o + i * 6) (C' i)) (rl' : ∀ i (hi : i < l'.length), RepV w0 B l'[i] (C' i))
    (ih : ∀ i (hi : i < l.length) j (hj : j < l'.length), CmpOK w0 B l[i] l'[j] (C i) (C' j)) (w : World) (hbel : Below B w0 w) (hB : B ≤ w.heap.size) :
    Calls Tryz.prog 44 #[.slice la l.length lc, .slice la' l'.length lc'] w (IntP w (cmpL l l')) := by
  have Hcl := Lib.hid cl; clear cl
  have Hcl' := Lib.hid cl'; clear cl'
  have Hih := Lib.hid ih; clear ih
  have Hbel := Lib.hid hbel; clear hbel
  go_enter Tryz.func44, Tryz.ntmps44
  go_wp2_with fail
  go_loopw [5] (fun i wr => TwoLoop w l.length l'.length (fun n => cmpL (l.drop n) (l'.drop n)) (cmpL l l') i wr) (fun i _ => l.length - (intOf i).toNat)
  case atStart => exact ⟨0, Nat.zero_le _, Nat.zero_le _, rfl, Below.refl _ _, rfl⟩
  case round =>
    obtain ⟨n, hn, hn', rfl, hb, hfin⟩ := hrel
    have Hfin := Lib.hid hfin; clear hfin
    by_cases h1 : n < l.length
    · by_cases h2 : n < l'.length
      · obtain ⟨b1, o1, rfl, hb1, c1⟩ := Hcl.out (by omega)
        obtain ⟨b2, o2, rfl, hb2, c2⟩ := Hcl'.out (by omega)
        have hb0 : Below B w0 wr := Hbel.out.trans (hb.mono hB)
        have cc := (c1 n h1).below hb0 hb1
        have cc' := (c2 n h2).below hb0 hb2
        have ih := Hih.out n h1 n h2 wr.drew hb0.drew (by have := hb.size; show B ≤ wr.heap.size; omega)
        obtain ⟨k1, q1, t1, la1, ka1, va1, nl1, cl1, nk1, ck1, nv1, cv1, hC⟩ := (rl n h1).shape
        obtain ⟨k2, q2, t2, la2, ka2, va2, nl2, cl2, nk2, ck2, nv2, cv2, hC'⟩ := (rl' n h2).shape
        rw [hC] at cc ih
        rw [hC'] at cc' ih
        obtain ⟨y0, y1, y2, y3, y4, y5⟩ := cells6 cc
        obtain ⟨z0, z1, z2, z3, z4, z5⟩ := cells6 cc'
        have HI := Lib.hid ih
        have hd := cmpL_drop l l' n h1 h2
        have Hd := Lib.hid (Hfin.out.symm.trans hd); clear hd
        have u1 : (n : Int) < (l.length : Int) := by omega
        have u2 : (n : Int) < (l'.length : Int) := by omega
        have u3 : (0 : Int) ≤ (n : Int) := by omega
        clear c1 c2 cc cc' ih hC hC' hb0
        go_wp2_with fail
        refine wp_region_tail 8 (by kernel_rfl) (by kernel_rfl) ?_
        simp only [List.take_succ_cons, List.take_zero, List.drop_succ_cons, List.drop_zero]
        repeat (go_big_quiet_step (fail))
        refine wpQuiet_nil ?_
        clear u1 u2 u3 y0 y1 y2 y3 y4 y5 z0 z1 z2 z3 z4 z5
        go_wp2_with fail
        refine HI.out.mono ?_
        rintro e w2 ⟨rfl, hb3⟩
        have hb4 : Below w.heap.size w w2 := hb.drew.trans (hb3.mono hb.size)
        clear HI
        generalize cmpV l[n] l'[n] = c at Hd
        by_cases hc : c = 0
        · have Hd2 := Lib.hid (Hd.out.trans (if_pos hc)); clear Hd
          subst hc
          go_wp2_with fail
          go_roundw
          case rel => exact ⟨n + 1, by omega, by omega, by go_num, hb4, Hd2.out.symm⟩
          case measure => simp [intOf]; omega
        · have Hd2 := Lib.hid (Hd.out.trans (if_neg hc)); clear Hd
          have tc : (c != 0) = true := by simpa using hc
          clear hc
          go_wp2_with fail
          go_ret
          exact ⟨by rw [Hd2.out]; rfl, hb4⟩
      · have hd := cmpL_end l l' n (by omega) hn hn'
        have Hd := Lib.hid (Hfin.out.symm.trans hd); clear hd
        go_wp2_with fail
        go_ret
        exact ⟨by rw [Hd.out]; rfl, hb⟩
    · have hd := cmpL_end l l' n (by omega) hn hn'
      have Hd := Lib.hid (Hfin.out.symm.trans hd); clear hd
      go_wp2_with fail
      go_ret
      exact ⟨by rw [Hd.out]; rfl, hb⟩

set_option maxHeartbeats 4000000 in
set_option maxRecDepth 100000 in
theorem cmp_any (w0 : World) (B : Nat) (a : V) (ca : List Value) (ha : RepV w0 B a ca) : ∀ (b : V) (cb : List Value), RepV w0 B b cb → CmpOK w0 B a b ca cb := by
  induction ha with
  | @mk k h t l ks vs la ka va lc kc vc C D hk hh ht hl hks hvs hs cl rl ck cv rv _ ihl ihv =>
  intro b cb hb
  cases hb with
  | @mk k' h' t' l' ks' vs' la' ka' va' lc' kc' vc' C' D' hk' hh' ht' hl' hks' hvs' hs' cl' rl' ck' cv' rv' =>
  intro w hbel hB
  have hbW := below_alloc2 w (.cells #[.int .i64 k, .int .i64 h, .string t, .slice la l.length lc, .slice ka ks.length kc, .slice va vs.length vc] 26)
    (.cells #[.int .i64 k', .int .i64 h', .string t', .slice la' l'.length lc', .slice ka' ks'.length kc', .slice va' vs'.length vc'] 26)
  have hsW := size_alloc2 w (.cells #[.int .i64 k, .int .i64 h, .string t, .slice la l.length lc, .slice ka ks.length kc, .slice va vs.length vc] 26)
    (.cells #[.int .i64 k', .int .i64 h', .string t', .slice la' l'.length lc', .slice ka' ks'.length kc', .slice va' vs'.length vc'] 26)
  have L := Lib.hid fun w' h1 h2 => lists_of w0 B l l' la la' lc lc' C C' hl hl' cl rl cl' rl' (fun i hi j hj => ihl i hi _ _ (rl' j hj)) w' h1 h2
  have M := Lib.hid fun w' h1 h2 => lists_of w0 B vs vs' va va' vc vc' D D' hvs hvs' cv rv cv' rv' (fun i hi j hj => ihv i hi _ _ (rv' j hj)) w' h1 h2
  have K := Lib.hid fun (w' : World) (h1 : Below B w0 w') (h2 : B ≤ w'.heap.size) => keys_any w' ks ks' ka ka' kc kc' hks hks'
    (fun h0 => by obtain ⟨b, o, e, hb, hc⟩ := ck h0; exact ⟨b, o, e, by omega, fun i hi => (h1.cell (p := ⟨b, o + i, none⟩) hb).trans (hc i hi)⟩)
    (fun h0 => by obtain ⟨b, o, e, hb, hc⟩ := ck' h0; exact ⟨b, o, e, by omega, fun i hi => (h1.cell (p := ⟨b, o + i, none⟩) hb).trans (hc i hi)⟩)
  have Hbel := Lib.hid hbel
  clear ihl ihv cl rl ck cv rv cl' rl' ck' cv' rv' hs hs' hk hh ht hl hks hvs hk' hh' ht' hl' hks' hvs' hbel
  by_cases ek : k = k'
  · have tk : (k != k') = false := by simp [ek]
    have ev : cmpV (.mk k h t l ks vs) (.mk k' h' t' l' ks' vs') = if k = 3 then signI (wrap64 (h - h')) else if k = 4 then textsC t t'
      else if k = 5 then signI (cmpL l l') else if k = 6 then (if keysC ks ks' = 0 then signI (cmpL vs vs') else signI (keysC ks ks')) else 0 := by simp only [cmpV]; rw [if_neg (by simpa using ek)]
    clear ek
    by_cases k3 : k = 3
    · have Hev := Lib.hid (ev.trans (if_pos k3)); clear ev
      subst k3
      go_enter Tryz.func27, Tryz.ntmps27
      go_wp2_with fail
      refine (sign_any _ _).mono ?_
      rintro e w2 ⟨rfl, rfl⟩
      go_wp2_with fail
      go_ret
      exact ⟨by rw [Hev.out]; rfl, hbW⟩
    have ev := ev.trans (if_neg k3)
    have t3 : (k == 3) = false := by simpa using k3
    clear k3
    by_cases k4 : k = 4
    · have Hev := Lib.hid (ev.trans (if_pos k4)); clear ev
      subst k4
      go_enter Tryz.func27, Tryz.ntmps27
      go_wp2_with fail
      refine (texts_any _ _ _).mono ?_
      rintro e w2 ⟨rfl, rfl⟩
      go_wp2_with fail
      go_ret
      exact ⟨by rw [Hev.out]; rfl, hbW⟩
    have ev := ev.trans (if_neg k4)
    have t4 : (k == 4) = false := by simpa using k4
    clear k4
    by_cases k5 : k = 5
    · have Hev := Lib.hid (ev.trans (if_pos k5)); clear ev
      subst k5
      go_enter Tryz.func27, Tryz.ntmps27
      go_wp2_with fail
      refine (L.out _ (Hbel.out.trans (hbW.mono hB)) (by rw [hsW]; omega)).mono ?_
      rintro e w2 ⟨rfl, hb2⟩
      go_wp2_with fail
      refine (sign_any _ _).mono ?_
      rintro e w3 ⟨rfl, rfl⟩
      go_wp2_with fail
      go_ret
      exact ⟨by rw [Hev.out]; rfl, below_next hbW hb2⟩
    have ev := ev.trans (if_neg k5)
    have t5 : (k == 5) = false := by simpa using k5
    clear k5
    by_cases k6 : k = 6
    · have ev := ev.trans (if_pos k6)
      subst k6
      by_cases ec : keysC ks ks' = 0
      · have Hev := Lib.hid (ev.trans (if_pos ec)); clear ev
        have Hec := Lib.hid ec; clear ec
        go_enter Tryz.func27, Tryz.ntmps27
        go_wp2_with fail
        refine (K.out _ (Hbel.out.trans (hbW.mono hB)) (by rw [hsW]; omega)).mono ?_
        rintro e w2 ⟨rfl, hb2⟩
        rw [Hec.out]
        have hb3 := below_next hbW hb2
        obtain ⟨a0, a1, a2, a3, a4, a5⟩ := of_block6 ((hb2.block w.heap.size (by rw [hsW]; omega)).trans (at_alloc20 _ _ _))
        obtain ⟨b0, b1, b2, b3, b4, b5⟩ := of_block6 ((hb2.block (w.heap.size + 1) (by rw [hsW]; omega)).trans (at_alloc2 _ _ _))
        have hs2 : B ≤ w2.heap.size := by have := hb2.size; rw [hsW] at this; omega
        go_wp2_with fail
        refine (M.out _ (Hbel.out.trans (hb3.mono hB)) hs2).mono ?_
        rintro e w3 ⟨rfl, hb4⟩
        go_wp2_with fail
        refine (sign_any _ _).mono ?_
        rintro e w4 ⟨rfl, rfl⟩
        go_wp2_with fail
        go_ret
        exact ⟨by rw [Hev.out]; rfl, below_next hb3 hb4⟩
      · have Hev := Lib.hid (ev.trans (if_neg ec)); clear ev
        have Hec := Lib.hid ec; clear ec
        go_enter Tryz.func27, Tryz.ntmps27
        go_wp2_with fail
        refine (K.out _ (Hbel.out.trans (hbW.mono hB)) (by rw [hsW]; omega)).mono ?_
        rintro e w2 ⟨rfl, hb2⟩
        have tc : (keysC ks ks' != 0) = true := by simpa using Hec.out
        clear Hec K
        generalize keysC ks ks' = c at tc Hev ⊢
        go_wp2_with fail
        refine (sign_any _ _).mono ?_
        rintro e w4 ⟨rfl, rfl⟩
        go_wp2_with fail
        go_ret
        exact ⟨by rw [Hev.out]; rfl, below_next hbW hb2⟩
    have Hev := Lib.hid (ev.trans (if_neg k6)); clear ev
    have t6 : (k == 6) = false := by simpa using k6
    clear k6
    go_enter Tryz.func27, Tryz.ntmps27
    go_wp2_with fail
    go_ret
    exact ⟨by rw [Hev.out]; rfl, hbW⟩
  · have tk : (k != k') = true := by simpa using ek
    have Hev := Lib.hid (show cmpV (.mk k h t l ks vs) (.mk k' h' t' l' ks' vs') = signI (wrap64 (k - k')) by simp only [cmpV]; rw [if_pos ek])
    clear ek
    go_enter Tryz.func27, Tryz.ntmps27
    go_wp2_with fail
    refine (sign_any _ _).mono ?_
    rintro e w2 ⟨rfl, rfl⟩
    go_wp2_with fail
    go_ret
    exact ⟨by rw [Hev.out]; rfl, hbW⟩

/-- Two good values are the same. -/
def sameB (a b : V) : Bool := decide (cmpV a b = 0)

def BoolP (w : World) (x : Bool) (e : Ending) (w' : World) : Prop := e = .returned (.bool x) ∧ Below w.heap.size w w'

set_option maxHeartbeats 1000000 in
set_option maxRecDepth 100000 in
theorem same_any (w0 : World) (B : Nat) (a b : V) (ca cb : List Value) (ha : RepV w0 B a ca) (hb : RepV w0 B b cb) (w : World) (hbel : Below B w0 w) (hB : B ≤ w.heap.size) :
    Calls Tryz.prog 17 #[.agg ca.toArray, .agg cb.toArray] w (BoolP w (sameB a b)) := by
  have H := Lib.hid (cmp_any w0 B a ca ha b cb hb)
  obtain ⟨k, h, t, la, ka, va, nl, cl, nk, ck, nv, cv, rfl⟩ := ha.shape
  obtain ⟨k', h', t', la', ka', va', nl', cl', nk', ck', nv', cv', rfl⟩ := hb.shape
  have hbW := below_alloc2 w (.cells #[.int .i64 k, .int .i64 h, .string t, .slice la nl cl, .slice ka nk ck, .slice va nv cv] 26)
    (.cells #[.int .i64 k', .int .i64 h', .string t', .slice la' nl' cl', .slice ka' nk' ck', .slice va' nv' cv'] 26)
  have hsW := size_alloc2 w (.cells #[.int .i64 k, .int .i64 h, .string t, .slice la nl cl, .slice ka nk ck, .slice va nv cv] 26)
    (.cells #[.int .i64 k', .int .i64 h', .string t', .slice la' nl' cl', .slice ka' nk' ck', .slice va' nv' cv'] 26)
  have Hbel := Lib.hid hbel
  clear ha hb hbel
  go_enter Tryz.func17, Tryz.ntmps17
  go_wp2_with fail
  refine (H.out _ (Hbel.out.trans (hbW.mono hB)) (by rw [hsW]; omega)).mono ?_
  rintro e w2 ⟨rfl, hb2⟩
  generalize hc : cmpV a b = c
  have Hc := Lib.hid hc; clear hc
  go_wp2_with fail
  go_ret
  exact ⟨by rw [show sameB a b = (c == 0) from by unfold sameB; rw [Hc.out]; rfl]; rfl, below_next hbW hb2⟩

theorem sameB_iff {a b : V} (ga : Good a) (gb : Good b) : sameB a b = true ↔ a = b := by
  unfold sameB
  rw [decide_eq_true_eq, cmpV_zero ga gb]

end Go.Proofs.YtiphcojcdegnkaaGreatDoor
