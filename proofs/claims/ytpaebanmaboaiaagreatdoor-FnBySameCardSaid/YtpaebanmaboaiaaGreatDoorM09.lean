/- Rows of impl.Value that a call itself makes; a value with the blocks that it lies in. No function is walked here. -/
/- Contracts of impl.fromGo at null, booleans, numbers and strings. -/
/- Contract of impl.listFromGo. -/
/- Contract of impl.mapFromGo: the rows that it grows. No function is walked here. -/
import Derived.Test.YtpaebanmaboaiaaGreatDoorM01
import Derived.Test.YtpaebanmaboaiaaGreatDoorM05
import Derived.Test.YtpaebanmaboaiaaGreatDoorM03
import Derived.Test.YtpaebanmaboaiaaGreatDoorM04
import Derived.Test.YtpaebanmaboaiaaGreatDoorM08
import Derived.Deep.AppendLies
namespace Go.Proofs.YtpaebanmaboaiaaGreatDoor
open Go Go.RowKit Go.Maps Go.Deep
/-- The cells cs are the value v, in w; the blocks that it lies in are in S. -/
inductive RepS (w : World) (S : Nat → Prop) : V → List Value → Prop
  | mk {k h : Int} {t : ByteArray} {l : List V} {ks : List ByteArray} {vs : List V} {la ka va : Option Addr} {lc kc vc : Nat} (C D : Nat → List Value)
    (hk : -9223372036854775808 ≤ k ∧ k ≤ 9223372036854775807) (hh : -9223372036854775808 ≤ h ∧ h ≤ 9223372036854775807)
    (ht : t.size ≤ 140737488351232) (hl : l.length * 104 ≤ 140737488351232) (hks : ks.length * 16 ≤ 140737488351232) (hvs : vs.length * 104 ≤ 140737488351232)
    (hs : ∀ s ∈ ks, s.size ≤ 140737488351232)
    (cl : 0 < l.length → ∃ b o, la = some ⟨b, o, none⟩ ∧ S b ∧ ∀ i, i < l.length → CellsAt w b (o + i * 6) (C i))
    (rl : ∀ i (hi : i < l.length), RepS w S l[i] (C i))
    (ck : 0 < ks.length → ∃ b o, ka = some ⟨b, o, none⟩ ∧ S b ∧ ∀ i (hi : i < ks.length), w.cell? ⟨b, o + i, none⟩ = some (.string ks[i]))
    (cv : 0 < vs.length → ∃ b o, va = some ⟨b, o, none⟩ ∧ S b ∧ ∀ i, i < vs.length → CellsAt w b (o + i * 6) (D i))
    (rv : ∀ i (hi : i < vs.length), RepS w S vs[i] (D i)) (hlc : l.length ≤ lc) :
    RepS w S (.mk k h t l ks vs) [.int .i64 k, .int .i64 h, .string t, .slice la l.length lc, .slice ka ks.length kc, .slice va vs.length vc]
theorem CellsAt.same {w w' : World} {b o : Nat} {cs : List Value} (h : CellsAt w b o cs) (hb : w'.heap[b]? = w.heap[b]?) : CellsAt w' b o cs :=
  fun j hj => (World.cell?_of_block (a := ⟨b, o + j, none⟩) hb).trans (h j hj)
theorem RepS.turn {w w' : World} {S S' : Nat → Prop} {v : V} {cs : List Value} (h : RepS w S v cs) (hS : ∀ k, S k → w'.heap[k]? = w.heap[k]? ∧ S' k) : RepS w' S' v cs := by
  induction h with
  | mk C D hk hh ht hl hks hvs hs cl _ ck cv _ hlc ihl ihv =>
    refine .mk C D hk hh ht hl hks hvs hs ?_ ihl ?_ ?_ ihv hlc
    · intro h0
      obtain ⟨b, o, e, hb, hc⟩ := cl h0
      exact ⟨b, o, e, (hS b hb).2, fun i hi => (hc i hi).same (hS b hb).1⟩
    · intro h0
      obtain ⟨b, o, e, hb, hc⟩ := ck h0
      exact ⟨b, o, e, (hS b hb).2, fun i hi => (World.cell?_of_block (a := ⟨b, o + i, none⟩) (hS b hb).1).trans (hc i hi)⟩
    · intro h0
      obtain ⟨b, o, e, hb, hc⟩ := cv h0
      exact ⟨b, o, e, (hS b hb).2, fun i hi => (hc i hi).same (hS b hb).1⟩
theorem RepS.carry {w w' : World} {S : Nat → Prop} {v : V} {cs : List Value} (h : RepS w S v cs) (hS : ∀ k, S k → w'.heap[k]? = w.heap[k]?) : RepS w' S v cs :=
  h.turn fun k hk => ⟨hS k hk, hk⟩
theorem RepS.mono {w : World} {S S' : Nat → Prop} {v : V} {cs : List Value} (h : RepS w S v cs) (hS : ∀ k, S k → S' k) : RepS w S' v cs :=
  h.turn fun k hk => ⟨rfl, hS k hk⟩
theorem RepS.toV {w : World} {S : Nat → Prop} {B : Nat} {v : V} {cs : List Value} (h : RepS w S v cs) (hS : ∀ k, S k → k < B) : RepV w B v cs := by
  induction h with
  | mk C D hk hh ht hl hks hvs hs cl _ ck cv _ hlc ihl ihv =>
    refine .mk C D hk hh ht hl hks hvs hs ?_ ihl ?_ ?_ ihv hlc
    · intro h0
      obtain ⟨b, o, e, hb, hc⟩ := cl h0
      exact ⟨b, o, e, hS b hb, hc⟩
    · intro h0
      obtain ⟨b, o, e, hb, hc⟩ := ck h0
      exact ⟨b, o, e, hS b hb, hc⟩
    · intro h0
      obtain ⟨b, o, e, hb, hc⟩ := cv h0
      exact ⟨b, o, e, hS b hb, hc⟩
theorem RepV.toS {w : World} {B : Nat} {v : V} {cs : List Value} (h : RepV w B v cs) : RepS w (· < B) v cs := by
  induction h with
  | mk C D hk hh ht hl hks hvs hs cl _ ck cv _ hlc ihl ihv => exact .mk C D hk hh ht hl hks hvs hs cl ihl ck cv ihv hlc
theorem RepS.shape {w : World} {S : Nat → Prop} {v : V} {cs : List Value} (h : RepS w S v cs) : ∃ (k h : Int) (t : ByteArray) (la ka va : Option Addr) (nl cl nk ck nv cv : Nat),
    cs = [.int .i64 k, .int .i64 h, .string t, .slice la nl cl, .slice ka nk ck, .slice va nv cv] := by
  cases h
  exact ⟨_, _, _, _, _, _, _, _, _, _, _, _, rfl⟩
theorem RepS.six {w : World} {S : Nat → Prop} {v : V} {cs : List Value} (h : RepS w S v cs) : cs.length = 6 := by
  cases h
  rfl
theorem RepS.one {w : World} {S : Nat → Prop} {v : V} {cs : List Value} (h : RepS w S v cs) : ∀ u ∈ cs, u.oneCell' = true := by
  cases h
  intro u hu
  simp only [List.mem_cons, List.not_mem_nil, or_false] at hu
  rcases hu with rfl | rfl | rfl | rfl | rfl | rfl <;> rfl
theorem addr_add (g j : Nat) : (⟨g, 0, none⟩ : Addr).add j = ⟨g, j, none⟩ := by unfold Addr.add; split <;> simp_all
/-- The cells of the first n elements, one behind the other. -/
def flat (C : Nat → List Value) : Nat → List Value
  | 0 => []
  | n + 1 => flat C n ++ C n
theorem flat_len {C : Nat → List Value} : ∀ {n : Nat}, (∀ i, i < n → (C i).length = 6) → (flat C n).length = n * 6
  | 0, _ => rfl
  | n + 1, h => by
    simp only [flat, List.length_append]
    rw [flat_len (fun i hi => h i (by omega)), h n (by omega)]
    omega
theorem flat_get {C : Nat → List Value} : ∀ {n : Nat}, (∀ i, i < n → (C i).length = 6) → ∀ i j, i < n → j < 6 → (flat C n)[i * 6 + j]? = (C i)[j]?
  | 0, _, _, _, hi, _ => by omega
  | n + 1, h, i, j, hi, hj => by
    have hlen := flat_len (C := C) (n := n) (fun i hi => h i (by omega))
    simp only [flat]
    by_cases e : i < n
    · rw [List.getElem?_append_left (by omega)]
      exact flat_get (fun i hi => h i (by omega)) i j e hj
    · obtain rfl : i = n := by omega
      rw [List.getElem?_append_right (by omega), hlen]
      congr 1
      omega
theorem flat_same {C C' : Nat → List Value} : ∀ {n : Nat}, (∀ i, i < n → C i = C' i) → flat C n = flat C' n
  | 0, _ => rfl
  | n + 1, h => by simp only [flat]; rw [flat_same (fun i hi => h i (by omega)), h n (by omega)]
/-- v is a slice of impl.Value of the call's own that holds l; what its elements lie in is at or above lo, and not the row itself. -/
def RowS (w : World) (lo base : Nat) (v : Value) (l : List V) : Prop :=
  ∃ (C : Nat → List Value) (F : Nat → Nat → Prop), w.ownsRow base 26 6 v l.length (flat C l.length) ∧ (∀ i (hi : i < l.length), RepS w (F i) l[i] (C i)) ∧
    ∀ i k, i < l.length → F i k → lo ≤ k ∧ k < w.heap.size ∧ v.ownBlock ≠ some k
theorem RowS.nil (w : World) (lo base : Nat) : RowS w lo base (.slice none 0 0) [] :=
  ⟨fun _ => [], fun _ _ => False, World.ownsRow_nil _ _ _ _, fun i hi => by simp at hi, fun _ _ hi => by simp at hi⟩
theorem RowS.kept {w w' : World} {lo base : Nat} {v : Value} {l : List V} (h : RowS w lo base v l) (row : Option Nat) (hg : w.grownBy w' row) (hlo : lo ≤ base) (hr : ∀ k, row = some k → k < lo) : RowS w' lo base v l := by
  obtain ⟨C, F, hown, hr1, hF⟩ := h
  refine ⟨C, F, hown.kept hg ?_, fun i hi => (hr1 i hi).carry fun k hk => ?_, fun i k hi hk => ?_⟩
  · cases hv : v.ownBlock with
    | none => exact .inl rfl
    | some b =>
      refine .inr fun e => ?_
      have := hown.lt b hv
      have := hr b e.symm
      omega
  · obtain ⟨h1, h2, _⟩ := hF i k hi hk
    exact hg.block k h2 (fun e => by have := hr k e.symm; omega)
  · obtain ⟨h1, h2, h3⟩ := hF i k hi hk
    exact ⟨h1, by have := hg.size; omega, h3⟩
/-- What append leaves. -/
theorem RowS.step {w w' : World} {lo base : Nat} {v v' : Value} {l : List V} {x : V} {cs : List Value} {S : Nat → Prop} {C : Nat → List Value} {F : Nat → Nat → Prop}
    (hr1 : ∀ i (hi : i < l.length), RepS w (F i) l[i] (C i)) (hF : ∀ i k, i < l.length → F i k → lo ≤ k ∧ k < w.heap.size ∧ v.ownBlock ≠ some k)
    (hx : RepS w S x cs) (hS : ∀ k, S k → lo ≤ k ∧ k < w.heap.size ∧ v.ownBlock ≠ some k)
    (hown : w'.ownsRow base 26 6 v' (l.length + 1) (flat C l.length ++ cs)) (hg : w.grownBy w' v.ownBlock) (hat : v'.ownBlock = v.ownBlock ∨ v'.ownBlock = some w.heap.size) :
    RowS w' lo base v' (l ++ [x]) := by
  have key : ∀ k, lo ≤ k ∧ k < w.heap.size ∧ v.ownBlock ≠ some k → lo ≤ k ∧ k < w'.heap.size ∧ v'.ownBlock ≠ some k := fun k ⟨h1, h2, h3⟩ => by
    refine ⟨h1, by have := hg.size; omega, ?_⟩
    rcases hat with e | e
    · rw [e]; exact h3
    · rw [e]; intro e'; cases e'; omega
  refine ⟨fun i => if i < l.length then C i else cs, fun i => if i < l.length then F i else S, ?_, ?_, ?_⟩
  · rw [List.length_append, List.length_singleton]
    simp only [flat]
    rw [if_neg (by omega), flat_same (C' := C) (fun i hi => by rw [if_pos hi])]
    exact hown
  · intro i hi
    rw [List.length_append, List.length_singleton] at hi
    by_cases e : i < l.length
    · simp only [e, if_true]
      rw [List.getElem_append_left e]
      exact (hr1 i e).carry fun k hk => hg.block k (hF i k e hk).2.1 (fun e' => (hF i k e hk).2.2 e'.symm)
    · obtain rfl : i = l.length := by omega
      simp only [Nat.lt_irrefl, if_false]
      rw [List.getElem_append_right (by omega)]
      simp only [Nat.sub_self, List.getElem_cons_zero]
      exact hx.carry fun k hk => hg.block k (hS k hk).2.1 (fun e' => (hS k hk).2.2 e'.symm)
  · intro i k hi hk
    rw [List.length_append, List.length_singleton] at hi
    by_cases e : i < l.length
    · simp only [e, if_true] at hk
      exact key k (hF i k e hk)
    · simp only [e, if_false] at hk
      exact key k (hS k hk)
theorem RowS.parts {w : World} {lo base : Nat} {v : Value} {l : List V} (h : RowS w lo base v l) (hlo : lo ≤ base) :
    ∃ (la : Option Addr) (lc : Nat) (C : Nat → List Value), v = .slice la l.length lc ∧
      (0 < l.length → ∃ b o, la = some ⟨b, o, none⟩ ∧ (lo ≤ b ∧ b < w.heap.size) ∧ ∀ i, i < l.length → CellsAt w b (o + i * 6) (C i)) ∧
      (∀ i (hi : i < l.length), RepS w (fun k => lo ≤ k ∧ k < w.heap.size) l[i] (C i)) ∧ l.length ≤ lc := by
  obtain ⟨C, F, hown, hr, hF⟩ := h
  have h6 : ∀ i, i < l.length → (C i).length = 6 := fun i hi => (hr i hi).six
  have hr' : ∀ i (hi : i < l.length), RepS w (fun k => lo ≤ k ∧ k < w.heap.size) l[i] (C i) := fun i hi => (hr i hi).mono fun k hk => ⟨(hF i k hi hk).1, (hF i k hi hk).2.1⟩
  rcases hown.2 with ⟨e, h0⟩ | ⟨g, cap, cur, e, hb, hg, hnc, _⟩
  · exact ⟨none, 0, C, by rw [e, h0], fun h => by omega, hr', by omega⟩
  · refine ⟨some ⟨g, 0, none⟩, cap, C, e, fun _ => ⟨g, 0, rfl, ⟨by omega, (Array.getElem?_eq_some_iff.1 hg).1⟩, fun i hi j hj => ?_⟩, hr', hnc⟩
    have hj6 : j < 6 := by have := h6 i hi; omega
    have hc := hown.cells (g := g) (by rw [e]; rfl) (i * 6 + j) (C i)[j] (by rw [flat_get h6 i j hi hj6, List.getElem?_eq_getElem hj])
    rw [addr_add] at hc
    rw [Nat.zero_add]
    exact hc
/-- An array over such a row. -/
theorem RowS.list {w : World} {lo base : Nat} {v : Value} {l : List V} (h : RowS w lo base v l) (hlo : lo ≤ base) (hl : l.length * 104 ≤ 140737488351232) :
    ∃ la lc, v = .slice la l.length lc ∧ RepS w (fun k => lo ≤ k ∧ k < w.heap.size) (.mk 5 0 ⟨#[]⟩ l [] []) [.int .i64 5, .int .i64 0, .string ⟨#[]⟩, .slice la l.length lc, .slice none 0 0, .slice none 0 0] := by
  obtain ⟨la, lc, C, e, cl, rl, hlc⟩ := h.parts hlo
  exact ⟨la, lc, e, .mk (ks := []) (vs := []) C C (by omega) (by omega) (Nat.zero_le _ : (⟨#[]⟩ : ByteArray).size ≤ _) hl (by simp) (by simp) (fun s hs => by simp at hs) cl rl (fun h => by simp at h) (fun h => by simp at h) (fun i hi => by simp at hi) hlc⟩
/-- A map over a row of keys and a row of values. -/
theorem RowS.map {w : World} {lo base base' : Nat} {kv v : Value} {ks : List ByteArray} {vs : List V} (hk : w.ownsRow base' 9 1 kv ks.length (ks.map .string)) (h : RowS w lo base v vs) (hlo : lo ≤ base) (hlo' : lo ≤ base')
    (hks : ks.length * 16 ≤ 140737488351232) (hvs : vs.length * 104 ≤ 140737488351232) (hs : ∀ s ∈ ks, s.size ≤ 140737488351232) :
    ∃ ka kc va vc, kv = .slice ka ks.length kc ∧ v = .slice va vs.length vc ∧
      RepS w (fun k => lo ≤ k ∧ k < w.heap.size) (.mk 6 0 ⟨#[]⟩ [] ks vs) [.int .i64 6, .int .i64 0, .string ⟨#[]⟩, .slice none 0 0, .slice ka ks.length kc, .slice va vs.length vc] := by
  obtain ⟨va, vc, D, e, cv, rv, _⟩ := h.parts hlo
  have hkk : ∃ ka kc, kv = .slice ka ks.length kc ∧ (0 < ks.length → ∃ b o, ka = some ⟨b, o, none⟩ ∧ (lo ≤ b ∧ b < w.heap.size) ∧ ∀ i (hi : i < ks.length), w.cell? ⟨b, o + i, none⟩ = some (.string ks[i])) := by
    rcases hk.2 with ⟨e, h0⟩ | ⟨g, cap, cur, e, hb, hg, _⟩
    · exact ⟨none, 0, by rw [e, h0], fun h => by omega⟩
    · refine ⟨some ⟨g, 0, none⟩, cap, e, fun _ => ⟨g, 0, rfl, ⟨by omega, (Array.getElem?_eq_some_iff.1 hg).1⟩, fun i hi => ?_⟩⟩
      have hc := hk.cells (g := g) (by rw [e]; rfl) i (.string ks[i]) (by simp [hi])
      rw [addr_add] at hc
      rw [Nat.zero_add]
      exact hc
  obtain ⟨ka, kc, ek, ck⟩ := hkk
  exact ⟨ka, kc, va, vc, ek, e, .mk (l := []) D D (by omega) (by omega) (Nat.zero_le _ : (⟨#[]⟩ : ByteArray).size ≤ _) (by simp) hks hvs hs (fun h => by simp at h) (fun i hi => by simp at hi) ck cv rv (Nat.le_refl 0 : ([] : List V).length ≤ 0)⟩
theorem info_value : (Tryz.prog.info? 26).map (fun i => (i.zero, i.size, i.bytes)) = some (some (.agg #[.int .i64 0, .int .i64 0, .string ⟨#[]⟩, .slice none 0 0, .slice none 0 0, .slice none 0 0]), 6, 104) := by kernel_rfl
/-- A block of cells, just made. -/
theorem cells_new (w : World) (cs : List Value) (t : TypeId) : ∀ j u, cs[j]? = some u → (w.alloc (.cells cs.toArray t)).cell? ((⟨w.heap.size, 0, none⟩ : Addr).add j) = some u := by
  intro j u hu
  rw [addr_add, cell_of_row (w.alloc (.cells cs.toArray t)) w.heap.size j cs.toArray t (0, 0) (at_alloc w _)]
  simpa using hu
end Go.Proofs.YtpaebanmaboaiaaGreatDoor

namespace Go.Proofs.YtpaebanmaboaiaaGreatDoor
open Go Go.RowKit
attribute [local go_sem] assert_int assert_int_nil assert_float64 assert_float64_nil assert_string assert_string_nil assert_sl assert_sl_nil assert_m assert_m_nil assert_bool assert_bool_nil
def FreshS (lo hi k : Nat) : Prop := lo ≤ k ∧ k < hi
/-- What impl.fromGo gives where it gives v. -/
def FromP (w : World) (v : V) (e : Ending) (w' : World) : Prop :=
  ∃ cs, e = .returned (.tuple #[.agg (List.toArray cs), .bool true]) ∧ RepS w' (FreshS w.heap.size w'.heap.size) v cs ∧ Below w.heap.size w w'
theorem repS_num (w : World) (S : Nat → Prop) (k h : Int) (hk : -9223372036854775808 ≤ k ∧ k ≤ 9223372036854775807) (hh : -9223372036854775808 ≤ h ∧ h ≤ 9223372036854775807) (t : ByteArray) (ht : t.size ≤ 140737488351232) :
    RepS w S (.mk k h t [] [] []) [.int .i64 k, .int .i64 h, .string t, .slice none 0 0, .slice none 0 0, .slice none 0 0] :=
  .mk (l := []) (ks := []) (vs := []) (fun _ => []) (fun _ => []) hk hh ht (by simp) (by simp) (by simp) (fun s hs => by simp at hs) (fun h => by simp at h) (fun i hi => by simp at hi)
    (fun h => by simp at h) (fun h => by simp at h) (fun i hi => by simp at hi) (Nat.le_refl 0)
def aggV (k h : Int) (t : ByteArray) : Value := .tuple #[.agg #[.int .i64 k, .int .i64 h, .string t, .slice none 0 0, .slice none 0 0, .slice none 0 0], .bool true]
theorem fromP_num {w w' : World} {k h : Int} {t : ByteArray} (hk : -9223372036854775808 ≤ k ∧ k ≤ 9223372036854775807) (hh : -9223372036854775808 ≤ h ∧ h ≤ 9223372036854775807) (ht : t.size ≤ 140737488351232) (hb : Below w.heap.size w w') :
    FromP w (.mk k h t [] [] []) (.returned (aggV k h t)) w' :=
  ⟨[.int .i64 k, .int .i64 h, .string t, .slice none 0 0, .slice none 0 0, .slice none 0 0], rfl, repS_num _ _ _ _ hk hh _ ht, hb⟩
set_option maxHeartbeats 1000000 in
set_option maxRecDepth 100000 in
theorem fromGo_null (w : World) : Calls Tryz.prog 33 #[.nilIface] w (FromP w (.mk 0 0 ⟨#[]⟩ [] [] [])) := by
  go_enter Tryz.func33, Tryz.ntmps33
  go_wp2_with fail
  exact bodyPost_ret (v := aggV 0 0 ⟨#[]⟩) (results_row_tmp (p := 2) (u := 3) (ty := 26) rfl _ _ w.heap.size 26 _ (0, 0) _ rfl (at_alloc w _) Tryz.underlying26 rfl (by kernel_rfl)) rfl (fromP_num (by omega) (by omega) (Nat.zero_le _) (below_alloc1 w _))
set_option maxHeartbeats 1000000 in
set_option maxRecDepth 100000 in
theorem fromGo_bool (b : Bool) (w : World) : Calls Tryz.prog 33 #[.iface 4 (.bool b)] w (FromP w (.mk (if b then 2 else 1) 0 ⟨#[]⟩ [] [] [])) := by
  cases b
  · go_enter Tryz.func33, Tryz.ntmps33
    go_wp2_with fail
    exact bodyPost_ret (v := aggV 1 0 ⟨#[]⟩) (results_row_tmp (p := 2) (u := 3) (ty := 26) rfl _ _ w.heap.size 26 _ (0, 0) _ rfl (at_alloc w _) Tryz.underlying26 rfl (by kernel_rfl)) rfl (fromP_num (by omega) (by omega) (Nat.zero_le _) (below_alloc1 w _))
  · go_enter Tryz.func33, Tryz.ntmps33
    go_wp2_with fail
    exact bodyPost_ret (v := aggV 2 0 ⟨#[]⟩) (results_row_tmp (p := 2) (u := 3) (ty := 26) rfl _ _ w.heap.size 26 _ (0, 0) _ rfl (at_alloc w _) Tryz.underlying26 rfl (by kernel_rfl)) rfl (fromP_num (by omega) (by omega) (Nat.zero_le _) (below_alloc1 w _))
set_option maxHeartbeats 1000000 in
set_option maxRecDepth 100000 in
theorem fromGo_str (t : ByteArray) (ht : t.size ≤ 140737488351232) (w : World) : Calls Tryz.prog 33 #[.iface 9 (.string t)] w (FromP w (.mk 4 0 t [] [] [])) := by
  go_enter Tryz.func33, Tryz.ntmps33
  go_wp2_with fail
  exact bodyPost_ret (v := aggV 4 0 t) (results_row_tmp (p := 2) (u := 3) (ty := 26) rfl _ _ w.heap.size 26 _ (0, 0) _ rfl (at_alloc w _) Tryz.underlying26 rfl (by kernel_rfl)) rfl (fromP_num (by omega) (by omega) ht (below_alloc1 w _))
set_option maxHeartbeats 1000000 in
set_option maxRecDepth 100000 in
theorem fromGo_small (n : Int) (w : World) (h1 : -4611686018427387904 ≤ n) (h2 : n ≤ 4611686018427387903) : Calls Tryz.prog 33 #[.iface 3 (.int .i64 n)] w (FromP w (.mk 3 (2 * n) ⟨#[]⟩ [] [] [])) := by
  go_enter Tryz.func33, Tryz.ntmps33
  go_wp2_with fail
  exact bodyPost_ret (v := aggV 3 (2 * n) ⟨#[]⟩) (results_row_tmp (p := 2) (u := 3) (ty := 26) rfl _ _ w.heap.size 26 _ (0, 0) _ rfl (at_alloc w _) Tryz.underlying26 rfl (by kernel_rfl)) rfl (fromP_num (by omega) (by omega) (Nat.zero_le _) (below_alloc1 w _))
set_option maxHeartbeats 1000000 in
set_option maxRecDepth 100000 in
theorem fromGo_flt (x y : Nat) (hm : FloatKind.f64.format.mul 4611686018427387904 x = some y) (P : Bool → Int → Prop) (H : ∀ w : World, Calls Tryz.prog 44 #[.float .f64 y] w fun e w' => ∃ b h, P b h ∧ e = .returned (HalfV b h) ∧ Below w.heap.size w w')
    (w : World) : Calls Tryz.prog 33 #[.iface 48 (.float .f64 x)] w fun e w' => ∃ b h, P b h ∧ e = .returned (HalfV b h) ∧ Below w.heap.size w w' := by
  have HH := Lib.hid H; clear H
  have hq : ∀ w : World, (binOp .mul 48 (.float .f64 4611686018427387904) (.float .f64 x)).run Tryz.prog w = .ok (.float .f64 y) w := fun w => run_float_arith w .mul _ .f64 _ _ _ hm
  clear hm
  go_enter Tryz.func33, Tryz.ntmps33
  go_wp2_with fail
  refine (HH.out _).mono ?_
  rintro e w2 ⟨b, h, hP, rfl, hb⟩
  have hat := (hb.block w.heap.size (by simp)).trans (at_alloc w _)
  have hb2 := below_next (below_alloc1 w _) hb
  obtain ⟨e0, e1, e2, e3, e4, e5⟩ := of_block6 hat
  obtain ⟨f0, f1, f2, f3, f4, f5⟩ := free_block6 hat
  have HP := Lib.hid hP; clear hP
  have Hat := Lib.hid hat; clear hat
  have Hb2 := Lib.hid hb2; clear hb2 hb
  cases b
  all_goals
    simp only [HalfV, Bool.false_eq_true, if_false, if_true]
    go_wp2_with fail
    refine bodyPost_ret (v := HalfV _ h) (results_row_tmp (p := 2) (u := 3) (ty := 26) rfl _ _ w.heap.size 26 _ (0, 0) _ rfl (set_row6 Hat.out _ _ _ _ _ _) Tryz.underlying26 rfl (by kernel_rfl)) rfl ⟨_, h, HP.out, rfl, below_set6 Hb2.out (Nat.le_refl _) _ _ _ _ _ _⟩
theorem fromGo_half {h : Int} (f : FitsH h) (w : World) : Calls Tryz.prog 33 #[.iface 48 (.float .f64 (hb h))] w (FromP w (.mk 3 h ⟨#[]⟩ [] [] [])) := by
  have hr : -18014398509481984 ≤ h ∧ h ≤ 18014398509481984 := ⟨f.1, f.2.1⟩
  refine (fromGo_flt (hb h) (hb (2 * h)) (mul_two_hb (hb_isH f)).1 (fun b x => b = true ∧ x = h) (fun w => (half_hb h f.exact.2 (by omega) (by omega) w).mono fun e w' q => ⟨true, h, ⟨rfl, rfl⟩, q.1, q.2⟩) w).mono ?_
  rintro e w' ⟨b, x, ⟨rfl, rfl⟩, rfl, hb⟩
  exact fromP_num (by omega) (by omega) (Nat.zero_le _) hb
end Go.Proofs.YtpaebanmaboaiaaGreatDoor

namespace Go.Proofs.YtpaebanmaboaiaaGreatDoor
open Go Go.RowKit Go.Maps Go.Deep
def FromOK (w0 : World) (B : Nat) (v : V) (x : Value) : Prop := ∀ w, Below B w0 w → B ≤ w.heap.size → Calls Tryz.prog 33 #[x] w (FromP w v)
/-- Block b is an impl.Value of an array whose row is v. -/
def OutAt (w : World) (b : Nat) (v : Value) : Prop := w.heap[b]? = some (.cells #[.int .i64 5, .int .i64 0, .string ⟨#[]⟩, v, .slice none 0 0, .slice none 0 0] 26)
def FromLoop (w : World) (l : List V) (i : Value) (wr : World) : Prop :=
  ∃ (n : Nat) (v : Value), n ≤ l.length ∧ i = .int .i64 (n : Nat) ∧ Below w.heap.size w wr ∧ wr.heap[w.heap.size]? = some (.cells #[.int .i64 0, .int .i64 0, .string ⟨#[]⟩, .slice none 0 0, .slice none 0 0, .slice none 0 0] 26) ∧
    OutAt wr (w.heap.size + 1) v ∧ RowS wr (w.heap.size + 2) (w.heap.size + 2) v (l.take n)
theorem row_form {w : World} {base : Nat} {e : TypeId} {size : Nat} {v : Value} {n : Nat} {xs : List Value} (h : w.ownsRow base e size v n xs) : ∃ la lc, v = .slice la n lc := by
  rcases h.2 with ⟨e, h0⟩ | ⟨g, cap, cur, e, _⟩
  · exact ⟨none, 0, by rw [e, h0]⟩
  · exact ⟨_, _, e⟩
theorem out_set {w : World} {b : Nat} {v : Value} (h : OutAt w b v) (u : Value) : OutAt (w.setCell ⟨b, 3, none⟩ u) b u := heap_setCell_same _ b 3 _ _ u h
theorem RowS.below {w w' : World} {lo base : Nat} {v : Value} {l : List V} (h : RowS w lo base v l) (hb : Below w.heap.size w w') (hlo : lo ≤ base) : RowS w' lo base v l :=
  h.kept none (below_grown hb none) hlo (fun k e => by cases e)
theorem set6_other (w : World) (b k : Nat) (v0 v1 v2 v3 v4 v5 : Value) (h : k ≠ b) :
    ((((((w.setCell ⟨b, 0, none⟩ v0).setCell ⟨b, 1, none⟩ v1).setCell ⟨b, 2, none⟩ v2).setCell ⟨b, 3, none⟩ v3).setCell ⟨b, 4, none⟩ v4).setCell ⟨b, 5, none⟩ v5).heap[k]? = w.heap[k]? := by
  rw [Below.heap_setCell _ _ _ _ h, Below.heap_setCell _ _ _ _ h, Below.heap_setCell _ _ _ _ h, Below.heap_setCell _ _ _ _ h, Below.heap_setCell _ _ _ _ h, Below.heap_setCell _ _ _ _ h]
theorem set6_size (w : World) (b : Nat) (v0 v1 v2 v3 v4 v5 : Value) :
    ((((((w.setCell ⟨b, 0, none⟩ v0).setCell ⟨b, 1, none⟩ v1).setCell ⟨b, 2, none⟩ v2).setCell ⟨b, 3, none⟩ v3).setCell ⟨b, 4, none⟩ v4).setCell ⟨b, 5, none⟩ v5).heap.size = w.heap.size := by simp [World.setCell]
theorem take_snoc {l : List V} {n : Nat} (h : n < l.length) : l.take (n + 1) = l.take n ++ [l[n]] := List.take_succ_eq_append_getElem h
set_option maxHeartbeats 4000000 in
set_option maxRecDepth 100000 in
theorem listFrom_of (w0 : World) (B : Nat) (l : List V) (a : Option Addr) (c : Nat) (f : Nat → Value) (b o N : Nat) (hl : l.length * 104 ≤ 140737488351232)
    (ca : 0 < l.length → a = some ⟨b, o, none⟩ ∧ b < B ∧ w0.rowIs b 20 N f ∧ o + l.length ≤ N)
    (ih : ∀ i (hi : i < l.length), FromOK w0 B l[i] (f (o + i))) (w : World) (hbel : Below B w0 w) (hB : B ≤ w.heap.size) :
    Calls Tryz.prog 45 #[.slice a l.length c] w (FromP w (.mk 5 0 ⟨#[]⟩ l [] [])) := by
  have Hca := Lib.hid ca; clear ca
  have Hih := Lib.hid ih; clear ih
  have Hbel := Lib.hid hbel; clear hbel
  obtain ⟨i0, hi, hz0, hz1, hz2⟩ := info_parts info_value
  have s0 : FromLoop w l (.int .i64 0) ((w.alloc (.cells #[.int .i64 0, .int .i64 0, .string ⟨#[]⟩, .slice none 0 0, .slice none 0 0, .slice none 0 0] 26)).alloc
      (.cells #[.int .i64 5, .int .i64 0, .string ⟨#[]⟩, .slice none 0 0, .slice none 0 0, .slice none 0 0] 26)) :=
    ⟨0, .slice none 0 0, Nat.zero_le _, rfl, below_alloc2 _ _ _, at_alloc20 _ _ _, at_alloc2 _ _ _, RowS.nil _ _ _⟩
  have S0 := Lib.hid s0; clear s0
  go_enter Tryz.func45, Tryz.ntmps45
  go_wp2_with fail
  go_loopw [12] (fun i wr => FromLoop w l i wr) (fun i _ => l.length - (intOf i).toNat)
  case atStart => exact S0.out
  case round =>
    clear S0
    obtain ⟨n, v, hn, rfl, hb, hr0, hout, hrow⟩ := hrel
    have hsz : w.heap.size + 2 ≤ wr.heap.size := by have := (Array.getElem?_eq_some_iff.1 hout).1; omega
    by_cases hn' : n < l.length
    · obtain ⟨rfl, hbB, hro, hN⟩ := Hca.out (by omega)
      have hb0 : Below B w0 wr := Hbel.out.trans (hb.mono hB)
      have hcel : wr.cell? ⟨b, o + n, none⟩ = some (f (o + n)) := (rowIs_carry hro (hb0.block b hbB)).cell (by omega)
      have ih := Hih.out n hn' wr hb0 (by omega)
      have HI := Lib.hid ih
      have Hrow := Lib.hid hrow
      have Hout := Lib.hid hout
      have Hr0 := Lib.hid hr0
      clear ih hrow hout hr0 hb0 hro
      go_wp2_with fail
      refine HI.out.mono ?_
      rintro e w2 ⟨cs, rfl, hx, hb2⟩
      obtain ⟨k, h, t, la, ka, va, nl, cl, nk, ck, nv, cv, hcs⟩ := hx.shape
      have hx6 := hx.six
      have hx1 := hx.one
      have hs2 := hb2.size
      have hout2 : OutAt w2 (w.heap.size + 1) v := (hb2.block (w.heap.size + 1) (by omega)).trans Hout.out
      have hrow2 := Hrow.out.below hb2 (Nat.le_refl _)
      have e3 : w2.cell? ⟨w.heap.size + 1, 3, none⟩ = some v := (of_block6 hout2).2.2.2.1
      have hlt : w.heap.size + 1 < w2.heap.size := by omega
      have hne : ¬ (w.heap.size + 1 = w2.heap.size) := by omega
      -- the world behind the two boxes
      have hb4 := below_alloc2 w2 (.cells cs.toArray 26) (.cells cs.toArray 26)
      have hs4 := size_alloc2 w2 (.cells cs.toArray 26) (.cells cs.toArray 26)
      obtain ⟨C, F, hown, hr1, hF⟩ := hrow2.below hb4 (Nat.le_refl _)
      have hlen : (l.take n).length = n := by rw [List.length_take]; omega
      have hx4 := hx.carry (w' := (w2.alloc (.cells cs.toArray 26)).alloc (.cells cs.toArray 26)) (fun k hk => hb4.block k hk.2)
      have hnews := cells_new (w2.alloc (.cells cs.toArray 26)) cs 26
      rw [size_alloc1] at hnews
      have c1 : n + 1 ≤ maxLen := by unfold maxLen; omega
      have c2 : (n + 1) * 104 ≤ 140737488355328 := by omega
      have hob : ∀ g, v.ownBlock = some g → w.heap.size + 2 ≤ g ∧ g < wr.heap.size := by
        obtain ⟨C', F', hown', _⟩ := Hrow.out
        exact fun g hg => hown'.lt g hg
      have hout4 : OutAt ((w2.alloc (.cells cs.toArray 26)).alloc (.cells cs.toArray 26)) (w.heap.size + 1) v := (hb4.block (w.heap.size + 1) hlt).trans hout2
      rw [hlen] at hown
      have hnext : ∀ v' w', w'.ownsRow (w.heap.size + 2) 26 6 v' (n + 1) (flat C n ++ cs) → ((w2.alloc (.cells cs.toArray 26)).alloc (.cells cs.toArray 26)).grownBy w' v.ownBlock →
          (v'.ownBlock = v.ownBlock ∨ v'.ownBlock = some ((w2.alloc (.cells cs.toArray 26)).alloc (.cells cs.toArray 26)).heap.size) →
          OutAt w' (w.heap.size + 1) v ∧ FromLoop w l (.int .i64 ((n : Int) + 1)) (w'.setCell ⟨w.heap.size + 1, 3, none⟩ v') := by
        intro v' w' ho hg hat
        have hne1 : ∀ q, q < w.heap.size + 2 → some q ≠ v.ownBlock := fun q hq e => by have := hob q e.symm; omega
        have ho1 : OutAt w' (w.heap.size + 1) v := (hg.block _ (by rw [hs4]; omega) (hne1 _ (by omega))).trans hout4
        have hstep := RowS.step (w' := w') (l := l.take n) (x := l[n]) (v' := v') hr1 hF hx4 (fun q hq => ⟨by have := hq.1; omega, by have := hq.2; rw [hs4]; omega, fun e => by have := hob q e; have := hq.1; omega⟩)
          (by rw [hlen]; exact ho) hg hat
        rw [← take_snoc hn'] at hstep
        have hbw : Below w.heap.size w w' := by
          refine (hb.trans ((hb2.mono (by omega)).trans (hb4.mono (by omega)))).grown hg (by rw [hs4]; omega) (fun q hq => by have := hob q hq; omega)
        refine ⟨ho1, n + 1, v', by omega, rfl, hbw.setCell (by simp) _, ?_, out_set ho1 v', ?_⟩
        · rw [Below.heap_setCell _ _ _ _ (by simp)]
          exact ((hg.block _ (by rw [hs4]; omega) (hne1 _ (by omega))).trans ((hb4.block _ (by omega)).trans (hb2.block _ (by omega)))).trans Hr0.out
        · exact hstep.kept (some (w.heap.size + 1)) (grown_setCell _ _ _ _) (Nat.le_refl _) (fun q e => by cases e; omega)
      have Hnext := Lib.hid hnext
      have hbase : w.heap.size + 2 ≤ ((w2.alloc (.cells cs.toArray 26)).alloc (.cells cs.toArray 26)).heap.size := by rw [hs4]; omega
      clear hnext hr1 hF hx4 hout4 hrow2 hob hout2 hx hb4 hs4
      subst hcs
      go_wp2_with (at_builtin; go_loud (refine wpList_append_own_at _ rfl (.tmp 25) (.tmp 27) 23 rfl (w.heap.size + 2) 26 i0 _ 6 104 Tryz.underlying23 hi hz0 hz1 hz2 rfl (by decide) v n (flat C n) rfl hown _ 1 1 _ rfl hx6 hnews hx1 c1 c2 hbase ?_; intro v' w5 hown5 hg5 _ hat5; obtain ⟨hout5, hloop⟩ := Hnext.out v' w5 hown5 hg5 hat5; have e3' := (of_block6 hout5).2.2.2.1; have f3' := (free_block6 hout5).2.2.2.1; have Hloop := Lib.hid hloop; obtain ⟨la', lc', rfl⟩ := row_form hown5; clear hloop hout5 hown5 hg5 hat5))
      go_roundw
      case rel => exact Hloop.out
      case measure => simp [intOf]; omega
    · clear Hih Hca
      have e : n = l.length := by omega
      rw [e, List.take_length] at hrow
      obtain ⟨la, lc, rfl, hrep⟩ := hrow.list (Nat.le_refl _) hl
      obtain ⟨x0, x1, x2, x3, x4, x5⟩ := of_block6 hout
      obtain ⟨y0, y1, y2, y3, y4, y5⟩ := of_block6 hr0
      obtain ⟨f0, f1, f2, f3, f4, f5⟩ := free_block6 hr0
      have hfin := below_set6 hb (Nat.le_refl _) (.int .i64 5) (.int .i64 0) (.string ⟨#[]⟩) (.slice la l.length lc) (.slice none 0 0) (.slice none 0 0)
      have hset := set_row6 hr0 (.int .i64 5) (.int .i64 0) (.string ⟨#[]⟩) (.slice la l.length lc) (.slice none 0 0) (.slice none 0 0)
      have hP : FromP w (.mk 5 0 ⟨#[]⟩ l [] []) (.returned (.tuple #[.agg #[.int .i64 5, .int .i64 0, .string ⟨#[]⟩, .slice la l.length lc, .slice none 0 0, .slice none 0 0], .bool true]))
          ((((((wr.setCell ⟨w.heap.size, 0, none⟩ (.int .i64 5)).setCell ⟨w.heap.size, 1, none⟩ (.int .i64 0)).setCell ⟨w.heap.size, 2, none⟩ (.string ⟨#[]⟩)).setCell ⟨w.heap.size, 3, none⟩ (.slice la l.length lc)).setCell ⟨w.heap.size, 4, none⟩ (.slice none 0 0)).setCell ⟨w.heap.size, 5, none⟩ (.slice none 0 0)) := by
        refine ⟨_, rfl, (hrep.turn fun k hk => ⟨?_, ?_⟩), hfin⟩
        · exact set6_other _ _ _ _ _ _ _ _ _ (by omega)
        · rw [set6_size]
          exact ⟨by omega, hk.2⟩
      have HP := Lib.hid hP
      have Hset := Lib.hid hset
      clear hP hset hfin hrep hrow hout hr0 hb Hbel
      go_wp2_with fail
      exact bodyPost_ret (results_row_tmp (p := 2) (u := 3) (ty := 26) rfl _ _ w.heap.size 26 _ (0, 0) _ rfl Hset.out Tryz.underlying26 rfl (by kernel_rfl)) rfl HP.out
end Go.Proofs.YtpaebanmaboaiaaGreatDoor

namespace Go.Proofs.YtpaebanmaboaiaaGreatDoor
open Go Go.RowKit Go.Maps Go.Deep
/-- kv is a row of the keys, vv one of the values, both of the call's own; the values lie beside both. -/
def MapRows (w : World) (lo : Nat) (kv vv : Value) (ks : List ByteArray) (vs : List V) : Prop :=
  ∃ (C : Nat → List Value) (F : Nat → Nat → Prop), w.ownsRow lo 9 1 kv ks.length (ks.map .string) ∧ w.ownsRow lo 26 6 vv vs.length (flat C vs.length) ∧ (∀ i (hi : i < vs.length), RepS w (F i) vs[i] (C i)) ∧
    (∀ i k, i < vs.length → F i k → lo ≤ k ∧ k < w.heap.size ∧ vv.ownBlock ≠ some k ∧ kv.ownBlock ≠ some k) ∧ ∀ g, kv.ownBlock = some g → vv.ownBlock ≠ some g
theorem MapRows.nil (w : World) (lo : Nat) : MapRows w lo (.slice none 0 0) (.slice none 0 0) [] [] :=
  ⟨fun _ => [], fun _ _ => False, World.ownsRow_nil _ _ _ _, World.ownsRow_nil _ _ _ _, fun i hi => by simp at hi, fun _ _ hi => by simp at hi, fun g e => by cases e⟩
theorem kept_row {w w' : World} {row : Option Nat} {base : Nat} {e : TypeId} {size : Nat} {v : Value} {n : Nat} {xs : List Value} (h : w.ownsRow base e size v n xs) (hg : w.grownBy w' row) (hr : ∀ k, row = some k → k < base) : w'.ownsRow base e size v n xs := by
  refine h.kept hg ?_
  cases hv : v.ownBlock with
  | none => exact .inl rfl
  | some b =>
    refine .inr fun e => ?_
    have := h.lt b hv
    have := hr b e.symm
    omega
theorem MapRows.kept {w w' : World} {lo : Nat} {kv vv : Value} {ks : List ByteArray} {vs : List V} (h : MapRows w lo kv vv ks vs) (row : Option Nat) (hg : w.grownBy w' row) (hr : ∀ k, row = some k → k < lo) : MapRows w' lo kv vv ks vs := by
  obtain ⟨C, F, hk, hv, hr1, hF, hd⟩ := h
  refine ⟨C, F, kept_row hk hg hr, kept_row hv hg hr, fun i hi => (hr1 i hi).carry fun k hk => ?_, fun i k hi hk => ?_, hd⟩
  · obtain ⟨h1, h2, _⟩ := hF i k hi hk
    exact hg.block k h2 (fun e => by have := hr k e.symm; omega)
  · obtain ⟨h1, h2, h3⟩ := hF i k hi hk
    exact ⟨h1, by have := hg.size; omega, h3⟩
theorem MapRows.rows {w : World} {lo : Nat} {kv vv : Value} {ks : List ByteArray} {vs : List V} (h : MapRows w lo kv vv ks vs) : w.ownsRow lo 9 1 kv ks.length (ks.map .string) ∧ RowS w lo lo vv vs := by
  obtain ⟨C, F, hk, hv, hr1, hF, _⟩ := h
  exact ⟨hk, C, F, hv, hr1, fun i k hi hk => ⟨(hF i k hi hk).1, (hF i k hi hk).2.1, (hF i k hi hk).2.2.1⟩⟩
/-- Both rows are appended to, the keys' first. -/
theorem MapRows.step {W X1 w1 X2 w5 : World} {lo : Nat} {kv vv : Value} {ks : List ByteArray} {vs : List V} {C : Nat → List Value} {F : Nat → Nat → Prop} {k : ByteArray} {x : V} {cs : List Value} {S : Nat → Prop} {g1 c1 g2 c2 : Nat}
    (hr1 : ∀ i (hi : i < vs.length), RepS W (F i) vs[i] (C i)) (hF : ∀ i k, i < vs.length → F i k → lo ≤ k ∧ k < W.heap.size ∧ vv.ownBlock ≠ some k ∧ kv.ownBlock ≠ some k) (hd : ∀ g, kv.ownBlock = some g → vv.ownBlock ≠ some g)
    (hlv : ∀ g, vv.ownBlock = some g → g < W.heap.size)
    (hx : RepS W S x cs) (hS : ∀ k, S k → lo ≤ k ∧ k < W.heap.size ∧ vv.ownBlock ≠ some k ∧ kv.ownBlock ≠ some k)
    (gx : W.grownBy X1 none) (ga : X1.grownBy w1 kv.ownBlock) (gy : w1.grownBy X2 none) (gb : X2.grownBy w5 vv.ownBlock)
    (ho1 : w1.ownsRow lo 9 1 (.slice (some ⟨g1, 0, none⟩) (ks.length + 1) c1) (ks.length + 1) (ks.map .string ++ [.string k])) (hat1 : kv.ownBlock = some g1 ∨ g1 = X1.heap.size)
    (ho2 : w5.ownsRow lo 26 6 (.slice (some ⟨g2, 0, none⟩) (vs.length + 1) c2) (vs.length + 1) (flat C vs.length ++ cs)) (hat2 : vv.ownBlock = some g2 ∨ g2 = X2.heap.size) :
    MapRows w5 lo (.slice (some ⟨g1, 0, none⟩) (ks.length + 1) c1) (.slice (some ⟨g2, 0, none⟩) (vs.length + 1) c2) (ks ++ [k]) (vs ++ [x]) := by
  have s1 := gx.size
  have s2 := ga.size
  have s3 := gy.size
  have s4 := gb.size
  have hlt1 : g1 < w1.heap.size := (ho1.lt g1 rfl).2
  have same : ∀ q, q < W.heap.size → vv.ownBlock ≠ some q → kv.ownBlock ≠ some q → w5.heap[q]? = W.heap[q]? := fun q hq h1 h2 =>
    (gb.block q (by omega) (fun e => h1 e.symm)).trans ((gy.block q (by omega) (by simp)).trans ((ga.block q (by omega) (fun e => h2 e.symm)).trans (gx.block q hq (by simp))))
  have new1 : ∀ q, q < W.heap.size → kv.ownBlock ≠ some q → g1 ≠ q := fun q hq h e => by
    rcases hat1 with h' | h'
    · exact h (by rw [h', e])
    · omega
  have new2 : ∀ q, q < W.heap.size → vv.ownBlock ≠ some q → g2 ≠ q := fun q hq h e => by
    rcases hat2 with h' | h'
    · exact h (by rw [h', e])
    · omega
  have key : ∀ q, lo ≤ q ∧ q < W.heap.size ∧ vv.ownBlock ≠ some q ∧ kv.ownBlock ≠ some q → lo ≤ q ∧ q < w5.heap.size ∧ (Value.slice (some ⟨g2, 0, none⟩) (vs.length + 1) c2).ownBlock ≠ some q ∧ (Value.slice (some ⟨g1, 0, none⟩) (ks.length + 1) c1).ownBlock ≠ some q :=
    fun q ⟨h1, h2, h3, h4⟩ => ⟨h1, by omega, by simpa [Value.ownBlock] using new2 q h2 h3, by simpa [Value.ownBlock] using new1 q h2 h4⟩
  have hne : vv.ownBlock ≠ some g1 := by
    intro e
    have hv := hlv g1 e
    rcases hat1 with h' | h'
    · exact hd g1 h' e
    · omega
  have ho1' : w5.ownsRow lo 9 1 (.slice (some ⟨g1, 0, none⟩) (ks.length + 1) c1) (ks.length + 1) (ks.map .string ++ [.string k]) :=
    (ho1.kept gy (.inr (by simp [Value.ownBlock]))).kept gb (.inr (by simp only [Value.ownBlock]; exact fun e => hne e.symm))
  have hd' : g1 ≠ g2 := by
    intro e
    rcases hat2 with h' | h'
    · exact hne (by rw [e]; exact h')
    · omega
  refine ⟨fun i => if i < vs.length then C i else cs, fun i => if i < vs.length then F i else S, ?_, ?_, ?_, ?_, ?_⟩
  · rw [List.length_append, List.length_singleton, List.map_append]
    exact ho1'
  · rw [List.length_append, List.length_singleton]
    simp only [flat]
    rw [if_neg (by omega), flat_same (C' := C) (fun i hi => by rw [if_pos hi])]
    exact ho2
  · intro i hi
    rw [List.length_append, List.length_singleton] at hi
    by_cases e : i < vs.length
    · simp only [e, if_true]
      rw [List.getElem_append_left e]
      exact (hr1 i e).carry fun q hq => same q (hF i q e hq).2.1 (hF i q e hq).2.2.1 (hF i q e hq).2.2.2
    · obtain rfl : i = vs.length := by omega
      simp only [Nat.lt_irrefl, if_false]
      rw [List.getElem_append_right (by omega)]
      simp only [Nat.sub_self, List.getElem_cons_zero]
      exact hx.carry fun q hq => same q (hS q hq).2.1 (hS q hq).2.2.1 (hS q hq).2.2.2
  · intro i q hi hq
    rw [List.length_append, List.length_singleton] at hi
    by_cases e : i < vs.length
    · simp only [e, if_true] at hq
      exact key q (hF i q e hq)
    · simp only [e, if_false] at hq
      exact key q (hS q hq)
  · intro g e
    simp only [Value.ownBlock, Option.some.injEq] at e
    subst e
    simp only [Value.ownBlock, ne_eq, Option.some.injEq]
    exact fun e => hd' e.symm
end Go.Proofs.YtpaebanmaboaiaaGreatDoor
