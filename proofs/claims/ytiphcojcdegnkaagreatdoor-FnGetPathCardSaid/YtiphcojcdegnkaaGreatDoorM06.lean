/- Contracts of spec.Fit, laws.fit, laws.zzFits1, spec.Vague. -/
/- Rows of impl.Value that a call itself makes; a value with the blocks that it lies in. No function is walked here. -/
/- An answer of the reference as it returns; spec.Array. -/
import Derived.Test.YtiphcojcdegnkaaGreatDoorM05
import Derived.Test.YtiphcojcdegnkaaGreatDoorM01
import Derived.WalkLawsBesides
namespace Go.Proofs.YtiphcojcdegnkaaGreatDoor
open Go Go.RowKit

theorem TabsB.carry {w w' : World} {B : Nat} (h : TabsB w B) (hb : Below B w w') {B' : Nat} (hB : B ≤ B') : TabsB w' B' :=
  ⟨h.at hb, by have := h.2.1; omega, by have := h.2.2; omega⟩

theorem heap_alloc_old (w : World) (o : Obj) {k : Nat} (h : k < w.heap.size) : (w.alloc o).heap[k]? = w.heap[k]? := Below.heap_alloc w o k h
theorem below_alloc (w : World) (o : Obj) : Below w.heap.size w (w.alloc o) := (Below.refl _ _).alloc (Nat.le_refl _) o

set_option maxRecDepth 100000 in
theorem fit_any (w : World) (v : V) (cs : List Value) (hv : RepV w w.heap.size v cs) (hTB : TabsB w w.heap.size) :
    Calls Tryz.prog 15 #[.agg cs.toArray] w fun e w' => e = .returned (.bool (fitB v)) ∧ Below w.heap.size w w' := by
  obtain ⟨c0, c1, c2, c3, c4, c5, rfl⟩ := hv.six
  go_enter Tryz.func15, Tryz.ntmps15
  go_wp2_with fail
  have hb1 : Below w.heap.size w ((w.alloc (.cells #[c0, c1, c2, c3, c4, c5] 26)).alloc (.cells #[.int .i64 0, .int .i64 0, .bool false] 58)) :=
    ((Below.refl _ _).alloc (Nat.le_refl _) _).alloc (by simp) _
  have hl0 : LkAt ((w.alloc (.cells #[c0, c1, c2, c3, c4, c5] 26)).alloc (.cells #[.int .i64 0, .int .i64 0, .bool false] 58)) (w.heap.size + 1) ⟨0, 0, false⟩ := at_alloc2 _ _ _
  refine (value_any w w.heap.size v _ hv hTB _ _ _ 0 hb1 (by omega) hl0).mono ?_
  rintro e w2 ⟨rfl, hl, hg⟩
  have c2 := hl.c2
  have hb2 := hb1.trans (grown_below hg (B := w.heap.size) (by omega) (by simp; omega))
  go_wp2_with fail
  go_ret
  exact ⟨rfl, hb2⟩

def SomeBool (w : World) (e : Ending) (w' : World) : Prop := (∃ b : Bool, e = .returned (.bool b)) ∧ Below w.heap.size w w'

set_option maxRecDepth 100000 in
theorem zz2_any (w : World) (ks : List ByteArray) (ka : Option Addr) (kc : Nat) (hl : ks.length * 16 ≤ 140737488351232)
    (ck : 0 < ks.length → ∃ b o, ka = some ⟨b, o, none⟩ ∧ ∀ i (hi : i < ks.length), w.cell? ⟨b, o + i, none⟩ = some (.string ks[i])) :
    Calls Tryz.prog 14 #[.slice ka ks.length kc] w (SomeBool w) := by
  have Hck := Lib.hid ck; clear ck
  go_enter Tryz.func14, Tryz.ntmps14
  go_wp2_with fail
  · go_ret
    exact ⟨⟨_, rfl⟩, Below.refl _ _⟩
  · go_loop [10] (fun i => ∃ n : Nat, n ≤ ks.length ∧ i = .int .i64 (n : Nat)) (fun i => ks.length - (intOf i).toNat)
    case atStart => exact ⟨0, Nat.zero_le _, rfl⟩
    case round =>
      obtain ⟨n, hn, rfl⟩ := hrel
      by_cases hn' : n < ks.length
      · obtain ⟨b, o, rfl, hc⟩ := Hck.out (by omega)
        have c0 := hc n hn'
        generalize ks[n] = kn at c0
        clear hc
        go_wp2_with fail
        · go_ret
          exact ⟨⟨_, rfl⟩, Below.refl _ _⟩
        · go_round
          case rel => exact ⟨n + 1, by omega, by go_num⟩
          case measure => simp [intOf]; omega
      · go_wp2_with fail
        go_ret
        exact ⟨⟨_, rfl⟩, Below.refl _ _⟩

set_option maxRecDepth 100000 in
theorem zz1_any (w : World) (v : V) (cs : List Value) (hv : RepV w w.heap.size v cs) :
    Calls Tryz.prog 5 #[.agg cs.toArray] w (SomeBool w) := by
  cases hv with
  | @mk k hf t l ks vs la ka va lc kc vc C D hk hh ht hl hks hvs hs cl rl ck cv rv =>
  have hz := zz2_any (w.alloc (.cells #[.int .i64 k, .int .i64 hf, .string t, .slice la l.length lc, .slice ka ks.length kc, .slice va vs.length vc] 26)) ks ka kc hks (fun h0 => by
    obtain ⟨b, o, e, hb, hc⟩ := ck h0
    exact ⟨b, o, e, fun i hi => ((below_alloc1 w _).cell (p := ⟨b, o + i, none⟩) hb).trans (hc i hi)⟩)
  have HZ := Lib.hid hz; clear hz
  clear cl rl ck cv rv hs
  go_enter Tryz.func5, Tryz.ntmps5
  go_wp2_with fail
  · refine bodyPost_ret (results_tmp rfl _ _ _) rfl ⟨⟨_, rfl⟩, below_alloc1 _ _⟩
  · refine bodyPost_ret (results_tmp rfl _ _ _) rfl ⟨⟨_, rfl⟩, below_alloc1 _ _⟩
  · refine HZ.out.mono ?_
    rintro e w2 ⟨⟨bb, rfl⟩, hb2⟩
    have hb3 := below_next (below_alloc1 w _) hb2
    obtain ⟨e0, e1, e2, e3, e4, e5⟩ := of_block6 ((hb2.block w.heap.size (by simp)).trans (at_alloc _ _))
    cases bb
    · go_wp2_with fail
      refine bodyPost_ret (results_tmp rfl _ _ _) rfl ⟨⟨_, rfl⟩, hb3⟩
    · go_wp2_with fail
      all_goals refine bodyPost_ret (results_tmp rfl _ _ _) rfl ⟨⟨_, rfl⟩, by assumption⟩

end Go.Proofs.YtiphcojcdegnkaaGreatDoor

namespace Go.Proofs.YtiphcojcdegnkaaGreatDoor
open Go Go.RowKit Go.Maps Go.Deep

/-- The cells cs are the value v, in w; the blocks that it lies in are in S. -/
inductive RepS (w : World) (S : Nat → Prop) : V → List Value → Prop
  | mk {k h : Int} {t : ByteArray} {l : List V} {ks : List ByteArray} {vs : List V} {la ka va : Option Addr} {lc kc vc : Nat} (C D : Nat → List Value)
    (hk : -9223372036854775808 ≤ k ∧ k ≤ 9223372036854775807) (hh : -9223372036854775808 ≤ h ∧ h ≤ 9223372036854775807)
    (ht : t.size ≤ 140737488351232) (hl : l.length * 104 ≤ 140737488351232) (hks : ks.length * 16 ≤ 140737488351232) (hvs : vs.length * 104 ≤ 140737488351232)
    (hs : ∀ s ∈ ks, s.size ≤ 140737488351232)
    (cl : 0 < l.length → ∃ b o, la = some ⟨b, o, none⟩ ∧ S b ∧ ∀ i, i < l.length → CellsAt w b (o + i * 6) (C i))
    (rl : ∀ i (hi : i < l.length), RepS w S l[i] (C i))
    (ck : 0 < ks.length → ∃ b o, ka = some ⟨b, o, none⟩ ∧ S b ∧ ∀ i (hi : i < ks.length), w.cell? ⟨b, o + i, none⟩ = some (.string ks[i]))
    (cv : 0 < vs.length → ∃ b o, va = some ⟨b, o, none⟩ ∧ S b ∧ ∀ i, i < vs.length → CellsAt w b (o + i * 6) (D i))
    (rv : ∀ i (hi : i < vs.length), RepS w S vs[i] (D i)) (hlc : l.length ≤ lc) :
    RepS w S (.mk k h t l ks vs) [.int .i64 k, .int .i64 h, .string t, .slice la l.length lc, .slice ka ks.length kc, .slice va vs.length vc]

theorem CellsAt.same {w w' : World} {b o : Nat} {cs : List Value} (h : CellsAt w b o cs) (hb : w'.heap[b]? = w.heap[b]?) : CellsAt w' b o cs :=
  fun j hj => (World.cell?_of_block (a := ⟨b, o + j, none⟩) hb).trans (h j hj)

theorem RepS.turn {w w' : World} {S S' : Nat → Prop} {v : V} {cs : List Value} (h : RepS w S v cs) (hS : ∀ k, S k → w'.heap[k]? = w.heap[k]? ∧ S' k) : RepS w' S' v cs := by
  induction h with
  | mk C D hk hh ht hl hks hvs hs cl _ ck cv _ hlc ihl ihv =>
    refine .mk C D hk hh ht hl hks hvs hs ?_ ihl ?_ ?_ ihv hlc
    · intro h0
      obtain ⟨b, o, e, hb, hc⟩ := cl h0
      exact ⟨b, o, e, (hS b hb).2, fun i hi => (hc i hi).same (hS b hb).1⟩
    · intro h0
      obtain ⟨b, o, e, hb, hc⟩ := ck h0
      exact ⟨b, o, e, (hS b hb).2, fun i hi => (World.cell?_of_block (a := ⟨b, o + i, none⟩) (hS b hb).1).trans (hc i hi)⟩
    · intro h0
      obtain ⟨b, o, e, hb, hc⟩ := cv h0
      exact ⟨b, o, e, (hS b hb).2, fun i hi => (hc i hi).same (hS b hb).1⟩
theorem RepS.carry {w w' : World} {S : Nat → Prop} {v : V} {cs : List Value} (h : RepS w S v cs) (hS : ∀ k, S k → w'.heap[k]? = w.heap[k]?) : RepS w' S v cs :=
  h.turn fun k hk => ⟨hS k hk, hk⟩
theorem RepS.mono {w : World} {S S' : Nat → Prop} {v : V} {cs : List Value} (h : RepS w S v cs) (hS : ∀ k, S k → S' k) : RepS w S' v cs :=
  h.turn fun k hk => ⟨rfl, hS k hk⟩
theorem RepS.toV {w : World} {S : Nat → Prop} {B : Nat} {v : V} {cs : List Value} (h : RepS w S v cs) (hS : ∀ k, S k → k < B) : RepV w B v cs := by
  induction h with
  | mk C D hk hh ht hl hks hvs hs cl _ ck cv _ hlc ihl ihv =>
    refine .mk C D hk hh ht hl hks hvs hs ?_ ihl ?_ ?_ ihv hlc
    · intro h0
      obtain ⟨b, o, e, hb, hc⟩ := cl h0
      exact ⟨b, o, e, hS b hb, hc⟩
    · intro h0
      obtain ⟨b, o, e, hb, hc⟩ := ck h0
      exact ⟨b, o, e, hS b hb, hc⟩
    · intro h0
      obtain ⟨b, o, e, hb, hc⟩ := cv h0
      exact ⟨b, o, e, hS b hb, hc⟩
theorem RepV.toS {w : World} {B : Nat} {v : V} {cs : List Value} (h : RepV w B v cs) : RepS w (· < B) v cs := by
  induction h with
  | mk C D hk hh ht hl hks hvs hs cl _ ck cv _ hlc ihl ihv => exact .mk C D hk hh ht hl hks hvs hs cl ihl ck cv ihv hlc
theorem RepS.shape {w : World} {S : Nat → Prop} {v : V} {cs : List Value} (h : RepS w S v cs) : ∃ (k h : Int) (t : ByteArray) (la ka va : Option Addr) (nl cl nk ck nv cv : Nat),
    cs = [.int .i64 k, .int .i64 h, .string t, .slice la nl cl, .slice ka nk ck, .slice va nv cv] := by
  cases h
  exact ⟨_, _, _, _, _, _, _, _, _, _, _, _, rfl⟩
theorem RepS.six {w : World} {S : Nat → Prop} {v : V} {cs : List Value} (h : RepS w S v cs) : cs.length = 6 := by
  cases h
  rfl
theorem RepS.one {w : World} {S : Nat → Prop} {v : V} {cs : List Value} (h : RepS w S v cs) : ∀ u ∈ cs, u.oneCell' = true := by
  cases h
  intro u hu
  simp only [List.mem_cons, List.not_mem_nil, or_false] at hu
  rcases hu with rfl | rfl | rfl | rfl | rfl | rfl <;> rfl

theorem addr_add (g j : Nat) : (⟨g, 0, none⟩ : Addr).add j = ⟨g, j, none⟩ := by unfold Addr.add; split <;> simp_all

/-- The cells of the first n elements, one behind the other. -/
def flat (C : Nat → List Value) : Nat → List Value
  | 0 => []
  | n + 1 => flat C n ++ C n
theorem flat_len {C : Nat → List Value} : ∀ {n : Nat}, (∀ i, i < n → (C i).length = 6) → (flat C n).length = n * 6
  | 0, _ => rfl
  | n + 1, h => by
    simp only [flat, List.length_append]
    rw [flat_len (fun i hi => h i (by omega)), h n (by omega)]
    omega
theorem flat_get {C : Nat → List Value} : ∀ {n : Nat}, (∀ i, i < n → (C i).length = 6) → ∀ i j, i < n → j < 6 → (flat C n)[i * 6 + j]? = (C i)[j]?
  | 0, _, _, _, hi, _ => by omega
  | n + 1, h, i, j, hi, hj => by
    have hlen := flat_len (C := C) (n := n) (fun i hi => h i (by omega))
    simp only [flat]
    by_cases e : i < n
    · rw [List.getElem?_append_left (by omega)]
      exact flat_get (fun i hi => h i (by omega)) i j e hj
    · obtain rfl : i = n := by omega
      rw [List.getElem?_append_right (by omega), hlen]
      congr 1
      omega
theorem flat_same {C C' : Nat → List Value} : ∀ {n : Nat}, (∀ i, i < n → C i = C' i) → flat C n = flat C' n
  | 0, _ => rfl
  | n + 1, h => by simp only [flat]; rw [flat_same (fun i hi => h i (by omega)), h n (by omega)]

/-- v is a slice of impl.Value of the call's own that holds l; what its elements lie in is at or above lo, and not the row itself. -/
def RowS (w : World) (lo base : Nat) (v : Value) (l : List V) : Prop :=
  ∃ (C : Nat → List Value) (F : Nat → Nat → Prop), w.ownsRow base 26 6 v l.length (flat C l.length) ∧ (∀ i (hi : i < l.length), RepS w (F i) l[i] (C i)) ∧
    ∀ i k, i < l.length → F i k → lo ≤ k ∧ k < w.heap.size ∧ v.ownBlock ≠ some k

theorem RowS.nil (w : World) (lo base : Nat) : RowS w lo base (.slice none 0 0) [] :=
  ⟨fun _ => [], fun _ _ => False, World.ownsRow_nil _ _ _ _, fun i hi => by simp at hi, fun _ _ hi => by simp at hi⟩

theorem RowS.kept {w w' : World} {lo base : Nat} {v : Value} {l : List V} (h : RowS w lo base v l) (row : Option Nat) (hg : w.grownBy w' row) (hlo : lo ≤ base) (hr : ∀ k, row = some k → k < lo) : RowS w' lo base v l := by
  obtain ⟨C, F, hown, hr1, hF⟩ := h
  refine ⟨C, F, hown.kept hg ?_, fun i hi => (hr1 i hi).carry fun k hk => ?_, fun i k hi hk => ?_⟩
  · cases hv : v.ownBlock with
    | none => exact .inl rfl
    | some b =>
      refine .inr fun e => ?_
      have := hown.lt b hv
      have := hr b e.symm
      omega
  · obtain ⟨h1, h2, _⟩ := hF i k hi hk
    exact hg.block k h2 (fun e => by have := hr k e.symm; omega)
  · obtain ⟨h1, h2, h3⟩ := hF i k hi hk
    exact ⟨h1, by have := hg.size; omega, h3⟩

/-- What append leaves. -/
theorem RowS.step {w w' : World} {lo base : Nat} {v v' : Value} {l : List V} {x : V} {cs : List Value} {S : Nat → Prop} {C : Nat → List Value} {F : Nat → Nat → Prop}
    (hr1 : ∀ i (hi : i < l.length), RepS w (F i) l[i] (C i)) (hF : ∀ i k, i < l.length → F i k → lo ≤ k ∧ k < w.heap.size ∧ v.ownBlock ≠ some k)
    (hx : RepS w S x cs) (hS : ∀ k, S k → lo ≤ k ∧ k < w.heap.size ∧ v.ownBlock ≠ some k)
    (hown : w'.ownsRow base 26 6 v' (l.length + 1) (flat C l.length ++ cs)) (hg : w.grownBy w' v.ownBlock) (hat : v'.ownBlock = v.ownBlock ∨ v'.ownBlock = some w.heap.size) :
    RowS w' lo base v' (l ++ [x]) := by
  have key : ∀ k, lo ≤ k ∧ k < w.heap.size ∧ v.ownBlock ≠ some k → lo ≤ k ∧ k < w'.heap.size ∧ v'.ownBlock ≠ some k := fun k ⟨h1, h2, h3⟩ => by
    refine ⟨h1, by have := hg.size; omega, ?_⟩
    rcases hat with e | e
    · rw [e]; exact h3
    · rw [e]; intro e'; cases e'; omega
  refine ⟨fun i => if i < l.length then C i else cs, fun i => if i < l.length then F i else S, ?_, ?_, ?_⟩
  · rw [List.length_append, List.length_singleton]
    simp only [flat]
    rw [if_neg (by omega), flat_same (C' := C) (fun i hi => by rw [if_pos hi])]
    exact hown
  · intro i hi
    rw [List.length_append, List.length_singleton] at hi
    by_cases e : i < l.length
    · simp only [e, if_true]
      rw [List.getElem_append_left e]
      exact (hr1 i e).carry fun k hk => hg.block k (hF i k e hk).2.1 (fun e' => (hF i k e hk).2.2 e'.symm)
    · obtain rfl : i = l.length := by omega
      simp only [Nat.lt_irrefl, if_false]
      rw [List.getElem_append_right (by omega)]
      simp only [Nat.sub_self, List.getElem_cons_zero]
      exact hx.carry fun k hk => hg.block k (hS k hk).2.1 (fun e' => (hS k hk).2.2 e'.symm)
  · intro i k hi hk
    rw [List.length_append, List.length_singleton] at hi
    by_cases e : i < l.length
    · simp only [e, if_true] at hk
      exact key k (hF i k e hk)
    · simp only [e, if_false] at hk
      exact key k (hS k hk)

theorem RowS.parts {w : World} {lo base : Nat} {v : Value} {l : List V} (h : RowS w lo base v l) (hlo : lo ≤ base) :
    ∃ (la : Option Addr) (lc : Nat) (C : Nat → List Value), v = .slice la l.length lc ∧
      (0 < l.length → ∃ b o, la = some ⟨b, o, none⟩ ∧ (lo ≤ b ∧ b < w.heap.size) ∧ ∀ i, i < l.length → CellsAt w b (o + i * 6) (C i)) ∧
      (∀ i (hi : i < l.length), RepS w (fun k => lo ≤ k ∧ k < w.heap.size) l[i] (C i)) ∧ l.length ≤ lc := by
  obtain ⟨C, F, hown, hr, hF⟩ := h
  have h6 : ∀ i, i < l.length → (C i).length = 6 := fun i hi => (hr i hi).six
  have hr' : ∀ i (hi : i < l.length), RepS w (fun k => lo ≤ k ∧ k < w.heap.size) l[i] (C i) := fun i hi => (hr i hi).mono fun k hk => ⟨(hF i k hi hk).1, (hF i k hi hk).2.1⟩
  rcases hown.2 with ⟨e, h0⟩ | ⟨g, cap, cur, e, hb, hg, hnc, _⟩
  · exact ⟨none, 0, C, by rw [e, h0], fun h => by omega, hr', by omega⟩
  · refine ⟨some ⟨g, 0, none⟩, cap, C, e, fun _ => ⟨g, 0, rfl, ⟨by omega, (Array.getElem?_eq_some_iff.1 hg).1⟩, fun i hi j hj => ?_⟩, hr', hnc⟩
    have hj6 : j < 6 := by have := h6 i hi; omega
    have hc := hown.cells (g := g) (by rw [e]; rfl) (i * 6 + j) (C i)[j] (by rw [flat_get h6 i j hi hj6, List.getElem?_eq_getElem hj])
    rw [addr_add] at hc
    rw [Nat.zero_add]
    exact hc

/-- An array over such a row. -/
theorem RowS.list {w : World} {lo base : Nat} {v : Value} {l : List V} (h : RowS w lo base v l) (hlo : lo ≤ base) (hl : l.length * 104 ≤ 140737488351232) :
    ∃ la lc, v = .slice la l.length lc ∧ RepS w (fun k => lo ≤ k ∧ k < w.heap.size) (.mk 5 0 ⟨#[]⟩ l [] []) [.int .i64 5, .int .i64 0, .string ⟨#[]⟩, .slice la l.length lc, .slice none 0 0, .slice none 0 0] := by
  obtain ⟨la, lc, C, e, cl, rl, hlc⟩ := h.parts hlo
  exact ⟨la, lc, e, .mk (ks := []) (vs := []) C C (by omega) (by omega) (Nat.zero_le _ : (⟨#[]⟩ : ByteArray).size ≤ _) hl (by simp) (by simp) (fun s hs => by simp at hs) cl rl (fun h => by simp at h) (fun h => by simp at h) (fun i hi => by simp at hi) hlc⟩

/-- A map over a row of keys and a row of values. -/
theorem RowS.map {w : World} {lo base base' : Nat} {kv v : Value} {ks : List ByteArray} {vs : List V} (hk : w.ownsRow base' 9 1 kv ks.length (ks.map .string)) (h : RowS w lo base v vs) (hlo : lo ≤ base) (hlo' : lo ≤ base')
    (hks : ks.length * 16 ≤ 140737488351232) (hvs : vs.length * 104 ≤ 140737488351232) (hs : ∀ s ∈ ks, s.size ≤ 140737488351232) :
    ∃ ka kc va vc, kv = .slice ka ks.length kc ∧ v = .slice va vs.length vc ∧
      RepS w (fun k => lo ≤ k ∧ k < w.heap.size) (.mk 6 0 ⟨#[]⟩ [] ks vs) [.int .i64 6, .int .i64 0, .string ⟨#[]⟩, .slice none 0 0, .slice ka ks.length kc, .slice va vs.length vc] := by
  obtain ⟨va, vc, D, e, cv, rv, _⟩ := h.parts hlo
  have hkk : ∃ ka kc, kv = .slice ka ks.length kc ∧ (0 < ks.length → ∃ b o, ka = some ⟨b, o, none⟩ ∧ (lo ≤ b ∧ b < w.heap.size) ∧ ∀ i (hi : i < ks.length), w.cell? ⟨b, o + i, none⟩ = some (.string ks[i])) := by
    rcases hk.2 with ⟨e, h0⟩ | ⟨g, cap, cur, e, hb, hg, _⟩
    · exact ⟨none, 0, by rw [e, h0], fun h => by omega⟩
    · refine ⟨some ⟨g, 0, none⟩, cap, e, fun _ => ⟨g, 0, rfl, ⟨by omega, (Array.getElem?_eq_some_iff.1 hg).1⟩, fun i hi => ?_⟩⟩
      have hc := hk.cells (g := g) (by rw [e]; rfl) i (.string ks[i]) (by simp [hi])
      rw [addr_add] at hc
      rw [Nat.zero_add]
      exact hc
  obtain ⟨ka, kc, ek, ck⟩ := hkk
  exact ⟨ka, kc, va, vc, ek, e, .mk (l := []) D D (by omega) (by omega) (Nat.zero_le _ : (⟨#[]⟩ : ByteArray).size ≤ _) (by simp) hks hvs hs (fun h => by simp at h) (fun i hi => by simp at hi) ck cv rv (Nat.le_refl 0 : ([] : List V).length ≤ 0)⟩

theorem info_value : (Tryz.prog.info? 26).map (fun i => (i.zero, i.size, i.bytes)) = some (some (.agg #[.int .i64 0, .int .i64 0, .string ⟨#[]⟩, .slice none 0 0, .slice none 0 0, .slice none 0 0]), 6, 104) := by kernel_rfl

/-- A block of cells, just made. -/
theorem cells_new (w : World) (cs : List Value) (t : TypeId) : ∀ j u, cs[j]? = some u → (w.alloc (.cells cs.toArray t)).cell? ((⟨w.heap.size, 0, none⟩ : Addr).add j) = some u := by
  intro j u hu
  rw [addr_add, cell_of_row (w.alloc (.cells cs.toArray t)) w.heap.size j cs.toArray t (0, 0) (at_alloc w _)]
  simpa using hu

end Go.Proofs.YtiphcojcdegnkaaGreatDoor

namespace Go.Proofs.YtiphcojcdegnkaaGreatDoor
open Go Go.RowKit Go.Maps Go.Deep

/-- The blocks below B, and those made since w. -/
def OldNew (B : Nat) (w w' : World) (k : Nat) : Prop := k < B ∨ (w.heap.size ≤ k ∧ k < w'.heap.size)

def AnsAt (w : World) (B : Nat) (a : Ans) (e : Ending) (w' : World) : Prop :=
  ∃ (k h : Int) (t : ByteArray) (la ka va : Option Addr) (nl cl nk ck nv cv : Nat), e = .returned (.tuple #[.agg #[.int .i64 k, .int .i64 h, .string t, .slice la nl cl, .slice ka nk ck, .slice va nv cv], .int .i64 a.how]) ∧
    (∀ v, a = .fine v → RepS w' (OldNew B w w') v [.int .i64 k, .int .i64 h, .string t, .slice la nl cl, .slice ka nk ck, .slice va nv cv]) ∧ Below w.heap.size w w'

set_option maxRecDepth 100000 in
theorem array_any (a : Option Addr) (n c : Nat) (w : World) : Calls Tryz.prog 40 #[.slice a n c] w fun e w' =>
    e = .returned (.agg #[.int .i64 5, .int .i64 0, .string ⟨#[]⟩, .slice a n c, .slice none 0 0, .slice none 0 0]) ∧ Below w.heap.size w w' := by
  go_enter Tryz.func40, Tryz.ntmps40
  go_wp2_with fail
  refine bodyPost_ret (v := .agg #[.int .i64 5, .int .i64 0, .string ⟨#[]⟩, .slice a n c, .slice none 0 0, .slice none 0 0]) ?_ rfl ⟨rfl, below_alloc1 w _⟩
  exact results_cell_row (p := 2) (ty := 26) rfl _ _ w.heap.size 26 _ (0, 0) _ rfl (at_alloc w _) Tryz.underlying26 rfl (by kernel_rfl)

end Go.Proofs.YtiphcojcdegnkaaGreatDoor
