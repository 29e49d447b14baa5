/- spec.Ways. -/
/- Plain: what gojq.update makes of a tree: a value set at a path of keys and places. -/
/- A tree's own memory opened and closed: a map's entries, an array's elements, each with its footprint. -/
/- Contracts of gojq.floatToInt, of the callbacks of gojq.funcOpMod. -/
import Derived.Test.YtpoibibbkjogpaaGreatDoorM12
import Derived.Test.YtpoibibbkjogpaaGreatDoorM01
import Derived.Test.YtpoibibbkjogpaaGreatDoorM07
import Derived.WideShapes
import Derived.Maps.Ext
import Derived.Maps.Keyed
import Derived.Lib.SlMapMerge
import Derived.Test.YtpoibibbkjogpaaGreatDoorM02
import Derived.Test.YtpoibibbkjogpaaGreatDoorM04
import Derived.Deep.QuietTactic
import Derived.BigQuiet
namespace Go.Proofs.YtpoibibbkjogpaaGreatDoor
open Go Go.RowKit Go.Maps Go.Deep

theorem info_path : (Tryz.prog.info? 23).map (fun i => (i.zero, i.size, i.bytes)) = some (some (.slice none 0 0), 1, 24) := by kernel_rfl

theorem flat_one {n : Nat} {C : Nat → Value} : ∀ i, i < n → (flat (fun i => [C i]) n)[i]? = some (C i) := by
  intro i hi
  have := flatS_get (s := 1) (C := fun i => [C i]) (n := n) (fun i _ => rfl) i 0 hi (by omega)
  simpa using this

/-- Paths, read: the row's own cells, and what the paths are. -/
def PathsAt (w : World) (v : Value) (l : List (List V)) : Prop :=
  ∃ (la : Option Addr) (lc : Nat) (C : Nat → Value), v = .slice la l.length lc ∧ l.length ≤ lc ∧ (0 < l.length → ∃ b, la = some ⟨b, 0, none⟩ ∧ b < w.heap.size ∧ ∀ i, i < l.length → w.cell? ⟨b, i, none⟩ = some (C i)) ∧ ∀ i (hi : i < l.length), PathS w (· < w.heap.size) l[i] (C i)
theorem PathsAt.below {w w' : World} {v : Value} {l : List (List V)} (h : PathsAt w v l) (hb : Below w.heap.size w w') : PathsAt w' v l := by
  obtain ⟨la, lc, C, e, hlc, hc, hp⟩ := h
  refine ⟨la, lc, C, e, hlc, fun h0 => ?_, fun i hi => (hp i hi).turn fun q hq => ⟨hb.block q hq, Nat.lt_of_lt_of_le hq hb.size⟩⟩
  obtain ⟨b, e, hbN, hcel⟩ := hc h0
  exact ⟨b, e, Nat.lt_of_lt_of_le hbN hb.size, fun i hi => (hb.cell hbN).trans (hcel i hi)⟩

def WaysLoop (W : World) (L : Nat) (C : Nat → List Value) (v i : Value) (wr : World) : Prop :=
  ∃ (n : Nat) (v' : Value), n ≤ L ∧ v' = v ∧ i = .int .i64 (n : Nat) ∧ Below W.heap.size W wr ∧ wr.ownsRow W.heap.size 23 1 v' n (flat (fun i => [(C i).headD .nilIface]) n)

theorem ways_fin {w0 W wr : World} {B : Nat} {C : Nat → List Value} {vv : Value} {l : List (List V × V)} (hb : Below W.heap.size W wr) (hown : wr.ownsRow W.heap.size 23 1 vv l.length (flat (fun i => [(C i).headD .nilIface]) l.length))
    (hs : ∀ i (hi : i < l.length), SpotS W w0 B (fun k => k < W.heap.size) l[i] (C i)) : PathsAt wr vv (l.map (·.1)) := by
  have hp : ∀ i (hi : i < (l.map (·.1)).length), PathS wr (· < wr.heap.size) (l.map (·.1))[i] ((C i).headD .nilIface) := by
    intro i hi
    have hi' : i < l.length := by simpa using hi
    obtain ⟨pv, cy, e, hp, _⟩ := hs i hi'
    rw [List.getElem_map, e]
    exact hp.turn fun q hq => ⟨hb.block q hq, Nat.lt_of_lt_of_le hq hb.size⟩
  rcases hown.2 with ⟨e, h0⟩ | ⟨g, cap, cur, e, hgb, hg, hnc, _⟩
  · exact ⟨none, 0, _, by rw [e, List.length_map, h0], by rw [List.length_map]; omega, fun h => by rw [List.length_map] at h; omega, hp⟩
  · refine ⟨some ⟨g, 0, none⟩, cap, _, by rw [List.length_map]; exact e, by rw [List.length_map]; exact hnc, fun _ => ⟨g, rfl, (Array.getElem?_eq_some_iff.1 hg).1, fun i hi => ?_⟩, hp⟩
    have hc := World.ownsRow.cells hown (g := g) (by rw [e]; rfl) i _ (flat_one (C := fun i => (C i).headD .nilIface) i (by simpa using hi))
    rw [addr_add] at hc
    exact hc

set_option maxHeartbeats 4000000 in
set_option maxRecDepth 100000 in
theorem ways_any (w0 : World) (B : Nat) (w : World) (v : V) (cy : List Value) (hr : RepV w0 B v cy) (g : Good v) (hb0 : Below B w0 w) (hB : B ≤ w.heap.size) (hz : sizeV v ≤ 400) :
    Calls Tryz.prog 24 #[.agg cy.toArray] w fun e w' => ∃ out, e = .returned out ∧ Below w.heap.size w w' ∧ PathsAt w' out ((spotsV [] v).map (·.1)) := by
  have Hr := Lib.hid hr
  obtain ⟨k, h, t, la, ka, va, nl, cl, nk, ck, nv, cv, rfl⟩ := hr.shape
  have hbW := below_alloc1 w (.cells #[.int .i64 k, .int .i64 h, .string t, .slice la nl cl, .slice ka nk ck, .slice va nv cv] 26)
  have hsW := size_alloc1 w (.cells #[.int .i64 k, .int .i64 h, .string t, .slice la nl cl, .slice ka nk ck, .slice va nv cv] 26)
  have hat := at_alloc w (.cells #[.int .i64 k, .int .i64 h, .string t, .slice la nl cl, .slice ka nk ck, .slice va nv cv] 26)
  clear hr
  go_enter Tryz.func24, Tryz.ntmps24
  go_wp2_with fail
  generalize w.alloc _ = W at *
  have hs0 : SpotS W w0 B (fun k => k < W.heap.size) ([], v) [.slice none 0 0, .int .i64 k, .int .i64 h, .string t, .slice la nl cl, .slice ka nk ck, .slice va nv cv] :=
    ⟨_, _, rfl, ⟨none, 0, rfl, Nat.zero_le _, fun h => by simp at h⟩, fun _ => rfl, Hr.out⟩
  refine (spots_any w0 B (sizeV v) v (Nat.le_refl _) g W [] _ _ hs0 (fun k hk => hk) (hb0.trans (hbW.mono hB)) (by omega) (by simp; omega) hz).mono ?_
  rintro e w2 ⟨ou, rfl, hb2, hat2⟩
  have hs2 := hb2.size
  have hw2 : Below w.heap.size w w2 := hbW.trans (hb2.mono (by omega))
  obtain ⟨xa, xc, C, rfl, _, hxc, hxs⟩ := hat2
  have Hxc := Lib.hid hxc
  have Hxs := Lib.hid hxs
  have hlen := spotsV_len [] v
  clear hxc hxs hs0 hat hbW
  have hpos := spotsV_pos [] v
  have Hfin := Lib.hid fun (wr : World) (vv : Value) (hb : Below w2.heap.size w2 wr) (hown : wr.ownsRow w2.heap.size 23 1 vv (spotsV [] v).length (flat (fun i => [(C i).headD .nilIface]) (spotsV [] v).length)) => ways_fin hb hown (fun i hi => (Hxs.out i hi).turn (S' := fun k => k < w2.heap.size) fun q hq => ⟨rfl, hq.2⟩)
  go_wp2_with fail
  go_loopw [3, 10] (fun v' i wr => WaysLoop w2 (spotsV [] v).length C v' i wr) (fun _ i _ => (spotsV [] v).length - (intOf i).toNat)
  case atStart => exact ⟨0, _, Nat.zero_le _, rfl, rfl, Below.refl _ _, World.ownsRow_nil _ _ _ _⟩
  case round =>
    obtain ⟨n, vv, hn, rfl, rfl, hb, hown⟩ := hrel
    by_cases hn' : n < (spotsV [] v).length
    · obtain ⟨b, rfl, ⟨_, hbN⟩, hcel⟩ := Hxc.out (by omega)
      have hn2 : n < (spotsV [] v).length := by omega
      have hsp := Hxs.out n hn2
      obtain ⟨qa, qn, qc, dk, dh, dt, dla, dka, dva, dnl, dcl, dnk, dck, dnv, dcv, hC⟩ := hsp.shape
      have hce := hcel n hn'
      rw [hC] at hce
      have hce' := hce.same (hb.block b hbN)
      obtain ⟨k0, k1, k2, k3, k4, k5, k6⟩ := cells7 hce'
      have u1 : (n : Int) < ((spotsV [] v).length : Int) := by omega
      have u2 : (0 : Int) ≤ (n : Int) := by omega
      obtain ⟨i0, hi, hz0, hz1, hz2⟩ := info_parts info_path
      have hhead : (C n).headD .nilIface = .slice qa qn qc := by rw [hC]; rfl
      obtain ⟨X1, hX1⟩ : ∃ X1, X1 = wr.alloc (.cells #[.slice qa qn qc, .int .i64 dk, .int .i64 dh, .string dt, .slice dla dnl dcl, .slice dka dnk dck, .slice dva dnv dcv] 73) := ⟨_, rfl⟩
      have hX1s : X1.heap.size = wr.heap.size + 1 := by rw [hX1]; simp
      have hbX1 : Below wr.heap.size wr X1 := by rw [hX1]; exact below_alloc1 _ _
      have HX1 := Lib.hid hX1
      clear hX1
      have hs := hb.size
      clear hcel hsp hce hce' hC
      obtain ⟨X, hX⟩ : ∃ X, X = X1.alloc (.cells #[.slice qa qn qc] 23) := ⟨_, rfl⟩
      have hXs : X.heap.size = wr.heap.size + 1 + 1 := by rw [hX]; simp [hX1s]
      have hbX : Below wr.heap.size wr X := hbX1.trans (by rw [hX]; exact (below_alloc1 X1 _).mono (by omega))
      have hnews : ∀ j u, [Value.slice qa qn qc][j]? = some u → X.cell? ((⟨wr.heap.size + 1, 0, none⟩ : Addr).add j) = some u := by
        rw [hX, ← hX1s]
        exact cells_new X1 [.slice qa qn qc] 23
      have HX : Hid ((wr.alloc (.cells #[.slice qa qn qc, .int .i64 dk, .int .i64 dh, .string dt, .slice dla dnl dcl, .slice dka dnk dck, .slice dva dnv dcv] 73)).alloc (.cells #[.slice qa qn qc] 23) = X) := by
        rw [← HX1.out]; exact Lib.hid hX.symm
      have hown2 := kept_row0 hown (below_grown2 hbX none)
      have hob := fun q hq => (World.ownsRow.lt hown q hq).1
      have hnext : ∀ v' w', w'.ownsRow w2.heap.size 23 1 v' (n + 1) (flat (fun i => [(C i).headD .nilIface]) n ++ [.slice qa qn qc]) → X.grownBy w' vv.ownBlock → WaysLoop w2 (spotsV [] v).length C v' (.int .i64 ((n : Int) + 1)) w' := by
        intro v' w' ho hg6
        refine ⟨n + 1, v', by omega, rfl, rfl, (hb.trans (hbX.mono hs)).grown hg6 (by omega) hob, ?_⟩
        have e : flat (fun i => [(C i).headD .nilIface]) (n + 1) = flat (fun i => [(C i).headD .nilIface]) n ++ [.slice qa qn qc] := by simp only [flat, hhead]
        rw [e]
        exact ho
      have Hnext := Lib.hid hnext
      have c1 : n + 1 ≤ maxLen := by unfold maxLen; omega
      have c2 : (n + 1) * 24 ≤ 140737488355328 := by omega
      have c3 : w2.heap.size ≤ X.heap.size := by omega
      have c4 : ∀ u ∈ [Value.slice qa qn qc], u.oneCell' = true := by simp [Value.oneCell']
      obtain ⟨va', vc', rfl⟩ := row_form hown
      clear hnext hown hob hX HX1 hbX1 hX1s hhead
      go_wp2_with (at_builtin; go_loud (rw [HX.out]; refine wpList_append_own_at _ rfl (.tmp 14) (.tmp 17) 47 rfl w2.heap.size 23 i0 _ 1 24 Tryz.underlying47 hi hz0 hz1 hz2 rfl (by decide) _ n (flat (fun i => [(C i).headD .nilIface]) n) rfl hown2 ⟨wr.heap.size + 1, 0, none⟩ 1 1 [.slice qa qn qc] rfl rfl hnews c4 c1 c2 c3 ?_; intro v6 w6 hown6 hg6 _ hat6; have Hloop := Lib.hid (Hnext.out v6 w6 hown6 hg6); obtain ⟨la', lc', rfl⟩ := row_form hown6; clear hown6 hg6 hat6))
      go_roundw
      case rel => exact Hloop.out
      case measure => simp [intOf]; omega
    · have en : n = (spotsV [] v).length := by omega
      have u1 : ¬ ((n : Int) < ((spotsV [] v).length : Int)) := by omega
      rw [en] at hown
      have hf := Hfin.out wr vv hb hown
      have Hf := Lib.hid hf
      have Hbf := Lib.hid (hw2.trans (hb.mono (by omega)))
      obtain ⟨va', vc', rfl⟩ := row_form hown
      clear hown hf Hfin
      go_wp2_with fail
      go_ret
      exact ⟨_, rfl, Hbf.out, Hf.out⟩

end Go.Proofs.YtpoibibbkjogpaaGreatDoor

namespace Go.Proofs.YtpoibibbkjogpaaGreatDoor
open Go Go.RowKit

/-- A step of a path. -/
inductive Stp where
  | key (k : ByteArray)
  | idx (n : Nat)
def Stp.v : Stp → V
  | .key k => strV k
  | .idx n => numV n

def keyL (k : ByteArray) : Lit := .string k.data.toList
theorem keyL_same (a b : ByteArray) : (keyL a).sameKey (keyL b) = true ↔ a = b := by
  constructor
  · intro h
    have h2 : a.data.toList = b.data.toList := by simpa [keyL, Lit.sameKey] using h
    obtain ⟨⟨x⟩⟩ := a
    obtain ⟨⟨y⟩⟩ := b
    simp at h2
    rw [h2]
  · rintro rfl
    simp [keyL, Lit.sameKey]

section
variable {α β : Type}
def insK (x : ByteArray × α) : List (ByteArray × α) → List (ByteArray × α)
  | [] => [x]
  | y :: r => if (keyL x.1).before (keyL y.1) then x :: y :: r else y :: insK x r
/-- An entry laid into a map's sorted entries. -/
def putK (m : List (ByteArray × α)) (k : ByteArray) (a : α) : List (ByteArray × α) := insK (k, a) (m.filter fun p => !(keyL p.1).sameKey (keyL k))
def getK (m : List (ByteArray × α)) (k : ByteArray) : Option α := (m.find? fun p => (keyL p.1).sameKey (keyL k)).map (·.2)
def RisesK (m : List (ByteArray × α)) : Prop := m.Pairwise fun p q => (keyL p.1).before (keyL q.1) = true

theorem mem_insK {x y : ByteArray × α} : ∀ {l : List (ByteArray × α)}, y ∈ insK x l ↔ y = x ∨ y ∈ l
  | [] => by simp [insK]
  | z :: r => by
    unfold insK
    split
    · simp
    · simp only [List.mem_cons, mem_insK (l := r)]
      constructor
      · rintro (h | h | h) <;> simp [h]
      · rintro (h | h | h) <;> simp [h]
theorem mem_putK {m : List (ByteArray × α)} {k : ByteArray} {a : α} {y : ByteArray × α} : y ∈ putK m k a ↔ y = (k, a) ∨ (y ∈ m ∧ y.1 ≠ k) := by
  unfold putK
  rw [mem_insK, List.mem_filter]
  constructor
  · rintro (h | ⟨h, h2⟩)
    · exact .inl h
    · exact .inr ⟨h, fun e => by rw [(keyL_same _ _).2 e] at h2; cases h2⟩
  · rintro (h | ⟨h, h2⟩)
    · exact .inl h
    · refine .inr ⟨h, ?_⟩
      cases c : (keyL y.1).sameKey (keyL k)
      · rfl
      · exact absurd ((keyL_same _ _).1 c) h2
theorem insK_map (f : α → β) (x : ByteArray × α) : ∀ (l : List (ByteArray × α)), (insK x l).map (fun p => (p.1, f p.2)) = insK (x.1, f x.2) (l.map fun p => (p.1, f p.2))
  | [] => by simp [insK]
  | y :: r => by
    unfold insK
    simp only [List.map_cons]
    split
    · rfl
    · rw [List.map_cons, insK_map f x r]
theorem putK_map (f : α → β) (m : List (ByteArray × α)) (k : ByteArray) (a : α) : (putK m k a).map (fun p => (p.1, f p.2)) = putK (m.map fun p => (p.1, f p.2)) k (f a) := by
  unfold putK
  rw [insK_map, List.filter_map]
  rfl
theorem insK_len (x : ByteArray × α) : ∀ (l : List (ByteArray × α)), (insK x l).length = l.length + 1
  | [] => rfl
  | y :: r => by
    unfold insK
    split
    · rfl
    · simp [insK_len x r]
theorem putK_len (m : List (ByteArray × α)) (k : ByteArray) (a : α) : (putK m k a).length ≤ m.length + 1 := by
  unfold putK
  rw [insK_len]
  have := List.length_filter_le (fun p => !(keyL p.1).sameKey (keyL k)) m
  omega
theorem insK_pair {R : ByteArray × α → ByteArray × α → Prop} {x : ByteArray × α} : ∀ {l : List (ByteArray × α)}, l.Pairwise R → (∀ y ∈ l, R x y ∧ R y x) → (insK x l).Pairwise R
  | [], _, _ => by simp [insK]
  | y :: r, h, hx => by
    obtain ⟨h1, h2⟩ := List.pairwise_cons.1 h
    unfold insK
    split
    · exact List.pairwise_cons.2 ⟨fun z hz => (hx z hz).1, h⟩
    · refine List.pairwise_cons.2 ⟨fun z hz => ?_, insK_pair h2 fun z hz => hx z (List.mem_cons_of_mem _ hz)⟩
      rcases mem_insK.1 hz with rfl | hz
      · exact (hx y (List.mem_cons_self ..)).2
      · exact h1 z hz
theorem putK_pair {R : ByteArray × α → ByteArray × α → Prop} {m : List (ByteArray × α)} {k : ByteArray} {a : α} (h : m.Pairwise R) (hx : ∀ y ∈ m, y.1 ≠ k → R (k, a) y ∧ R y (k, a)) : (putK m k a).Pairwise R := by
  unfold putK
  refine insK_pair (h.filter _) fun y hy => ?_
  obtain ⟨h1, h2⟩ := List.mem_filter.1 hy
  exact hx y h1 fun e => by rw [(keyL_same _ _).2 e] at h2; cases h2
/-- As the model's maps put it. -/
theorem insK_data {H : Type} (g : α → DataW H) (x : ByteArray × α) : ∀ (l : List (ByteArray × α)), (insK x l).map (fun p => (keyL p.1, g p.2)) = DataW.insert (keyL x.1, g x.2) (l.map fun p => (keyL p.1, g p.2))
  | [] => by simp [insK, DataW.insert]
  | y :: r => by
    unfold insK
    simp only [List.map_cons, DataW.insert]
    split
    · rfl
    · rw [List.map_cons, insK_data g x r]
theorem putK_data {H : Type} (g : α → DataW H) (m : List (ByteArray × α)) (k : ByteArray) (a : α) : (DataW.map (m.map fun p => (keyL p.1, g p.2))).put (keyL k) (g a) = .map ((putK m k a).map fun p => (keyL p.1, g p.2)) := by
  unfold putK
  rw [insK_data]
  show DataW.map (DataW.insert (keyL k, g a) (List.filter (fun p => !p.1.sameKey (keyL k)) (m.map fun p => (keyL p.1, g p.2)))) = _
  rw [List.filter_map]
  rfl
theorem rises_irrefl {m : List (ByteArray × α)} (h : RisesK m) : m.Pairwise fun p q => p.1 ≠ q.1 :=
  h.imp fun {a b} hab e => by rw [e, Go.WideShapes.before_irrefl] at hab; cases hab
theorem getK_mem {m : List (ByteArray × α)} {k : ByteArray} {a : α} (h : getK m k = some a) : (k, a) ∈ m := by
  unfold getK at h
  obtain ⟨p, hp, rfl⟩ := Option.map_eq_some_iff.1 h
  have h1 := List.find?_some hp
  have h2 := List.mem_of_find?_eq_some hp
  rw [← (keyL_same _ _).1 h1]
  exact h2
theorem getK_none {m : List (ByteArray × α)} {k : ByteArray} (h : getK m k = none) : ∀ p ∈ m, p.1 ≠ k := by
  unfold getK at h
  have h1 := List.find?_eq_none.1 (Option.map_eq_none_iff.1 h)
  intro p hp e
  exact h1 p hp ((keyL_same _ _).2 e)
theorem getK_of {m : List (ByteArray × α)} (hr : m.Pairwise fun p q => p.1 ≠ q.1) {k : ByteArray} {a : α} (h : (k, a) ∈ m) : getK m k = some a := by
  induction m with
  | nil => cases h
  | cons y r ih =>
    obtain ⟨h1, h2⟩ := List.pairwise_cons.1 hr
    unfold getK
    rw [List.find?_cons]
    rcases List.mem_cons.1 h with rfl | h
    · rw [(keyL_same _ _).2 rfl]
      rfl
    · have : (keyL y.1).sameKey (keyL k) = false := by
        cases c : (keyL y.1).sameKey (keyL k)
        · rfl
        · exact absurd ((keyL_same _ _).1 c) (h1 _ h)
      rw [this]
      exact ih h2 h
theorem before_asymm {a b : ByteArray} (h : (keyL a).before (keyL b) = true) : (keyL b).before (keyL a) = false := by
  cases c : (keyL b).before (keyL a)
  · rfl
  · have := Go.WideShapes.before_trans h c
    rw [Go.WideShapes.before_irrefl] at this
    cases this
/-- What stands there is put there again. -/
theorem putK_same : ∀ {m : List (ByteArray × α)} (_ : RisesK m) {k : ByteArray} {a : α} (_ : (k, a) ∈ m), putK m k a = m
  | [], _, _, _, h => by cases h
  | y :: r, hr, k, a, h => by
    have hne := rises_irrefl hr
    obtain ⟨h1, h2⟩ := List.pairwise_cons.1 hr
    obtain ⟨n1, n2⟩ := List.pairwise_cons.1 hne
    unfold putK
    rw [List.filter_cons]
    rcases List.mem_cons.1 h with rfl | h
    · rw [(keyL_same _ _).2 rfl]
      have e : r.filter (fun p => !(keyL p.1).sameKey (keyL k)) = r := List.filter_eq_self.2 fun p hp => by
        cases c : (keyL p.1).sameKey (keyL k)
        · rfl
        · exact absurd ((keyL_same _ _).1 c).symm (n1 p hp)
      simp only [Bool.not_true, Bool.false_eq_true, if_false, e]
      cases r with
      | nil => rfl
      | cons z s => unfold insK; rw [if_pos (h1 z (List.mem_cons_self ..))]
    · have e : (keyL y.1).sameKey (keyL k) = false := by
        cases c : (keyL y.1).sameKey (keyL k)
        · rfl
        · exact absurd ((keyL_same _ _).1 c) (n1 _ h)
      have hb := before_asymm (h1 _ h)
      simp only [e, Bool.not_false, if_true]
      unfold insK
      rw [if_neg (by simp only at hb ⊢; rw [hb]; simp)]
      congr 1
      exact putK_same h2 h
end

def isHole : J → Bool
  | .hole => true
  | _ => false

/-- An array with u at place i, filled up with null where it is too short. -/
def padJ (l : List J) (i : Nat) (u : J) : List J := (l ++ List.replicate (i + 1 - l.length) J.null).set i u
theorem padJ_in {l : List J} {i : Nat} (h : i < l.length) (u : J) : padJ l i u = l.set i u := by
  unfold padJ
  rw [show i + 1 - l.length = 0 by omega]
  simp

/-- The tree v with n at the path p; none: an error. -/
def updJ : J → List Stp → J → Option J
  | _, [], n => some n
  | v, .key k :: p, n => match v with
    | .null => if isHole n then some .null else (updJ .null p n).map fun u => .obj [(k, u)]
    | .obj m => match getK m k with
      | none => if isHole n then some (.obj m) else (updJ .null p n).map fun u => .obj (putK m k u)
      | some x => (updJ x p n).map fun u => .obj (putK m k u)
    | .hole => some .hole
    | _ => none
  | v, .idx i :: p, n => match v with
    | .null => if isHole n then some .null else (updJ .null p n).map fun u => .arr (padJ [] i u)
    | .arr l => match l[i]? with
      | none => if isHole n then some (.arr l) else (updJ .null p n).map fun u => .arr (padJ l i u)
      | some x => (updJ x p n).map fun u => .arr (padJ l i u)
    | .hole => some .hole
    | _ => none

/-- Where n is the hole, each place on the path p is there in v. -/
def Fine : J → List Stp → J → Prop
  | _, [], _ => True
  | v, .key k :: p, n => match v with
    | .obj m => ∀ x, getK m k = some x → Fine x p n
    | _ => True
  | v, .idx i :: p, n => match v with
    | .arr l => ∀ x, l[i]? = some x → Fine x p n
    | _ => True
theorem fine_null (p : List Stp) (n : J) : Fine .null p n := by
  cases p with
  | nil => trivial
  | cons x p => cases x <;> trivial
theorem fine_all : ∀ (p : List Stp) (v n : J), isHole n = false → Fine v p n
  | [], _, _, _ => by unfold Fine; trivial
  | .key k :: p, v, n, h => by
    cases v <;> try (unfold Fine; trivial)
    exact fun x _ => fine_all p x n h
  | .idx i :: p, v, n, h => by
    cases v <;> try (unfold Fine; trivial)
    exact fun x _ => fine_all p x n h

theorem fine_any : ∀ (p : List Stp) (v n : J), Fine v p n
  | [], _, _ => by unfold Fine; trivial
  | .key k :: p, v, n => by
    cases v <;> try (unfold Fine; trivial)
    exact fun x _ => fine_any p x n
  | .idx i :: p, v, n => by
    cases v <;> try (unfold Fine; trivial)
    exact fun x _ => fine_any p x n

theorem toJM_rises : ∀ {ks : List ByteArray} {vs : List V} (_ : ks.length = vs.length) (_ : ks.Pairwise fun a b => (keyL a).before (keyL b) = true), RisesK (toJM ks vs)
  | [], _, _, _ => by unfold toJM RisesK; simp
  | _ :: _, [], h, _ => by simp at h
  | k :: ks, v :: vs, h, hr => by
    obtain ⟨h1, h2⟩ := List.pairwise_cons.1 hr
    unfold toJM RisesK
    refine List.pairwise_cons.2 ⟨fun q hq => ?_, toJM_rises (by simpa using h) h2⟩
    rw [toJM_eq] at hq
    exact h1 _ (List.of_mem_zip hq).1

theorem stps_of {v : V} {p : List V} {y : V} (h : WayTo v p y) : ∃ s : List Stp, p = s.map Stp.v ∧ ∀ n, Stp.idx n ∈ s → n < sizeV v := by
  induction h with
  | here v => exact ⟨[], rfl, fun n h => by cases h⟩
  | @elem k h t l ks vs p y i hi hw ih =>
    obtain ⟨s, rfl, hs⟩ := ih
    have h1 := sizeL_get hi
    have h2 := sizeL_len l
    refine ⟨.idx i :: s, rfl, fun n hn => ?_⟩
    rw [sizeV]
    rcases List.mem_cons.1 hn with e | hn
    · cases e; omega
    · have := hs n hn; omega
  | @key k h t l ks vs p y i hk hi hw ih =>
    obtain ⟨s, rfl, hs⟩ := ih
    have h1 := sizeL_get hi
    refine ⟨.key ks[i] :: s, rfl, fun n hn => ?_⟩
    rw [sizeV]
    rcases List.mem_cons.1 hn with e | hn
    · cases e
    · have := hs n hn; omega

theorem keys_rise {ks : List ByteArray} (rise : ∀ i (hi : i + 1 < ks.length), Op.bytesLess ks[i].toList ks[i + 1].toList = true) : ks.Pairwise fun a b => (keyL a).before (keyL b) = true := by
  rw [List.pairwise_iff_getElem]
  intro i j hi hj hij
  have := rise_all ks rise j hj i hij
  show bytesBefore ks[i].data.toList ks[j].data.toList = true
  rw [before_eq]
  simpa [ByteArray.toList_eq] using this

theorem numV_inj {a b : Nat} (h : numV a = numV b) : a = b := by
  unfold numV at h
  injection h with _ h
  omega
theorem strV_inj {a b : ByteArray} (h : strV a = strV b) : a = b := by
  unfold strV at h
  injection h

/-- Set what stands there: nothing changes. -/
theorem upd_way {v : V} {p : List V} {y : V} (h : WayTo v p y) : ∀ (_ : Good v) (s : List Stp), p = s.map Stp.v → updJ (toJ v) s (toJ y) = some (toJ v) := by
  induction h with
  | here v =>
    intro _ s hs
    obtain rfl : s = [] := List.map_eq_nil_iff.1 hs.symm
    rfl
  | @elem k h t l ks vs p y i hi hw ih =>
    intro g s hs
    cases s with
    | nil => cases hs
    | cons x s =>
      rw [List.map_cons, List.cons.injEq] at hs
      obtain ⟨hx, hs⟩ := hs
      cases x with
      | key k' => exact absurd hx (by simp [Stp.v, numV, strV])
      | idx n =>
        obtain rfl : i = n := numV_inj hx
        obtain ⟨h5, _, _⟩ := g.kinds
        obtain rfl : k = 5 := h5.resolve_right fun e => by rw [e] at hi; simp at hi
        have gi : Good l[i] := by
          cases g with
          | mk shape half valid list rise vkeys vals => exact list i hi
        have e : toJ (.mk 5 h t l ks vs) = .arr (toJL l) := by unfold toJ; simp
        have hl : (toJL l)[i]? = some (toJ l[i]) := by rw [toJL_eq]; simp [hi]
        rw [e]
        simp only [updJ, hl, ih gi s hs, Option.map_some]
        rw [padJ_in (by rw [toJL_eq]; simpa using hi)]
        congr 2
        rw [toJL_eq]
        apply List.ext_getElem (by simp)
        intro j h1 h2
        rw [List.getElem_set]
        split
        · rename_i e; subst e; simp
        · rfl
  | @key k h t l ks vs p y i hk hi hw ih =>
    intro g s hs
    cases s with
    | nil => cases hs
    | cons x s =>
      rw [List.map_cons, List.cons.injEq] at hs
      obtain ⟨hx, hs⟩ := hs
      cases x with
      | idx n => exact absurd hx (by simp [Stp.v, numV, strV])
      | key k' =>
        obtain rfl : ks[i] = k' := strV_inj hx
        obtain ⟨_, h6, hlen⟩ := g.kinds
        obtain rfl : k = 6 := h6.resolve_right fun e => by rw [e] at hk; simp at hk
        have gi : Good vs[i] := by
          cases g with
          | mk shape half valid list rise vkeys vals => exact vals i hi
        have hr : RisesK (toJM ks vs) := by
          cases g with
          | mk shape half valid list rise vkeys vals => exact toJM_rises hlen (keys_rise rise)
        have e : toJ (.mk 6 h t l ks vs) = .obj (toJM ks vs) := by unfold toJ; simp
        have hm : (ks[i], toJ vs[i]) ∈ toJM ks vs := by
          rw [toJM_eq]
          have : (ks.zip (vs.map toJ))[i]? = some (ks[i], toJ vs[i]) := by simp [List.getElem?_zip_eq_some, hk, hi]
          exact List.mem_of_getElem? this
        rw [e]
        simp only [updJ, getK_of (rises_irrefl hr) hm, ih gi s hs, Option.map_some]
        rw [putK_same hr hm]

end Go.Proofs.YtpoibibbkjogpaaGreatDoor

namespace Go.Proofs.YtpoibibbkjogpaaGreatDoor
open Go Go.RowKit Go.Maps Go.Deep

/-- A part of a tree: what it is, the value that holds it, the blocks that it lies in. -/
structure Part where
  j : J
  v : Value
  f : Nat → Prop
def Part.ok (w : World) (x : Part) : Prop := RepJ w x.f x.j x.v

def entT (t : List (ByteArray × Part)) : List (Lit × DataW Value) := t.map fun x => (keyL x.1, DataW.held x.2.v)
def MapE (w : World) (r : Nat) (t : List (ByteArray × Part)) : Prop := ∃ n, n ≤ 140737488351232 ∧ w.ownsMap Tryz.prog 9 heldR r n (.map (entT t))
def jOf (t : List (ByteArray × Part)) : List (ByteArray × J) := t.map fun x => (x.1, x.2.j)

theorem MapE.at {w : World} {r : Nat} {t : List (ByteArray × Part)} : MapE w r t ↔ MapAt w r (jOf t) (fun i => (t[i]?.map (·.2.v)).getD .nilIface) := by
  have e : entT t = entries (jOf t) (fun i => (t[i]?.map (·.2.v)).getD .nilIface) := by
    apply List.ext_getElem
    · simp [entT, entries, jOf]
    · intro i h1 h2
      have hi : i < t.length := by simpa [entT] using h1
      simp [entT, entries, jOf, keyL, hi]
  unfold MapE MapAt
  rw [e]

/-- Footprints of two parts have no block in common. -/
def Off (x y : ByteArray × Part) : Prop := ∀ k, x.2.f k → y.2.f k → False
theorem Off.symm {x y : ByteArray × Part} (h : Off x y) : Off y x := fun k a b => h k b a

def EntOK (w : World) (S : Nat → Prop) (r : Nat) (x : ByteArray × Part) : Prop := x.1.size ≤ 140737488351232 ∧ ¬ x.2.f r ∧ (∀ k, x.2.f k → S k) ∧ RepJ w x.2.f x.2.j x.2.v

theorem obj_open {w : World} {S : Nat → Prop} {m : List (ByteArray × J)} {v : Value} (h : RepJ w S (.obj m) v) :
    ∃ r t, v = .iface 62 (.map (some r)) ∧ S r ∧ m = jOf t ∧ MapE w r t ∧ (∀ x ∈ t, EntOK w S r x) ∧ t.Pairwise Off := by
  cases h with
  | @obj _ _ r E F hr hm hs own sub dis rm =>
    have hlen : (m.mapIdx fun i p => (p.1, (⟨p.2, E i, F i⟩ : Part))).length = m.length := by simp
    have hget : ∀ i (hi : i < m.length), (m.mapIdx fun i p => (p.1, (⟨p.2, E i, F i⟩ : Part)))[i]'(by rw [hlen]; exact hi) = (m[i].1, ⟨m[i].2, E i, F i⟩) := fun i hi => by simp
    have hj : m = jOf (m.mapIdx fun i p => (p.1, (⟨p.2, E i, F i⟩ : Part))) := by
      apply List.ext_getElem
      · simp [jOf]
      · intro i h1 h2
        simp [jOf]
    refine ⟨r, m.mapIdx fun i p => (p.1, ⟨p.2, E i, F i⟩), rfl, hr, hj, ?_, fun x hx => ?_, ?_⟩
    · obtain ⟨n, hn, ho⟩ := hm
      refine ⟨n, hn, ?_⟩
      have e : entT (m.mapIdx fun i p => (p.1, (⟨p.2, E i, F i⟩ : Part))) = entries m E := by
        apply List.ext_getElem
        · simp [entT, entries]
        · intro i h1 h2
          simp [entT, entries, keyL]
      rw [e]
      exact ho
    · obtain ⟨i, hi, rfl⟩ := List.mem_iff_getElem.1 hx
      rw [hlen] at hi
      rw [hget i hi]
      exact ⟨hs _ (List.getElem_mem hi), own i hi, fun k hk => sub i k hi hk, rm i hi⟩
    · rw [List.pairwise_iff_getElem]
      intro i j hi hj hij
      rw [hlen] at hi hj
      rw [hget i hi, hget j hj]
      exact fun k h1 h2 => dis i j k hij hj h1 h2

theorem obj_close {w : World} {S : Nat → Prop} {r : Nat} {t : List (ByteArray × Part)} (hr : S r) (hm : MapE w r t) (hx : ∀ x ∈ t, EntOK w S r x) (hp : t.Pairwise Off) : RepJ w S (.obj (jOf t)) (.iface 62 (.map (some r))) := by
  have hlen : (jOf t).length = t.length := by simp [jOf]
  have hE : ∀ i (hi : i < t.length), ((t[i]?.map (·.2.v)).getD .nilIface) = t[i].2.v := fun i hi => by simp [hi]
  have hF : ∀ i (hi : i < t.length) k, ((t[i]?.map (·.2.f)).getD (fun _ => False)) k = t[i].2.f k := fun i hi k => by simp [hi]
  have hg : ∀ i (hi : i < t.length), (jOf t)[i]'(by rw [hlen]; exact hi) = (t[i].1, t[i].2.j) := fun i hi => by simp [jOf]
  refine .obj (fun i => (t[i]?.map (·.2.v)).getD .nilIface) (fun i => (t[i]?.map (·.2.f)).getD (fun _ => False)) hr (MapE.at.1 hm) (fun p hp => ?_) (fun i hi => ?_) (fun i k hi hk => ?_) (fun i j k hij hj h1 h2 => ?_) (fun i hi => ?_)
  · obtain ⟨i, hi, rfl⟩ := List.mem_iff_getElem.1 hp
    rw [hlen] at hi
    rw [hg i hi]
    exact (hx _ (List.getElem_mem hi)).1
  · rw [hlen] at hi
    rw [hF i hi]
    exact (hx _ (List.getElem_mem hi)).2.1
  · rw [hlen] at hi
    rw [hF i hi] at hk
    exact (hx _ (List.getElem_mem hi)).2.2.1 k hk
  · rw [hlen] at hj
    rw [hF i (by omega)] at h1
    rw [hF j hj] at h2
    exact List.pairwise_iff_getElem.1 hp i j (by omega) hj hij k h1 h2
  · rw [hlen] at hi
    have := (hx _ (List.getElem_mem hi)).2.2.2
    rw [hg i hi, hE i hi]
    have e : (t[i]?.map (·.2.f)).getD (fun _ => False) = t[i].2.f := by simp [hi]
    rw [e]
    exact this

theorem MapE.rises {w : World} {r : Nat} {t : List (ByteArray × Part)} (h : MapE w r t) : RisesK t := by
  obtain ⟨n, _, ho⟩ := h
  obtain ⟨es, e, hp, _⟩ := ho.canon law_str
  injection e with e
  subst e
  unfold entT at hp
  rw [List.pairwise_map] at hp
  exact hp
theorem MapE.carry {w w' : World} {r : Nat} {t : List (ByteArray × Part)} (h : MapE w r t) (hr : w'.heap[r]? = w.heap[r]?) : MapE w' r t := MapE.at.2 ((MapE.at.1 h).carry hr)
theorem MapE.lt {w : World} {r : Nat} {t : List (ByteArray × Part)} (h : MapE w r t) : r < w.heap.size := by
  obtain ⟨n, _, ho⟩ := h
  exact ho.lt
theorem entT_size (t : List (ByteArray × Part)) : Maps.size (.map (entT t)) = t.length := by
  rw [Maps.size_eq]; simp [entT]
theorem MapE.tight {w : World} {r n : Nat} {t : List (ByteArray × Part)} (h : w.ownsMap Tryz.prog 9 heldR r n (.map (entT t))) (hl : t.length ≤ 140737488351232) : MapE w r t := by
  obtain ⟨es, clock, hb, F, hs, eD⟩ := h
  refine ⟨es.size, ?_, es, clock, hb, F, Nat.le_refl _, eD⟩
  have e1 : Maps.size (DataW.map ((es.toList.map (WideElems.rg Tryz.prog 9 heldR)).foldr DataW.insert [])) = es.size := by simp [Maps.size, length_sorted]
  rw [← eD, entT_size] at e1
  omega
theorem entT_put (t : List (ByteArray × Part)) (k : ByteArray) (a : Part) : (DataW.map (entT t)).put (keyL k) (.held a.v) = .map (entT (putK t k a)) := putK_data (fun x : Part => DataW.held x.v) t k a
theorem jOf_put (t : List (ByteArray × Part)) (k : ByteArray) (a : Part) : jOf (putK t k a) = putK (jOf t) k a.j := putK_map (fun x : Part => x.j) t k a
theorem getK_jOf (t : List (ByteArray × Part)) (k : ByteArray) : getK (jOf t) k = (getK t k).map (·.j) := by
  unfold getK jOf
  rw [List.find?_map, Option.map_map, Option.map_map]
  rfl

theorem fold_put : ∀ (t s : List (ByteArray × Part)), RisesK (s ++ t) → (entT t).foldl (fun (D : DataW Value) p => D.put p.1 p.2) (DataW.map (entT s)) = DataW.map (entT (s ++ t))
  | [], s, _ => by simp [entT]
  | x :: t, s, h => by
    have h' : RisesK (s ++ [x] ++ t) := by rw [List.append_assoc]; exact h
    have hlt : ∀ p ∈ entT s, ∃ u, p.1 = .string u ∧ Op.bytesLess u x.1.data.toList = true := by
      intro p hp
      obtain ⟨y, hy, rfl⟩ := List.mem_map.1 hp
      refine ⟨y.1.data.toList, rfl, ?_⟩
      have := (List.pairwise_append.1 h).2.2 y hy x (List.mem_cons_self ..)
      rw [← before_eq]
      exact this
    have e : entT (x :: t) = (keyL x.1, DataW.held x.2.v) :: entT t := rfl
    rw [e, List.foldl_cons]
    show List.foldl _ ((DataW.map (entT s)).put (.string x.1.data.toList) (.held x.2.v)) _ = _
    rw [put_last _ _ _ hlt]
    have e2 : entT s ++ [(Lit.string x.1.data.toList, DataW.held x.2.v)] = entT (s ++ [x]) := by simp [entT, keyL]
    rw [e2, fold_put t (s ++ [x]) h', List.append_assoc]
    rfl
/-- A map's entries laid into a new one. -/
theorem merge_new {t : List (ByteArray × Part)} (h : RisesK t) : Lib.mergeD (.map []) (.map (entT t)) = .map (entT t) := fold_put t [] h

/-- An array's elements, each with its footprint. -/
def ArrAt (w : World) (a : Option Addr) (c : Nat) (S : Nat → Prop) (t : List Part) : Prop :=
  t.length * 16 ≤ 140737488351232 ∧ t.length ≤ c ∧ (c ≤ capMax ∧ a ≠ none) ∧ (0 < t.length → ∃ b o, a = some ⟨b, o, none⟩ ∧ S b ∧ (∀ i (hi : i < t.length), w.cell? ⟨b, o + i, none⟩ = some t[i].v) ∧ ∀ x ∈ t, ¬ x.f b) ∧
  (∀ x ∈ t, (∀ k, x.f k → S k) ∧ RepJ w x.f x.j x.v) ∧ t.Pairwise fun x y => ∀ k, x.f k → y.f k → False
theorem arr_open {w : World} {S : Nat → Prop} {l : List J} {v : Value} (h : RepJ w S (.arr l) v) : ∃ a c t, v = .iface 59 (.slice a t.length c) ∧ l = t.map (·.j) ∧ ArrAt w a c S t := by
  cases h with
  | @arr _ _ a c f b o N F hl hc ca own sub dis ra hcb hnn =>
    have hlen : (l.mapIdx fun i j => (⟨j, f (o + i), F i⟩ : Part)).length = l.length := by simp
    have hget : ∀ i (hi : i < l.length), (l.mapIdx fun i j => (⟨j, f (o + i), F i⟩ : Part))[i]'(by rw [hlen]; exact hi) = ⟨l[i], f (o + i), F i⟩ := fun i hi => by simp
    refine ⟨a, c, l.mapIdx fun i j => ⟨j, f (o + i), F i⟩, by rw [hlen], ?_, by rw [hlen]; exact hl, by rw [hlen]; exact hc, ⟨hcb, hnn⟩, fun h0 => ?_, fun x hx => ?_, ?_⟩
    · apply List.ext_getElem
      · simp
      · intro i h1 h2
        simp
    · rw [hlen] at h0
      obtain ⟨e, hb, hrow, hN⟩ := ca h0
      refine ⟨b, o, e, hb, fun i hi => ?_, fun x hx => ?_⟩
      · rw [hlen] at hi
        rw [hget i hi]
        exact hrow.cell (by omega)
      · obtain ⟨i, hi, rfl⟩ := List.mem_iff_getElem.1 hx
        rw [hlen] at hi
        rw [hget i hi]
        exact own i hi
    · obtain ⟨i, hi, rfl⟩ := List.mem_iff_getElem.1 hx
      rw [hlen] at hi
      rw [hget i hi]
      exact ⟨fun k hk => sub i k hi hk, ra i hi⟩
    · rw [List.pairwise_iff_getElem]
      intro i j hi hj hij
      rw [hlen] at hi hj
      rw [hget i hi, hget j hj]
      exact fun k h1 h2 => dis i j k hij hj h1 h2
theorem arr_close {w : World} {S : Nat → Prop} {t : List Part} {b N c : Nat} {f : Nat → Value} (hl : t.length * 16 ≤ 140737488351232) (hc : t.length ≤ c) (hcb : c ≤ capMax) (hS : S b) (hrow : w.rowIs b 20 N f) (hN : t.length ≤ N) (hv : ∀ i (hi : i < t.length), f i = t[i].v)
    (hx : ∀ x ∈ t, ¬ x.f b ∧ (∀ k, x.f k → S k) ∧ RepJ w x.f x.j x.v) (hp : t.Pairwise fun x y => ∀ k, x.f k → y.f k → False) : RepJ w S (.arr (t.map (·.j))) (.iface 59 (.slice (some ⟨b, 0, none⟩) t.length c)) := by
  have hF : ∀ i (hi : i < t.length), ((t[i]?.map (·.f)).getD (fun _ => False)) = t[i].f := fun i hi => by simp [hi]
  have hlen : (t.map (·.j)).length = t.length := by simp
  have := @RepJ.arr w S (t.map (·.j)) (some ⟨b, 0, none⟩) c f b 0 N (fun i => (t[i]?.map (·.f)).getD (fun _ => False)) (by rw [hlen]; exact hl) (by rw [hlen]; exact hc) (fun _ => ⟨rfl, hS, hrow, by rw [hlen]; omega⟩)
    (fun i hi => by rw [hlen] at hi; rw [hF i hi]; exact (hx _ (List.getElem_mem hi)).1) (fun i k hi hk => by rw [hlen] at hi; rw [hF i hi] at hk; exact (hx _ (List.getElem_mem hi)).2.1 k hk)
    (fun i j k hij hj h1 h2 => by rw [hlen] at hj; rw [hF i (by omega)] at h1; rw [hF j hj] at h2; exact List.pairwise_iff_getElem.1 hp i j (by omega) hj hij k h1 h2)
    (fun i hi => by rw [hlen] at hi; simp only [hF i hi, List.getElem_map, Nat.zero_add]; rw [hv i hi]; exact (hx _ (List.getElem_mem hi)).2.2) hcb (by simp)
  rwa [hlen] at this

end Go.Proofs.YtpoibibbkjogpaaGreatDoor

namespace Go.Proofs.YtpoibibbkjogpaaGreatDoor
open Go Go.RowKit

theorem isNaN_any (b : Nat) (w : World) : Calls Tryz.prog 178 #[.float .f64 b] w fun e w' => e = .returned (.bool (FloatKind.f64.format.order b b != some .eq)) ∧ w' = w := by
  go_enter Tryz.func178, Tryz.ntmps178
  go_wp2_with fail
  go_ret
  exact ⟨rfl, rfl⟩

def SomeInt (w : World) (e : Ending) (w' : World) : Prop := ∃ n : Int, e = .returned (.int .i64 n) ∧ -9223372036854775808 ≤ n ∧ n ≤ 9223372036854775807 ∧ Below w.heap.size w w'

set_option maxRecDepth 100000 in
theorem floatToInt_any (b : Nat) (w : World) : Calls Tryz.prog 108 #[.float .f64 b] w (SomeInt w) := by
  obtain ⟨n, w', hc, hn1, hn2, hb⟩ := conv_any w b
  go_enter Tryz.func108, Tryz.ntmps108
  go_wp2_with fail
  all_goals go_ret
  all_goals exact ⟨_, rfl, by omega, by omega, by first | exact hb | exact Below.refl _ _⟩

end Go.Proofs.YtpoibibbkjogpaaGreatDoor
