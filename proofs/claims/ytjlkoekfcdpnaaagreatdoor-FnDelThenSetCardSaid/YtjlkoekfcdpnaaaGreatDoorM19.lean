/- What reads as a datum of type impl.Value is a value of RepV. -/
/- What reads as a datum of type []uint16 is a row of numbers below 65536. -/
/- Callbacks of gojq.funcContains: what they answer where the second value is what is left of the first one. -/
/- Contract of impl.Contains where the second is what is left of the first. -/
/- For the laws on contains: what a region that deletes some parts of a value leaves; yes. -/
/- For laws.FnDelThenSet: two results' boxes that a region that draws lays and fills. -/
import Derived.Test.YtjlkoekfcdpnaaaGreatDoorM01
import Derived.ChangeArms
import Derived.SizedLaws
import Derived.ChangeSlices
import Derived.Test.YtjlkoekfcdpnaaaGreatDoorM02
import Derived.Test.YtjlkoekfcdpnaaaGreatDoorM03
import Derived.Test.YtjlkoekfcdpnaaaGreatDoorM13
import Derived.Test.YtjlkoekfcdpnaaaGreatDoorM08
import Derived.Sort.KeysCollected
import Derived.Maps.RangeWalk
import Derived.Test.YtjlkoekfcdpnaaaGreatDoorM09
import Derived.Test.YtjlkoekfcdpnaaaGreatDoorM14
import Derived.Test.YtjlkoekfcdpnaaaGreatDoorM17
import Derived.Test.YtjlkoekfcdpnaaaGreatDoorM18
namespace Go.Proofs.YtjlkoekfcdpnaaaGreatDoor
open Go Go.RowKit
theorem spot_none {w : World} {a : Addr} {v : Value} (h : w.cell? a = some v) : a.spot = none ∧ a.block < w.heap.size := by
  unfold World.cell? at h
  split at h
  · rename_i hb
    split at h
    · cases h
    · rename_i hs
      refine ⟨by simpa using hs, ?_⟩
      exact (Array.getElem?_eq_some_iff.1 hb).1
  · cases h
theorem add_none (b o i : Nat) : (⟨b, o, none⟩ : Addr).add i = ⟨b, o + i, none⟩ := by
  unfold Addr.add
  split
  · subst_vars; rfl
  · rfl
theorem weights_mem_all {H : Type} {P : Program} {e : TypeId} : ∀ {l : List (DataW H)} {i : Nat} {d : DataW H}, l[i]? = some d → ∀ n ∈ d.weights P e, n ∈ DataW.weightsAll P e l
  | [], _, _, h, _, _ => by simp at h
  | d0 :: r, 0, d, h, n, hn => by
    simp only [List.getElem?_cons_zero, Option.some.injEq] at h
    subst h
    simp only [DataW.weightsAll, List.mem_append]
    exact .inl hn
  | d0 :: r, i + 1, d, h, n, hn => by
    simp only [List.getElem?_cons_succ] at h
    simp only [DataW.weightsAll, List.mem_append]
    exact .inr (weights_mem_all h n hn)
theorem cells_value : Tryz.prog.cellsOf 26 = 6 := by kernel_rfl
theorem cells_string : Tryz.prog.cellsOf 9 = 1 := by kernel_rfl
theorem bytes_value : Tryz.prog.bytesOf 26 = 104 := by kernel_rfl
theorem bytes_string : Tryz.prog.bytesOf 9 = 16 := by kernel_rfl
theorem cells_kind : Tryz.prog.cellsOf 22 = 1 := by kernel_rfl
theorem cells_int : Tryz.prog.cellsOf 3 = 1 := by kernel_rfl
theorem cells_values : Tryz.prog.cellsOf 23 = 1 := by kernel_rfl
theorem cells_strings : Tryz.prog.cellsOf 24 = 1 := by kernel_rfl
section
variable {H : Type} {enc : TypeId × Value → H} {W : World} {sp : Nat → Bool}
theorem rows_of {n len : Nat} {a : Addr} {elems : List (DataW H × List MemPlace)} (hlen : elems.length = len)
    (hel : ∀ i, i < len → (W.cells? 0 (a.add (i * 6)) 6).bind (DataW.trod enc Tryz.prog W 0 sp true n 26) = elems[i]?)
    (ih : ∀ (i : Nat) (e : DataW H × List MemPlace), elems[i]? = some e → ∀ cs, DataW.trod enc Tryz.prog W 0 sp true n 26 cs = some e → ∃ v, RepV W W.heap.size v cs) :
    ∃ (l : List V) (C : Nat → List Value), l.length = len ∧ (0 < len → ∃ b o, a = ⟨b, o, none⟩ ∧ b < W.heap.size ∧ ∀ i, i < len → CellsAt W b (o + i * 6) (C i)) ∧
      ∀ i (hi : i < l.length), RepV W W.heap.size l[i] (C i) := by
  have each : ∀ i : Fin len, ∃ p : V × List Value, W.cells? 0 (a.add (i.1 * 6)) 6 = some p.2 ∧ RepV W W.heap.size p.1 p.2 := by
    intro i
    have h1 := hel i.1 i.2
    have h2 : elems[i.1]? = some (elems[i.1]'(by rw [hlen]; exact i.2)) := List.getElem?_eq_getElem _
    rw [h2, Option.bind_eq_some_iff] at h1
    obtain ⟨cs, hc, ht⟩ := h1
    obtain ⟨v, hv⟩ := ih i.1 _ h2 cs ht
    exact ⟨(v, cs), hc, hv⟩
  obtain ⟨F, hF⟩ := Classical.axiomOfChoice each
  refine ⟨List.ofFn fun i => (F i).1, fun i => if h : i < len then (F ⟨i, h⟩).2 else [], by simp, fun h0 => ?_, fun i hi => ?_⟩
  · obtain ⟨_, h6, hc⟩ := World.cells?_some (hF ⟨0, h0⟩).1
    have c0 := hc 0 (by omega)
    rw [List.getElem?_eq_getElem (by omega)] at c0
    simp [Addr.add] at c0
    obtain ⟨s0, hb⟩ := spot_none c0
    refine ⟨a.block, a.off, ?_, hb, fun i hi => ?_⟩
    · obtain ⟨b, o, s⟩ := a
      simp only at s0
      rw [s0]
    · have ea : a = ⟨a.block, a.off, none⟩ := by
        obtain ⟨b, o, s⟩ := a
        simp only at s0
        rw [s0]
      obtain ⟨_, h6, hc⟩ := World.cells?_some (hF ⟨i, hi⟩).1
      intro j hj
      simp only [dif_pos hi] at hj ⊢
      have := hc j (by omega)
      rw [ea, add_none, add_none, List.getElem?_eq_getElem (by omega)] at this
      exact this
  · have hi' : i < len := by simpa using hi
    simp only [List.getElem_ofFn, dif_pos hi']
    exact (hF ⟨i, hi'⟩).2
theorem keys_of {n len : Nat} {a : Addr} {elems : List (DataW H × List MemPlace)} (hlen : elems.length = len)
    (hel : ∀ i, i < len → (W.cells? 0 (a.add (i * 1)) 1).bind (DataW.trod enc Tryz.prog W 0 sp true n 9) = elems[i]?)
    (hw : ∀ (i : Nat) (e : DataW H × List MemPlace), elems[i]? = some e → ∀ m ∈ e.1.weights Tryz.prog 9, m ≤ reachBytes) :
    ∃ (l : List ByteArray), l.length = len ∧ (0 < len → ∃ b o, a = ⟨b, o, none⟩ ∧ b < W.heap.size ∧ ∀ i (hi : i < l.length), W.cell? ⟨b, o + i, none⟩ = some (.string l[i])) ∧
      ∀ s ∈ l, s.size ≤ 140737488351232 := by
  have each : ∀ i : Fin len, ∃ s : ByteArray, W.cells? 0 (a.add (i.1 * 1)) 1 = some [.string s] ∧ s.size ≤ 140737488351232 := by
    intro i
    have h1 := hel i.1 i.2
    have h2 : elems[i.1]? = some (elems[i.1]'(by rw [hlen]; exact i.2)) := List.getElem?_eq_getElem _
    rw [h2, Option.bind_eq_some_iff] at h1
    obtain ⟨cs, hc, ht⟩ := h1
    obtain ⟨s, rfl, e, _⟩ := DataW.trod_string Tryz.underlying9 ht
    refine ⟨s, hc, ?_⟩
    have := hw i.1 _ h2 s.size (by rw [e]; simp [DataW.weights])
    exact this
  obtain ⟨F, hF⟩ := Classical.axiomOfChoice each
  refine ⟨List.ofFn fun i => F i, by simp, fun h0 => ?_, fun s hs => ?_⟩
  · have c0 := (World.cells?_some (hF ⟨0, h0⟩).1).2.2 0 (by omega)
    have c0 : W.cell? a = some (.string (F ⟨0, h0⟩)) := by simpa [Addr.add] using c0
    obtain ⟨s0, hb⟩ := spot_none c0
    have ea : a = ⟨a.block, a.off, none⟩ := by
      obtain ⟨b, o, s⟩ := a
      simp only at s0
      rw [s0]
    refine ⟨a.block, a.off, ea, hb, fun i hi => ?_⟩
    have hi' : i < len := by simpa using hi
    have := (World.cells?_some (hF ⟨i, hi'⟩).1).2.2 0 (by omega)
    rw [ea, add_none, add_none, Nat.mul_one, Nat.add_zero] at this
    simpa using this
  · obtain ⟨i, rfl⟩ := List.mem_ofFn.1 hs
    exact (hF i).2
set_option maxRecDepth 10000 in
theorem rep_of_trod : ∀ (fuel : Nat) (cs : List Value) (x : DataW H × List MemPlace), DataW.trod enc Tryz.prog W 0 sp true fuel 26 cs = some x →
    (∀ m ∈ x.1.weights Tryz.prog 26, m ≤ reachBytes) → ∃ v, RepV W W.heap.size v cs := by
  intro fuel
  induction fuel using Nat.strongRecOn with
  | _ fuel ih =>
  intro cs x htr hw
  obtain ⟨xs, n, rfl, hx, h6, hlen, hf⟩ := DataW.trod_struct Tryz.underlying26 htr
  rw [cells_value] at h6
  match cs, h6 with
  | [c0, c1, c2, c3, c4, c5], _ =>
  match xs, hlen with
  | [x0, x1, x2, x3, x4, x5], _ =>
  have f0 : DataW.trod enc Tryz.prog W 0 sp true n 22 (([c0, c1, c2, c3, c4, c5].drop 0).take (Tryz.prog.cellsOf 22)) = some x0 := hf 0 _ rfl
  rw [cells_kind] at f0
  have f1 : DataW.trod enc Tryz.prog W 0 sp true n 3 (([c0, c1, c2, c3, c4, c5].drop 1).take (Tryz.prog.cellsOf 3)) = some x1 := hf 1 _ rfl
  rw [cells_int] at f1
  have f2 : DataW.trod enc Tryz.prog W 0 sp true n 9 (([c0, c1, c2, c3, c4, c5].drop 2).take (Tryz.prog.cellsOf 9)) = some x2 := hf 2 _ rfl
  rw [cells_string] at f2
  have f3 : DataW.trod enc Tryz.prog W 0 sp true n 23 (([c0, c1, c2, c3, c4, c5].drop 3).take (Tryz.prog.cellsOf 23)) = some x3 := hf 3 _ rfl
  rw [cells_values] at f3
  have f4 : DataW.trod enc Tryz.prog W 0 sp true n 24 (([c0, c1, c2, c3, c4, c5].drop 4).take (Tryz.prog.cellsOf 24)) = some x4 := hf 4 _ rfl
  rw [cells_strings] at f4
  have f5 : DataW.trod enc Tryz.prog W 0 sp true n 23 (([c0, c1, c2, c3, c4, c5].drop 5).take (Tryz.prog.cellsOf 23)) = some x5 := hf 5 _ rfl
  rw [cells_values] at f5
  have wt : ∀ (j : Nat) (t : TypeId) (d : DataW H), [22, 3, 9, 23, 24, 23][j]? = some t → [x0.1, x1.1, x2.1, x3.1, x4.1, x5.1][j]? = some d →
      ∀ m ∈ d.weights Tryz.prog t, m ≤ reachBytes := by
    intro j t d ht hd m hm
    refine hw m ?_
    rw [hx]
    simp only [DataW.weights, Tryz.underlying26]
    exact DataW.weights_mem_each ht hd m hm
  obtain ⟨k, e0, _, k1⟩ := DataW.trod_int Tryz.underlying22 f0
  obtain ⟨h, e1, _, h1⟩ := DataW.trod_int Tryz.underlying3 f1
  obtain ⟨t, e2, q2, _⟩ := DataW.trod_string Tryz.underlying9 f2
  cases e0; cases e1; cases e2
  have ht : t.size ≤ 140737488351232 := wt 2 _ _ rfl rfl t.size (by rw [q2]; simp [DataW.weights])
  have hk : -9223372036854775808 ≤ k ∧ k ≤ 9223372036854775807 := by simpa [Lit.wf, IntKind.min, IntKind.max, IntKind.signed, IntKind.bits] using k1
  have hh : -9223372036854775808 ≤ h ∧ h ≤ 9223372036854775807 := by simpa [Lit.wf, IntKind.min, IntKind.max, IntKind.signed, IntKind.bits] using h1
  have list : ∀ (c : Value) (y : DataW H × List MemPlace), DataW.trod enc Tryz.prog W 0 sp true n 23 [c] = some y → (∀ m ∈ y.1.weights Tryz.prog 23, m ≤ reachBytes) →
      ∃ (l : List V) (la : Option Addr) (lc : Nat) (C : Nat → List Value), c = .slice la l.length lc ∧ l.length * 104 ≤ 140737488351232 ∧
        (0 < l.length → ∃ b o, la = some ⟨b, o, none⟩ ∧ b < W.heap.size ∧ ∀ i, i < l.length → CellsAt W b (o + i * 6) (C i)) ∧ (∀ i (hi : i < l.length), RepV W W.heap.size l[i] (C i)) ∧ l.length ≤ lc := by
    intro c y hy hwy
    rcases DataW.trod_slice Tryz.underlying23 hy with ⟨e, _⟩ | ⟨a, len, cap, elems, rest, m, rfl, e, q, _, hlc, _, hl, hel, _⟩
    · cases e
      exact ⟨[], _, _, fun _ => [], rfl, by simp, fun h0 => absurd h0 (by simp), fun i hi => absurd hi (by simp), Nat.le_refl 0⟩
    · cases e
      rw [cells_value] at hel
      have hww : ∀ (i : Nat) (e : DataW H × List MemPlace), elems[i]? = some e → ∀ m ∈ e.1.weights Tryz.prog 26, m ≤ reachBytes := by
        intro i e he m hm
        refine hwy m ?_
        rw [q]
        simp only [DataW.weights, Tryz.underlying23, List.mem_cons, List.mem_append]
        exact .inr (.inl (weights_mem_all (i := i) (by rw [List.getElem?_map, he]; rfl) m hm))
      obtain ⟨l, C, rfl, hc, hr⟩ := rows_of hl hel (fun i e he cs hcs => ih m (by omega) cs e hcs (hww i e he))
      refine ⟨l, _, _, C, rfl, ?_, fun h0 => ?_, hr, by omega⟩
      · have := hwy ((elems.length + rest.length) * 104) (by rw [q]; simp [DataW.weights, Tryz.underlying23, bytes_value])
        have e : reachBytes = 140737488351232 := rfl
        rw [hl] at this
        omega
      · obtain ⟨b, o, rfl, hb, hcs⟩ := hc h0
        exact ⟨b, o, rfl, hb, hcs⟩
  obtain ⟨l, la, lc, C, rfl, hl, cl, rl, hlc⟩ := list c3 x3 f3 (wt 3 _ _ rfl rfl)
  obtain ⟨vs, va, vc, D, rfl, hvs, cv, rv, _⟩ := list c5 x5 f5 (wt 5 _ _ rfl rfl)
  have keys : ∃ (ks : List ByteArray) (ka : Option Addr) (kc : Nat), c4 = .slice ka ks.length kc ∧ ks.length * 16 ≤ 140737488351232 ∧ (∀ s ∈ ks, s.size ≤ 140737488351232) ∧
      (0 < ks.length → ∃ b o, ka = some ⟨b, o, none⟩ ∧ b < W.heap.size ∧ ∀ i (hi : i < ks.length), W.cell? ⟨b, o + i, none⟩ = some (.string ks[i])) := by
    have hwy := wt 4 _ _ rfl rfl
    rcases DataW.trod_slice Tryz.underlying24 f4 with ⟨e, _⟩ | ⟨a, len, cap, elems, rest, m, rfl, e, q, _, _, _, hl, hel, _⟩
    · cases e
      exact ⟨[], _, _, rfl, by simp, fun s hs => absurd hs (by simp), fun h0 => absurd h0 (by simp)⟩
    · cases e
      rw [cells_string] at hel
      have hww : ∀ (i : Nat) (e : DataW H × List MemPlace), elems[i]? = some e → ∀ m ∈ e.1.weights Tryz.prog 9, m ≤ reachBytes := by
        intro i e he m hm
        refine hwy m ?_
        rw [q]
        simp only [DataW.weights, Tryz.underlying24, List.mem_cons, List.mem_append]
        exact .inr (.inl (weights_mem_all (i := i) (by rw [List.getElem?_map, he]; rfl) m hm))
      obtain ⟨ks, rfl, hc, hs⟩ := keys_of hl hel hww
      refine ⟨ks, _, _, rfl, ?_, hs, fun h0 => ?_⟩
      · have := hwy ((elems.length + rest.length) * 16) (by rw [q]; simp [DataW.weights, Tryz.underlying24, bytes_string])
        have e : reachBytes = 140737488351232 := rfl
        rw [hl] at this
        omega
      · obtain ⟨b, o, rfl, hb, hcs⟩ := hc h0
        exact ⟨b, o, rfl, hb, hcs⟩
  obtain ⟨ks, ka, kc, rfl, hks, hs, ck⟩ := keys
  exact ⟨_, .mk C D hk hh ht hl hks hvs hs cl rl ck cv rv hlc⟩
end
end Go.Proofs.YtjlkoekfcdpnaaaGreatDoor

namespace Go.Proofs.YtjlkoekfcdpnaaaGreatDoor
open Go Go.RowKit
/-- A row of uint16 in memory. -/
def ShortsAt (w : World) (B : Nat) (l : List Nat) (v : Value) : Prop :=
  (∀ m ∈ l, m < 65536) ∧ ∃ (la : Option Addr) (lc : Nat), v = .slice la l.length lc ∧ l.length ≤ maxLen ∧ (0 < l.length → ∃ b o, la = some ⟨b, o, none⟩ ∧ b < B ∧ ∀ i (hi : i < l.length), w.cell? ⟨b, o + i, none⟩ = some (.int .u16 (l[i] : Nat)))
theorem ShortsAt.mono {w : World} {B C : Nat} {l : List Nat} {v : Value} (h : ShortsAt w B l v) (hB : B ≤ C) : ShortsAt w C l v := by
  obtain ⟨h1, la, lc, e, h2, h3⟩ := h
  refine ⟨h1, la, lc, e, h2, fun h0 => ?_⟩
  obtain ⟨b, o, e, hbB, hc⟩ := h3 h0
  exact ⟨b, o, e, by omega, hc⟩
theorem ShortsAt.below {w w' : World} {B : Nat} {l : List Nat} {v : Value} (h : ShortsAt w B l v) (hb : Below B w w') : ShortsAt w' B l v := by
  obtain ⟨h1, la, lc, e, h2, h3⟩ := h
  refine ⟨h1, la, lc, e, h2, fun h0 => ?_⟩
  obtain ⟨b, o, e, hbB, hc⟩ := h3 h0
  exact ⟨b, o, e, hbB, fun i hi => (hb.cell hbB).trans (hc i hi)⟩
section
variable {H : Type} {enc : TypeId × Value → H} {W : World}
end
end Go.Proofs.YtjlkoekfcdpnaaaGreatDoor

namespace Go.Proofs.YtjlkoekfcdpnaaaGreatDoor
open Go Go.RowKit Go.Maps Go.Deep
/-- A bool or an error; true where P. -/
def ContR (w : World) (P : Prop) (u : Value) (w' : World) : Prop := Below w.heap.size w w' ∧ ((∃ b, u = .iface 4 (.bool b)) ∨ ErrV u) ∧ (P → u = .iface 4 (.bool true))
end Go.Proofs.YtjlkoekfcdpnaaaGreatDoor

namespace Go.Proofs.YtjlkoekfcdpnaaaGreatDoor
open Go Go.RowKit Go.Deep
theorem ContR.form {w w' : World} {P : Prop} {u : Value} (h : ContR w P u w') : IsI u := by
  rcases h.2.1 with ⟨b, rfl⟩ | he
  · exact .inr ⟨_, _, rfl⟩
  · obtain ⟨t, a, rfl⟩ := he.form; exact .inr ⟨_, _, rfl⟩
end Go.Proofs.YtjlkoekfcdpnaaaGreatDoor

namespace Go.Proofs.YtjlkoekfcdpnaaaGreatDoor
open Go Go.RowKit Go.Deep
/-- Paths below v, as an array's row in memory. -/
structure PathsP (w : World) (v : V) (ss : List (List Stp)) (oa : Option Addr) (oc : Nat) : Prop where
  leads : ∀ s ∈ ss, Leads v s
  good : ∀ x ∈ ss.map pathV, Good x
  rep : RepV w w.heap.size (.mk 5 0 ⟨#[]⟩ (ss.map pathV) [] []) [.int .i64 5, .int .i64 0, .string ⟨#[]⟩, .slice oa ss.length oc, .slice none 0 0, .slice none 0 0]
theorem PathsP.carry {w w' : World} {v : V} {ss : List (List Stp)} {oa : Option Addr} {oc : Nat} (h : PathsP w v ss oa oc) (hb : Below w.heap.size w w') : PathsP w' v ss oa oc := ⟨h.leads, h.good, h.rep.carry hb hb.size⟩
/-- The box of a result: what is left of v. -/
def RestAt (X : World) (v : V) (s : Value) (wx : World) : Prop :=
  ∃ (z : Nat) (r : V) (k h : Int) (t : ByteArray) (la ka va : Option Addr) (nl cl nk ck nv cv : Nat), s = .pointer (some ⟨z, 0, none⟩) ∧ X.heap.size ≤ z ∧ wx.heap[z]? = some (.cells #[.int .i64 k, .int .i64 h, .string t, .slice la nl cl, .slice ka nk ck, .slice va nv cv, .int .i64 0] 32) ∧
    Below X.heap.size X wx ∧ Rest v r ∧ RepV wx wx.heap.size r [.int .i64 k, .int .i64 h, .string t, .slice la nl cl, .slice ka nk ck, .slice va nv cv]
/-- What impl.DelPaths hands back, from w0 on. -/
def RestR (w0 : World) (v : V) (k h : Int) (t : ByteArray) (la ka va : Option Addr) (nl cl nk ck nv cv : Nat) (n : Int) (w : World) : Prop :=
  n = 0 ∧ ∃ r, Rest v r ∧ RepS w (FreshS w0.heap.size w.heap.size) r [.int .i64 k, .int .i64 h, .string t, .slice la nl cl, .slice ka nk ck, .slice va nv cv]
theorem RestAt.made {X w0 w : World} {v : V} {k h : Int} {t : ByteArray} {la ka va : Option Addr} {nl cl nk ck nv cv : Nat} {n : Int} (hR : RestR w0 v k h t la ka va nl cl nk ck nv cv n w) (hb : Below X.heap.size X w) :
    RestAt X v (.pointer (some ⟨w.heap.size, 0, none⟩)) (w.alloc (.cells #[.int .i64 k, .int .i64 h, .string t, .slice la nl cl, .slice ka nk ck, .slice va nv cv, .int .i64 n] 32)) := by
  obtain ⟨rfl, r, hr, hS⟩ := hR
  have hbn := below_alloc1 w (.cells #[.int .i64 k, .int .i64 h, .string t, .slice la nl cl, .slice ka nk ck, .slice va nv cv, .int .i64 0] 32)
  exact ⟨_, r, k, h, t, la, ka, va, nl, cl, nk, ck, nv, cv, rfl, hb.size, at_alloc _ _, keep_alloc hb hb.size _, hr, (hS.toV fun q hq => hq.2).carry hbn hbn.size⟩
theorem RestAt.put {X w0 w : World} {v : V} {k h : Int} {t : ByteArray} {la ka va : Option Addr} {nl cl nk ck nv cv : Nat} {n : Int} {z : Nat} {e0 e1 e2 e3 e4 e5 e6 : Value} (hR : RestR w0 v k h t la ka va nl cl nk ck nv cv n w) (hb : Below X.heap.size X w)
    (hz : w.heap[z]? = some (.cells #[e0, e1, e2, e3, e4, e5, e6] 32)) (hzb : X.heap.size ≤ z) (hz2 : z < w0.heap.size) :
    RestAt X v (.pointer (some ⟨z, 0, none⟩)) (((((((w.setCell ⟨z, 0, none⟩ (.int .i64 k)).setCell ⟨z, 1, none⟩ (.int .i64 h)).setCell ⟨z, 2, none⟩ (.string t)).setCell ⟨z, 3, none⟩ (.slice la nl cl)).setCell ⟨z, 4, none⟩ (.slice ka nk ck)).setCell ⟨z, 5, none⟩ (.slice va nv cv)).setCell ⟨z, 6, none⟩ (.int .i64 n)) := by
  obtain ⟨rfl, r, hr, hS⟩ := hR
  refine ⟨z, r, k, h, t, la, ka, va, nl, cl, nk, ck, nv, cv, rfl, hzb, set_row7 hz _ _ _ _ _ _ _, ((((((hb.setCell hzb _).setCell hzb _).setCell hzb _).setCell hzb _).setCell hzb _).setCell hzb _).setCell hzb _, hr, ?_⟩
  refine (hS.turn fun q hq => ⟨set7_other _ _ _ _ _ _ _ _ _ _ ?_, hq⟩).toV fun q hq => ?_
  · unfold FreshS at hq; omega
  · unfold FreshS at hq
    rw [set7_size]
    omega
theorem hz_new {w w' : World} {o : Obj} (h : Below (w.alloc o).heap.size (w.alloc o) w') : w'.heap[w.heap.size]? = some o ∧ w.heap.size < (w.alloc o).heap.size := by
  have hs := size_alloc1 w o
  have h2 := at_alloc w o
  exact ⟨(h.block w.heap.size (by omega)).trans h2, by omega⟩
theorem hz_next {w w' : World} {z : Nat} {o : Obj} (h : Below w.heap.size w w') (hz : w.heap[z]? = some o) : w'.heap[z]? = some o ∧ z < w.heap.size :=
  ⟨(h.block z (Array.getElem?_eq_some_iff.1 hz).1).trans hz, (Array.getElem?_eq_some_iff.1 hz).1⟩
theorem below_set7 {a w : World} {B b : Nat} (h : Below B a w) (hb : B ≤ b) (v0 v1 v2 v3 v4 v5 v6 : Value) :
    Below B a (((((((w.setCell ⟨b, 0, none⟩ v0).setCell ⟨b, 1, none⟩ v1).setCell ⟨b, 2, none⟩ v2).setCell ⟨b, 3, none⟩ v3).setCell ⟨b, 4, none⟩ v4).setCell ⟨b, 5, none⟩ v5).setCell ⟨b, 6, none⟩ v6) :=
  ((((((h.setCell hb _).setCell hb _).setCell hb _).setCell hb _).setCell hb _).setCell hb _).setCell hb _
end Go.Proofs.YtjlkoekfcdpnaaaGreatDoor

namespace Go.Proofs.YtjlkoekfcdpnaaaGreatDoor
open Go Go.RowKit Go.Deep
def resO : Obj := .cells #[.int .i64 0, .int .i64 0, .string ⟨#[]⟩, .slice none 0 0, .slice none 0 0, .slice none 0 0, .int .i64 0] 32
/-- Boxes that the region has laid. -/
def Zs (zs : List Nat) (w : World) : Prop := ∀ z ∈ zs, w.heap[z]? = some (.cells #[.int .i64 0, .int .i64 0, .string ⟨#[]⟩, .slice none 0 0, .slice none 0 0, .slice none 0 0, .int .i64 0] 32)
theorem zs_next {w w' : World} {zs : List Nat} (h : Below w.heap.size w w') (Z : Zs zs w) : Zs zs w' ∧ w.heap.size ≤ w'.heap.size ∧ w.heap.size = w.heap.size :=
  ⟨fun z hz => (hz_next h (Z z hz)).1, h.size, rfl⟩
theorem zs_new {w w' : World} {zs : List Nat} (h : Below (w.alloc (.cells #[.int .i64 0, .int .i64 0, .string ⟨#[]⟩, .slice none 0 0, .slice none 0 0, .slice none 0 0, .int .i64 0] 32)).heap.size (w.alloc (.cells #[.int .i64 0, .int .i64 0, .string ⟨#[]⟩, .slice none 0 0, .slice none 0 0, .slice none 0 0, .int .i64 0] 32)) w') (Z : Zs zs w) :
    Zs (w.heap.size :: zs) w' ∧ w.heap.size + 1 ≤ w'.heap.size ∧ (w.alloc (.cells #[.int .i64 0, .int .i64 0, .string ⟨#[]⟩, .slice none 0 0, .slice none 0 0, .slice none 0 0, .int .i64 0] 32)).heap.size = w.heap.size + 1 := by
  have hs := size_alloc1 w resO
  unfold resO at hs
  refine ⟨fun z hz => ?_, by have := h.size; omega, hs⟩
  rcases List.mem_cons.1 hz with rfl | hz
  · exact (hz_new h).1
  · have hl := (hz_next (Below.refl _ _) (Z z hz)).2
    exact (h.block z (by omega)).trans ((below_alloc1 w _).block z hl |>.trans (Z z hz))
theorem zs_new2 {w w' : World} {zs : List Nat} (h : Below ((w.alloc (.cells #[.int .i64 0, .int .i64 0, .string ⟨#[]⟩, .slice none 0 0, .slice none 0 0, .slice none 0 0, .int .i64 0] 32)).alloc (.cells #[.int .i64 0, .int .i64 0, .string ⟨#[]⟩, .slice none 0 0, .slice none 0 0, .slice none 0 0, .int .i64 0] 32)).heap.size ((w.alloc (.cells #[.int .i64 0, .int .i64 0, .string ⟨#[]⟩, .slice none 0 0, .slice none 0 0, .slice none 0 0, .int .i64 0] 32)).alloc (.cells #[.int .i64 0, .int .i64 0, .string ⟨#[]⟩, .slice none 0 0, .slice none 0 0, .slice none 0 0, .int .i64 0] 32)) w') (Z : Zs zs w) :
    Zs ((w.heap.size + 1) :: w.heap.size :: zs) w' ∧ w.heap.size + 2 ≤ w'.heap.size ∧ ((w.alloc (.cells #[.int .i64 0, .int .i64 0, .string ⟨#[]⟩, .slice none 0 0, .slice none 0 0, .slice none 0 0, .int .i64 0] 32)).alloc (.cells #[.int .i64 0, .int .i64 0, .string ⟨#[]⟩, .slice none 0 0, .slice none 0 0, .slice none 0 0, .int .i64 0] 32)).heap.size = w.heap.size + 2 := by
  obtain ⟨Z1, h1, h2⟩ := zs_new (w := w) (Below.refl _ _) Z
  obtain ⟨Z2, h3, h4⟩ := zs_new h Z1
  rw [h2] at Z2
  exact ⟨Z2, by omega, by omega⟩
theorem below_undrew {w w' : World} (h : Below w.drew.heap.size w.drew w') : Below w.heap.size w w' := ⟨h.os, h.tape, h.output, h.size, h.block⟩
/-- What a call has left for a box: an's result; its memory is made between lo and hi. -/
def FillR (lo hi : Nat) (an : Ans) (k h : Int) (t : ByteArray) (la ka va : Option Addr) (nl cl nk ck nv cv : Nat) (n : Int) (w : World) : Prop :=
  (∀ v, an = .fine v → n = 0 ∧ RepS w (FreshS lo hi) v [.int .i64 k, .int .i64 h, .string t, .slice la nl cl, .slice ka nk ck, .slice va nv cv]) ∧ (an = .raises → n = 1)
theorem FillR.carry {w w' : World} {lo hi : Nat} {an : Ans} {k h : Int} {t : ByteArray} {la ka va : Option Addr} {nl cl nk ck nv cv : Nat} {n : Int} (hR : FillR lo hi an k h t la ka va nl cl nk ck nv cv n w) (hs : ∀ q, lo ≤ q → q < hi → w'.heap[q]? = w.heap[q]?) : FillR lo hi an k h t la ka va nl cl nk ck nv cv n w' :=
  ⟨fun v e => ⟨(hR.1 v e).1, (hR.1 v e).2.carry fun q hq => hs q hq.1 hq.2⟩, hR.2⟩
theorem FillR.got {w : World} {lo hi : Nat} {an : Ans} {k h : Int} {t : ByteArray} {la ka va : Option Addr} {nl cl nk ck nv cv : Nat} {n : Int} (hR : FillR lo hi an k h t la ka va nl cl nk ck nv cv n w) (hh : hi ≤ w.heap.size) : Got w an k h t la ka va nl cl nk ck nv cv n :=
  ⟨fun v e => ⟨(hR.1 v e).1, (hR.1 v e).2.toV fun q hq => by have := hq.2; omega⟩, hR.2⟩
/-- Both boxes filled. -/
def TwoRes (X : World) (a b : Ans) (s7 s8 : Value) (wx : World) : Prop :=
  ∃ (z1 z2 : Nat) (k h : Int) (t : ByteArray) (la ka va : Option Addr) (nl cl nk ck nv cv : Nat) (n : Int) (k' h' : Int) (t' : ByteArray) (la' ka' va' : Option Addr) (nl' cl' nk' ck' nv' cv' : Nat) (n' : Int),
    s7 = .pointer (some ⟨z1, 0, none⟩) ∧ s8 = .pointer (some ⟨z2, 0, none⟩) ∧ X.heap.size ≤ z1 ∧ X.heap.size ≤ z2 ∧
    wx.heap[z1]? = some (.cells #[.int .i64 k, .int .i64 h, .string t, .slice la nl cl, .slice ka nk ck, .slice va nv cv, .int .i64 n] 32) ∧
    wx.heap[z2]? = some (.cells #[.int .i64 k', .int .i64 h', .string t', .slice la' nl' cl', .slice ka' nk' ck', .slice va' nv' cv', .int .i64 n'] 32) ∧
    Got wx a k h t la ka va nl cl nk ck nv cv n ∧ Got wx b k' h' t' la' ka' va' nl' cl' nk' ck' nv' cv' n' ∧ Below X.heap.size X wx
section
variable {X wL wx : World} {a b : Ans} {z1 z2 lo hi lo' hi' : Nat} {k h : Int} {t : ByteArray} {la ka va : Option Addr} {nl cl nk ck nv cv : Nat} {n : Int} {k' h' : Int} {t' : ByteArray} {la' ka' va' : Option Addr} {nl' cl' nk' ck' nv' cv' : Nat} {n' : Int}
theorem TwoRes.of (hR : FillR lo hi a k h t la ka va nl cl nk ck nv cv n wL) (hR' : FillR lo' hi' b k' h' t' la' ka' va' nl' cl' nk' ck' nv' cv' n' wL) (hb : Below X.heap.size X wx) (hx1 : X.heap.size ≤ z1) (hx2 : X.heap.size ≤ z2)
    (h1 : wx.heap[z1]? = some (.cells #[.int .i64 k, .int .i64 h, .string t, .slice la nl cl, .slice ka nk ck, .slice va nv cv, .int .i64 n] 32))
    (h2 : wx.heap[z2]? = some (.cells #[.int .i64 k', .int .i64 h', .string t', .slice la' nl' cl', .slice ka' nk' ck', .slice va' nv' cv', .int .i64 n'] 32))
    (hs : ∀ q, q < wL.heap.size → q ≠ z1 → q ≠ z2 → wx.heap[q]? = wL.heap[q]?) (hsz : wL.heap.size ≤ wx.heap.size) (hh : hi ≤ wL.heap.size) (hh' : hi' ≤ wL.heap.size)
    (o1 : z1 < lo ∨ hi ≤ z1) (o2 : z2 < lo ∨ hi ≤ z2) (o3 : z1 < lo' ∨ hi' ≤ z1) (o4 : z2 < lo' ∨ hi' ≤ z2) : TwoRes X a b (.pointer (some ⟨z1, 0, none⟩)) (.pointer (some ⟨z2, 0, none⟩)) wx :=
  ⟨z1, z2, k, h, t, la, ka, va, nl, cl, nk, ck, nv, cv, n, k', h', t', la', ka', va', nl', cl', nk', ck', nv', cv', n', rfl, rfl, hx1, hx2, h1, h2,
    (hR.carry fun q q1 q2 => hs q (by omega) (by omega) (by omega)).got (by omega), (hR'.carry fun q q1 q2 => hs q (by omega) (by omega) (by omega)).got (by omega), hb⟩
/-- Both laid last. -/
theorem TwoRes.new (hR : FillR lo hi a k h t la ka va nl cl nk ck nv cv n wL) (hR' : FillR lo' hi' b k' h' t' la' ka' va' nl' cl' nk' ck' nv' cv' n' wL) (hb : Below X.heap.size X wL) (hh : hi ≤ wL.heap.size) (hh' : hi' ≤ wL.heap.size) :
    TwoRes X a b (.pointer (some ⟨wL.heap.size, 0, none⟩)) (.pointer (some ⟨wL.heap.size + 1, 0, none⟩)) ((wL.alloc (.cells #[.int .i64 k, .int .i64 h, .string t, .slice la nl cl, .slice ka nk ck, .slice va nv cv, .int .i64 n] 32)).alloc (.cells #[.int .i64 k', .int .i64 h', .string t', .slice la' nl' cl', .slice ka' nk' ck', .slice va' nv' cv', .int .i64 n'] 32)) := by
  have hX := hb.size
  have hb2 := below_alloc2 wL (.cells #[.int .i64 k, .int .i64 h, .string t, .slice la nl cl, .slice ka nk ck, .slice va nv cv, .int .i64 n] 32) (.cells #[.int .i64 k', .int .i64 h', .string t', .slice la' nl' cl', .slice ka' nk' ck', .slice va' nv' cv', .int .i64 n'] 32)
  refine TwoRes.of hR hR' (hb.trans (hb2.mono hX)) hX (by omega) ?_ (at_alloc2 _ _ _) (fun q hq _ _ => hb2.block q hq) hb2.size hh hh' (.inr hh) (.inr (by omega)) (.inr hh') (.inr (by omega))
  exact ((below_alloc1 (wL.alloc _) _).block wL.heap.size (by simp)).trans (at_alloc _ _)
theorem TwoRes.new' (hR : FillR lo hi a k h t la ka va nl cl nk ck nv cv n wL) (hR' : FillR lo' hi' b k' h' t' la' ka' va' nl' cl' nk' ck' nv' cv' n' wL) (hb : Below X.heap.size X wL) (hh : hi ≤ wL.heap.size) (hh' : hi' ≤ wL.heap.size) :
    TwoRes X a b (.pointer (some ⟨wL.heap.size + 1, 0, none⟩)) (.pointer (some ⟨wL.heap.size, 0, none⟩)) ((wL.alloc (.cells #[.int .i64 k', .int .i64 h', .string t', .slice la' nl' cl', .slice ka' nk' ck', .slice va' nv' cv', .int .i64 n'] 32)).alloc (.cells #[.int .i64 k, .int .i64 h, .string t, .slice la nl cl, .slice ka nk ck, .slice va nv cv, .int .i64 n] 32)) := by
  have hX := hb.size
  have hb2 := below_alloc2 wL (.cells #[.int .i64 k', .int .i64 h', .string t', .slice la' nl' cl', .slice ka' nk' ck', .slice va' nv' cv', .int .i64 n'] 32) (.cells #[.int .i64 k, .int .i64 h, .string t, .slice la nl cl, .slice ka nk ck, .slice va nv cv, .int .i64 n] 32)
  refine TwoRes.of hR hR' (hb.trans (hb2.mono hX)) (by omega) hX (at_alloc2 _ _ _) ?_ (fun q hq _ _ => hb2.block q hq) hb2.size hh hh' (.inr (by omega)) (.inr hh) (.inr (by omega)) (.inr hh')
  exact ((below_alloc1 (wL.alloc _) _).block wL.heap.size (by simp)).trans (at_alloc _ _)
/-- The first is older, the second laid last. -/
theorem TwoRes.old1 {zs : List Nat} (Z : Zs zs wL) (hz : z1 ∈ zs) (hR : FillR lo hi a k h t la ka va nl cl nk ck nv cv n wL) (hR' : FillR lo' hi' b k' h' t' la' ka' va' nl' cl' nk' ck' nv' cv' n' wL) (hb : Below X.heap.size X wL) (hx1 : X.heap.size ≤ z1) (hh : hi ≤ wL.heap.size) (hh' : hi' ≤ wL.heap.size)
    (o1 : z1 < lo ∨ hi ≤ z1) (o3 : z1 < lo' ∨ hi' ≤ z1) :
    TwoRes X a b (.pointer (some ⟨z1, 0, none⟩)) (.pointer (some ⟨wL.heap.size, 0, none⟩)) ((((((((wL.setCell ⟨z1, 0, none⟩ (.int .i64 k)).setCell ⟨z1, 1, none⟩ (.int .i64 h)).setCell ⟨z1, 2, none⟩ (.string t)).setCell ⟨z1, 3, none⟩ (.slice la nl cl)).setCell ⟨z1, 4, none⟩ (.slice ka nk ck)).setCell ⟨z1, 5, none⟩ (.slice va nv cv)).setCell ⟨z1, 6, none⟩ (.int .i64 n)).alloc (.cells #[.int .i64 k', .int .i64 h', .string t', .slice la' nl' cl', .slice ka' nk' ck', .slice va' nv' cv', .int .i64 n'] 32)) := by
  have hX := hb.size
  have hz1 := Z z1 hz
  have hl1 := (hz_next (Below.refl _ _) hz1).2
  have hsz := set7_size wL z1 (.int .i64 k) (.int .i64 h) (.string t) (.slice la nl cl) (.slice ka nk ck) (.slice va nv cv) (.int .i64 n)
  have hrow := set_row7 hz1 (.int .i64 k) (.int .i64 h) (.string t) (.slice la nl cl) (.slice ka nk ck) (.slice va nv cv) (.int .i64 n)
  have hoth := fun q (hq : q ≠ z1) => set7_other wL z1 q (.int .i64 k) (.int .i64 h) (.string t) (.slice la nl cl) (.slice ka nk ck) (.slice va nv cv) (.int .i64 n) hq
  have hbs := below_set7 hb hx1 (.int .i64 k) (.int .i64 h) (.string t) (.slice la nl cl) (.slice ka nk ck) (.slice va nv cv) (.int .i64 n)
  generalize (((((((wL.setCell ⟨z1, 0, none⟩ (.int .i64 k)).setCell ⟨z1, 1, none⟩ (.int .i64 h)).setCell ⟨z1, 2, none⟩ (.string t)).setCell ⟨z1, 3, none⟩ (.slice la nl cl)).setCell ⟨z1, 4, none⟩ (.slice ka nk ck)).setCell ⟨z1, 5, none⟩ (.slice va nv cv)).setCell ⟨z1, 6, none⟩ (.int .i64 n)) = wS at *
  rw [← hsz]
  have hba := below_alloc1 wS (.cells #[.int .i64 k', .int .i64 h', .string t', .slice la' nl' cl', .slice ka' nk' ck', .slice va' nv' cv', .int .i64 n'] 32)
  have hsa := hba.size
  exact TwoRes.of hR hR' (keep_alloc hbs hbs.size _) hx1 (by omega) ((hba.block z1 (by omega)).trans hrow) (at_alloc _ _) (fun q hq h1 _ => (hba.block q (by omega)).trans (hoth q h1)) (by omega) hh hh' o1 (.inr (by omega)) o3 (.inr (by omega))
theorem TwoRes.old2 {zs : List Nat} (Z : Zs zs wL) (hz : z2 ∈ zs) (hR : FillR lo hi a k h t la ka va nl cl nk ck nv cv n wL) (hR' : FillR lo' hi' b k' h' t' la' ka' va' nl' cl' nk' ck' nv' cv' n' wL) (hb : Below X.heap.size X wL) (hx2 : X.heap.size ≤ z2) (hh : hi ≤ wL.heap.size) (hh' : hi' ≤ wL.heap.size)
    (o2 : z2 < lo ∨ hi ≤ z2) (o4 : z2 < lo' ∨ hi' ≤ z2) :
    TwoRes X a b (.pointer (some ⟨wL.heap.size, 0, none⟩)) (.pointer (some ⟨z2, 0, none⟩)) ((((((((wL.setCell ⟨z2, 0, none⟩ (.int .i64 k')).setCell ⟨z2, 1, none⟩ (.int .i64 h')).setCell ⟨z2, 2, none⟩ (.string t')).setCell ⟨z2, 3, none⟩ (.slice la' nl' cl')).setCell ⟨z2, 4, none⟩ (.slice ka' nk' ck')).setCell ⟨z2, 5, none⟩ (.slice va' nv' cv')).setCell ⟨z2, 6, none⟩ (.int .i64 n')).alloc (.cells #[.int .i64 k, .int .i64 h, .string t, .slice la nl cl, .slice ka nk ck, .slice va nv cv, .int .i64 n] 32)) := by
  have hX := hb.size
  have hz2 := Z z2 hz
  have hl1 := (hz_next (Below.refl _ _) hz2).2
  have hsz := set7_size wL z2 (.int .i64 k') (.int .i64 h') (.string t') (.slice la' nl' cl') (.slice ka' nk' ck') (.slice va' nv' cv') (.int .i64 n')
  have hrow := set_row7 hz2 (.int .i64 k') (.int .i64 h') (.string t') (.slice la' nl' cl') (.slice ka' nk' ck') (.slice va' nv' cv') (.int .i64 n')
  have hoth := fun q (hq : q ≠ z2) => set7_other wL z2 q (.int .i64 k') (.int .i64 h') (.string t') (.slice la' nl' cl') (.slice ka' nk' ck') (.slice va' nv' cv') (.int .i64 n') hq
  have hbs := below_set7 hb hx2 (.int .i64 k') (.int .i64 h') (.string t') (.slice la' nl' cl') (.slice ka' nk' ck') (.slice va' nv' cv') (.int .i64 n')
  generalize (((((((wL.setCell ⟨z2, 0, none⟩ (.int .i64 k')).setCell ⟨z2, 1, none⟩ (.int .i64 h')).setCell ⟨z2, 2, none⟩ (.string t')).setCell ⟨z2, 3, none⟩ (.slice la' nl' cl')).setCell ⟨z2, 4, none⟩ (.slice ka' nk' ck')).setCell ⟨z2, 5, none⟩ (.slice va' nv' cv')).setCell ⟨z2, 6, none⟩ (.int .i64 n')) = wS at *
  rw [← hsz]
  have hba := below_alloc1 wS (.cells #[.int .i64 k, .int .i64 h, .string t, .slice la nl cl, .slice ka nk ck, .slice va nv cv, .int .i64 n] 32)
  have hsa := hba.size
  exact TwoRes.of hR hR' (keep_alloc hbs hbs.size _) (by omega) hx2 (at_alloc _ _) ((hba.block z2 (by omega)).trans hrow) (fun q hq _ h2 => (hba.block q (by omega)).trans (hoth q h2)) (by omega) hh hh' (.inr (by omega)) o2 (.inr (by omega)) o4
/-- Both are older. -/
theorem TwoRes.old {zs : List Nat} (Z : Zs zs wL) (hz : z1 ∈ zs) (hz' : z2 ∈ zs) (hne : z1 ≠ z2) (hR : FillR lo hi a k h t la ka va nl cl nk ck nv cv n wL) (hR' : FillR lo' hi' b k' h' t' la' ka' va' nl' cl' nk' ck' nv' cv' n' wL) (hb : Below X.heap.size X wL) (hx1 : X.heap.size ≤ z1) (hx2 : X.heap.size ≤ z2) (hh : hi ≤ wL.heap.size) (hh' : hi' ≤ wL.heap.size)
    (o1 : z1 < lo ∨ hi ≤ z1) (o2 : z2 < lo ∨ hi ≤ z2) (o3 : z1 < lo' ∨ hi' ≤ z1) (o4 : z2 < lo' ∨ hi' ≤ z2) :
    TwoRes X a b (.pointer (some ⟨z1, 0, none⟩)) (.pointer (some ⟨z2, 0, none⟩)) ((((((((((((((wL.setCell ⟨z1, 0, none⟩ (.int .i64 k)).setCell ⟨z1, 1, none⟩ (.int .i64 h)).setCell ⟨z1, 2, none⟩ (.string t)).setCell ⟨z1, 3, none⟩ (.slice la nl cl)).setCell ⟨z1, 4, none⟩ (.slice ka nk ck)).setCell ⟨z1, 5, none⟩ (.slice va nv cv)).setCell ⟨z1, 6, none⟩ (.int .i64 n)).setCell ⟨z2, 0, none⟩ (.int .i64 k')).setCell ⟨z2, 1, none⟩ (.int .i64 h')).setCell ⟨z2, 2, none⟩ (.string t')).setCell ⟨z2, 3, none⟩ (.slice la' nl' cl')).setCell ⟨z2, 4, none⟩ (.slice ka' nk' ck')).setCell ⟨z2, 5, none⟩ (.slice va' nv' cv')).setCell ⟨z2, 6, none⟩ (.int .i64 n')) := by
  have hX := hb.size
  have hz1 := Z z1 hz
  have hz2 := Z z2 hz'
  have hsz := set7_size wL z1 (.int .i64 k) (.int .i64 h) (.string t) (.slice la nl cl) (.slice ka nk ck) (.slice va nv cv) (.int .i64 n)
  have hrow := set_row7 hz1 (.int .i64 k) (.int .i64 h) (.string t) (.slice la nl cl) (.slice ka nk ck) (.slice va nv cv) (.int .i64 n)
  have hoth := fun q (hq : q ≠ z1) => set7_other wL z1 q (.int .i64 k) (.int .i64 h) (.string t) (.slice la nl cl) (.slice ka nk ck) (.slice va nv cv) (.int .i64 n) hq
  have hbs := below_set7 hb hx1 (.int .i64 k) (.int .i64 h) (.string t) (.slice la nl cl) (.slice ka nk ck) (.slice va nv cv) (.int .i64 n)
  generalize (((((((wL.setCell ⟨z1, 0, none⟩ (.int .i64 k)).setCell ⟨z1, 1, none⟩ (.int .i64 h)).setCell ⟨z1, 2, none⟩ (.string t)).setCell ⟨z1, 3, none⟩ (.slice la nl cl)).setCell ⟨z1, 4, none⟩ (.slice ka nk ck)).setCell ⟨z1, 5, none⟩ (.slice va nv cv)).setCell ⟨z1, 6, none⟩ (.int .i64 n)) = wS at *
  have hz2S := (hoth z2 (fun e => hne e.symm)).trans hz2
  have hsz2 := set7_size wS z2 (.int .i64 k') (.int .i64 h') (.string t') (.slice la' nl' cl') (.slice ka' nk' ck') (.slice va' nv' cv') (.int .i64 n')
  have hrow2 := set_row7 hz2S (.int .i64 k') (.int .i64 h') (.string t') (.slice la' nl' cl') (.slice ka' nk' ck') (.slice va' nv' cv') (.int .i64 n')
  have hoth2 := fun q (hq : q ≠ z2) => set7_other wS z2 q (.int .i64 k') (.int .i64 h') (.string t') (.slice la' nl' cl') (.slice ka' nk' ck') (.slice va' nv' cv') (.int .i64 n') hq
  have hbs2 := below_set7 hbs hx2 (.int .i64 k') (.int .i64 h') (.string t') (.slice la' nl' cl') (.slice ka' nk' ck') (.slice va' nv' cv') (.int .i64 n')
  generalize (((((((wS.setCell ⟨z2, 0, none⟩ (.int .i64 k')).setCell ⟨z2, 1, none⟩ (.int .i64 h')).setCell ⟨z2, 2, none⟩ (.string t')).setCell ⟨z2, 3, none⟩ (.slice la' nl' cl')).setCell ⟨z2, 4, none⟩ (.slice ka' nk' ck')).setCell ⟨z2, 5, none⟩ (.slice va' nv' cv')).setCell ⟨z2, 6, none⟩ (.int .i64 n')) = wT at *
  exact TwoRes.of hR hR' hbs2 hx1 hx2 ((hoth2 z1 hne).trans hrow) hrow2 (fun q _ h1 h2 => (hoth2 q h2).trans (hoth q h1)) (by omega) hh hh' o1 o2 o3 o4
end
end Go.Proofs.YtjlkoekfcdpnaaaGreatDoor
