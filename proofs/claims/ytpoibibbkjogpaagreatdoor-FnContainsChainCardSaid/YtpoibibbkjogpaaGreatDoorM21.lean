/- Contracts of gojq.funcDelpaths and ZzDelPaths at places of a value. -/
/- What reads as a datum of type impl.Value is a value of RepV. -/
/- What reads as a datum of type []uint16 is a row of numbers below 65536. -/
/- laws.some: paths of places below a value. -/
/- Contract of impl.DelPaths over that of gojq.ZzDelPaths. -/
import Derived.Test.YtpoibibbkjogpaaGreatDoorM20
import Derived.Test.YtpoibibbkjogpaaGreatDoorM02
import Derived.ChangeArms
import Derived.SizedLaws
import Derived.ChangeSlices
import Derived.Test.YtpoibibbkjogpaaGreatDoorM13
import Derived.Test.YtpoibibbkjogpaaGreatDoorM16
import Derived.Test.YtpoibibbkjogpaaGreatDoorM09
namespace Go.Proofs.YtpoibibbkjogpaaGreatDoor
open Go Go.RowKit Go.Maps Go.Deep Go.WideMaps
attribute [local go_sem] assert_sl assert_sl_nil

set_option maxRecDepth 100000 in
theorem delpaths_none {x : Value} {a : Option Addr} {c : Nat} {am : Option Nat} (fx : IsI x) (w : World) : Calls Tryz.prog 46 #[x, .iface 59 (.slice a 0 c), .map am] w (Ret fun u w' => u = x ∧ w' = w) := by
  rcases fx with rfl | ⟨tx, x, rfl⟩
  all_goals
    go_enter Tryz.func46, Tryz.ntmps46
    go_wp2_with fail
    go_ret
    exact ⟨_, rfl, rfl, rfl⟩

set_option maxHeartbeats 2000000 in
set_option maxRecDepth 100000 in
theorem zzDel_walk {R : Value → World → Prop} {x p : Value} {w : World} (fx : IsI x) (fp : IsI p) (H : Calls Tryz.prog 46 #[x, p, .map (some w.heap.size)] (w.alloc (.map #[] 0)) (Ret R)) (hR : ∀ u w', R u w' → IsI u) : Calls Tryz.prog 23 #[x, p] w (Ret R) := by
  have hmm := @run_makeMap Tryz.prog
  have F : Calls Tryz.prog 34 #[x, p] w (Ret R) := by
    have HH := Lib.hid H
    have HR := Lib.hid hR
    clear H hR
    rcases fx with rfl | ⟨tx, x, rfl⟩ <;> rcases fp with rfl | ⟨tp, p, rfl⟩
    all_goals
      go_enter Tryz.func34, Tryz.ntmps34
      go_wp2_with fail
      refine HH.out.mono ?_
      rintro e w1 ⟨u, rfl, hr⟩
      have fu := HR.out u w1 hr
      have Hr := Lib.hid hr
      clear hr HH
      rcases fu with rfl | ⟨tu, u, rfl⟩
      all_goals
        go_wp2_with fail
        go_ret
        exact ⟨_, rfl, Hr.out⟩
  have HH := Lib.hid F
  have HR := Lib.hid hR
  clear H hR F hmm
  rcases fx with rfl | ⟨tx, x, rfl⟩ <;> rcases fp with rfl | ⟨tp, p, rfl⟩
  all_goals
    go_enter Tryz.func23, Tryz.ntmps23
    go_wp2_with fail
    refine HH.out.mono ?_
    rintro e w1 ⟨u, rfl, hr⟩
    have fu := HR.out u w1 hr
    have Hr := Lib.hid hr
    clear hr HH
    rcases fu with rfl | ⟨tu, u, rfl⟩
    all_goals
      go_wp2_with fail
      go_ret
      exact ⟨_, rfl, Hr.out⟩

/-- What is left by these paths: v itself, or v without what stands at them. -/
def LeftBy (v : V) (ss : List (List Stp)) (r : V) : Prop := (ss = [] ∧ r = v) ∨ (ss ≠ [] ∧ ∃ j, delJ (toJ v) ss = some j ∧ Hol v j r)
theorem leftBy_ex {v : V} (g : Good v) (ss : List (List Stp)) (h : ∀ s ∈ ss, Leads v s) : ∃ r, LeftBy v ss r ∧ Rest v r := by
  by_cases e : ss = []
  · exact ⟨v, .inl ⟨e, rfl⟩, rest_refl v g⟩
  · obtain ⟨j, r, h1, h2⟩ := delJ_hol g ss (toJ v) v h (hol_same v g)
    exact ⟨r, .inr ⟨e, j, h1, h2⟩, hol_rest v j r h2⟩

theorem zzDel_any {v r : V} (g : Good v) (sm : Small v) {ss : List (List Stp)} (hss : ∀ s ∈ ss, Leads v s) (hl : LeftBy v ss r) {S U : Nat → Prop} {x p : Value} {w : World} (hx : RepJ w S (toJ v) x) (hp : RepJ w U (.arr (toJL (ss.map pathV))) p)
    (hS : ∀ k, S k → k < w.heap.size) (hU : ∀ k, U k → k < w.heap.size) : Calls Tryz.prog 23 #[x, p] w (Ret fun u w' => Turns S w w' ∧ RepJ w' (SinceS S w w') (toJ r) u) := by
  have hb := below_alloc1 w (.map #[] 0)
  have hs := size_alloc1 w (.map #[] 0)
  have hx' : RepJ (w.alloc (.map #[] 0)) S (toJ v) x := hx.carry fun k hk => hb.block k (hS k hk)
  have hp' : RepJ (w.alloc (.map #[] 0)) U (.arr (toJL (ss.map pathV))) p := hp.carry fun k hk => hb.block k (hU k hk)
  refine zzDel_walk hx.form hp.form ?_ fun u w' h => h.2.form
  have up : ∀ u w', Turns S (w.alloc (.map #[] 0)) w' ∧ RepJ w' (SinceS S (w.alloc (.map #[] 0)) w') (toJ r) u → Turns S w w' ∧ RepJ w' (SinceS S w w') (toJ r) u := fun u w' h => by
    refine ⟨((Turns.refl S w).trans (Turns.of_below hb) (fun q _ h => h.elim)).trans h.1 (fun q _ h => h), h.2.mono fun k hk => ?_⟩
    rcases hk with hk | hk
    · exact .inl hk
    · exact .inr ⟨by omega, hk.2⟩
  rcases hl with ⟨rfl, rfl⟩ | ⟨hne, j, hj, hr⟩
  · obtain ⟨a, c, t, rfl, ej, _⟩ := arr_open hp'
    have ht : t = [] := by
      have := congrArg List.length ej
      simp [toJL_eq] at this
      exact List.eq_nil_of_length_eq_zero this.symm
    subst ht
    refine (delpaths_none hx.form _).mono ?_
    rintro e w' ⟨u, he, rfl, rfl⟩
    exact ⟨_, he, up _ _ ⟨Turns.refl _ _, hx'.mono fun k hk => .inl hk⟩⟩
  · refine (delpaths_any g sm hss (List.length_pos_iff.2 hne) hj hr hx' hp' (fun k hk => by have := hS k hk; omega) (fun k hk => by have := hU k hk; omega)).mono ?_
    rintro e w' ⟨u, he, h⟩
    exact ⟨u, he, up u w' h⟩

/-- What ZzDelPaths leaves, for impl.result; old memory stands below lo. -/
abbrev SubB (lo : Nat) (w : World) (an : Ans) (v : Value) (w' : World) : Prop := (v = .nilIface ∨ ∃ t y, v = .iface t y) ∧ Calls Tryz.prog 22 #[v] w' (ResQ w' an) ∧ Below lo w w'

end Go.Proofs.YtpoibibbkjogpaaGreatDoor

namespace Go.Proofs.YtpoibibbkjogpaaGreatDoor
open Go Go.RowKit

theorem spot_none {w : World} {a : Addr} {v : Value} (h : w.cell? a = some v) : a.spot = none ∧ a.block < w.heap.size := by
  unfold World.cell? at h
  split at h
  · rename_i hb
    split at h
    · cases h
    · rename_i hs
      refine ⟨by simpa using hs, ?_⟩
      exact (Array.getElem?_eq_some_iff.1 hb).1
  · cases h

theorem add_none (b o i : Nat) : (⟨b, o, none⟩ : Addr).add i = ⟨b, o + i, none⟩ := by
  unfold Addr.add
  split
  · subst_vars; rfl
  · rfl

theorem weights_mem_all {H : Type} {P : Program} {e : TypeId} : ∀ {l : List (DataW H)} {i : Nat} {d : DataW H}, l[i]? = some d → ∀ n ∈ d.weights P e, n ∈ DataW.weightsAll P e l
  | [], _, _, h, _, _ => by simp at h
  | d0 :: r, 0, d, h, n, hn => by
    simp only [List.getElem?_cons_zero, Option.some.injEq] at h
    subst h
    simp only [DataW.weightsAll, List.mem_append]
    exact .inl hn
  | d0 :: r, i + 1, d, h, n, hn => by
    simp only [List.getElem?_cons_succ] at h
    simp only [DataW.weightsAll, List.mem_append]
    exact .inr (weights_mem_all h n hn)

theorem cells_value : Tryz.prog.cellsOf 26 = 6 := by kernel_rfl
theorem cells_string : Tryz.prog.cellsOf 9 = 1 := by kernel_rfl
theorem bytes_value : Tryz.prog.bytesOf 26 = 104 := by kernel_rfl
theorem bytes_string : Tryz.prog.bytesOf 9 = 16 := by kernel_rfl
theorem cells_kind : Tryz.prog.cellsOf 22 = 1 := by kernel_rfl
theorem cells_int : Tryz.prog.cellsOf 3 = 1 := by kernel_rfl
theorem cells_values : Tryz.prog.cellsOf 23 = 1 := by kernel_rfl
theorem cells_strings : Tryz.prog.cellsOf 24 = 1 := by kernel_rfl

section
variable {H : Type} {enc : TypeId × Value → H} {W : World} {sp : Nat → Bool}

theorem rows_of {n len : Nat} {a : Addr} {elems : List (DataW H × List MemPlace)} (hlen : elems.length = len)
    (hel : ∀ i, i < len → (W.cells? 0 (a.add (i * 6)) 6).bind (DataW.trod enc Tryz.prog W 0 sp true n 26) = elems[i]?)
    (ih : ∀ (i : Nat) (e : DataW H × List MemPlace), elems[i]? = some e → ∀ cs, DataW.trod enc Tryz.prog W 0 sp true n 26 cs = some e → ∃ v, RepV W W.heap.size v cs) :
    ∃ (l : List V) (C : Nat → List Value), l.length = len ∧ (0 < len → ∃ b o, a = ⟨b, o, none⟩ ∧ b < W.heap.size ∧ ∀ i, i < len → CellsAt W b (o + i * 6) (C i)) ∧
      ∀ i (hi : i < l.length), RepV W W.heap.size l[i] (C i) := by
  have each : ∀ i : Fin len, ∃ p : V × List Value, W.cells? 0 (a.add (i.1 * 6)) 6 = some p.2 ∧ RepV W W.heap.size p.1 p.2 := by
    intro i
    have h1 := hel i.1 i.2
    have h2 : elems[i.1]? = some (elems[i.1]'(by rw [hlen]; exact i.2)) := List.getElem?_eq_getElem _
    rw [h2, Option.bind_eq_some_iff] at h1
    obtain ⟨cs, hc, ht⟩ := h1
    obtain ⟨v, hv⟩ := ih i.1 _ h2 cs ht
    exact ⟨(v, cs), hc, hv⟩
  obtain ⟨F, hF⟩ := Classical.axiomOfChoice each
  refine ⟨List.ofFn fun i => (F i).1, fun i => if h : i < len then (F ⟨i, h⟩).2 else [], by simp, fun h0 => ?_, fun i hi => ?_⟩
  · obtain ⟨_, h6, hc⟩ := World.cells?_some (hF ⟨0, h0⟩).1
    have c0 := hc 0 (by omega)
    rw [List.getElem?_eq_getElem (by omega)] at c0
    simp [Addr.add] at c0
    obtain ⟨s0, hb⟩ := spot_none c0
    refine ⟨a.block, a.off, ?_, hb, fun i hi => ?_⟩
    · obtain ⟨b, o, s⟩ := a
      simp only at s0
      rw [s0]
    · have ea : a = ⟨a.block, a.off, none⟩ := by
        obtain ⟨b, o, s⟩ := a
        simp only at s0
        rw [s0]
      obtain ⟨_, h6, hc⟩ := World.cells?_some (hF ⟨i, hi⟩).1
      intro j hj
      simp only [dif_pos hi] at hj ⊢
      have := hc j (by omega)
      rw [ea, add_none, add_none, List.getElem?_eq_getElem (by omega)] at this
      exact this
  · have hi' : i < len := by simpa using hi
    simp only [List.getElem_ofFn, dif_pos hi']
    exact (hF ⟨i, hi'⟩).2

theorem keys_of {n len : Nat} {a : Addr} {elems : List (DataW H × List MemPlace)} (hlen : elems.length = len)
    (hel : ∀ i, i < len → (W.cells? 0 (a.add (i * 1)) 1).bind (DataW.trod enc Tryz.prog W 0 sp true n 9) = elems[i]?)
    (hw : ∀ (i : Nat) (e : DataW H × List MemPlace), elems[i]? = some e → ∀ m ∈ e.1.weights Tryz.prog 9, m ≤ reachBytes) :
    ∃ (l : List ByteArray), l.length = len ∧ (0 < len → ∃ b o, a = ⟨b, o, none⟩ ∧ b < W.heap.size ∧ ∀ i (hi : i < l.length), W.cell? ⟨b, o + i, none⟩ = some (.string l[i])) ∧
      ∀ s ∈ l, s.size ≤ 140737488351232 := by
  have each : ∀ i : Fin len, ∃ s : ByteArray, W.cells? 0 (a.add (i.1 * 1)) 1 = some [.string s] ∧ s.size ≤ 140737488351232 := by
    intro i
    have h1 := hel i.1 i.2
    have h2 : elems[i.1]? = some (elems[i.1]'(by rw [hlen]; exact i.2)) := List.getElem?_eq_getElem _
    rw [h2, Option.bind_eq_some_iff] at h1
    obtain ⟨cs, hc, ht⟩ := h1
    obtain ⟨s, rfl, e, _⟩ := DataW.trod_string Tryz.underlying9 ht
    refine ⟨s, hc, ?_⟩
    have := hw i.1 _ h2 s.size (by rw [e]; simp [DataW.weights])
    exact this
  obtain ⟨F, hF⟩ := Classical.axiomOfChoice each
  refine ⟨List.ofFn fun i => F i, by simp, fun h0 => ?_, fun s hs => ?_⟩
  · have c0 := (World.cells?_some (hF ⟨0, h0⟩).1).2.2 0 (by omega)
    have c0 : W.cell? a = some (.string (F ⟨0, h0⟩)) := by simpa [Addr.add] using c0
    obtain ⟨s0, hb⟩ := spot_none c0
    have ea : a = ⟨a.block, a.off, none⟩ := by
      obtain ⟨b, o, s⟩ := a
      simp only at s0
      rw [s0]
    refine ⟨a.block, a.off, ea, hb, fun i hi => ?_⟩
    have hi' : i < len := by simpa using hi
    have := (World.cells?_some (hF ⟨i, hi'⟩).1).2.2 0 (by omega)
    rw [ea, add_none, add_none, Nat.mul_one, Nat.add_zero] at this
    simpa using this
  · obtain ⟨i, rfl⟩ := List.mem_ofFn.1 hs
    exact (hF i).2

set_option maxRecDepth 10000 in
theorem rep_of_trod : ∀ (fuel : Nat) (cs : List Value) (x : DataW H × List MemPlace), DataW.trod enc Tryz.prog W 0 sp true fuel 26 cs = some x →
    (∀ m ∈ x.1.weights Tryz.prog 26, m ≤ reachBytes) → ∃ v, RepV W W.heap.size v cs := by
  intro fuel
  induction fuel using Nat.strongRecOn with
  | _ fuel ih =>
  intro cs x htr hw
  obtain ⟨xs, n, rfl, hx, h6, hlen, hf⟩ := DataW.trod_struct Tryz.underlying26 htr
  rw [cells_value] at h6
  match cs, h6 with
  | [c0, c1, c2, c3, c4, c5], _ =>
  match xs, hlen with
  | [x0, x1, x2, x3, x4, x5], _ =>
  have f0 : DataW.trod enc Tryz.prog W 0 sp true n 22 (([c0, c1, c2, c3, c4, c5].drop 0).take (Tryz.prog.cellsOf 22)) = some x0 := hf 0 _ rfl
  rw [cells_kind] at f0
  have f1 : DataW.trod enc Tryz.prog W 0 sp true n 3 (([c0, c1, c2, c3, c4, c5].drop 1).take (Tryz.prog.cellsOf 3)) = some x1 := hf 1 _ rfl
  rw [cells_int] at f1
  have f2 : DataW.trod enc Tryz.prog W 0 sp true n 9 (([c0, c1, c2, c3, c4, c5].drop 2).take (Tryz.prog.cellsOf 9)) = some x2 := hf 2 _ rfl
  rw [cells_string] at f2
  have f3 : DataW.trod enc Tryz.prog W 0 sp true n 23 (([c0, c1, c2, c3, c4, c5].drop 3).take (Tryz.prog.cellsOf 23)) = some x3 := hf 3 _ rfl
  rw [cells_values] at f3
  have f4 : DataW.trod enc Tryz.prog W 0 sp true n 24 (([c0, c1, c2, c3, c4, c5].drop 4).take (Tryz.prog.cellsOf 24)) = some x4 := hf 4 _ rfl
  rw [cells_strings] at f4
  have f5 : DataW.trod enc Tryz.prog W 0 sp true n 23 (([c0, c1, c2, c3, c4, c5].drop 5).take (Tryz.prog.cellsOf 23)) = some x5 := hf 5 _ rfl
  rw [cells_values] at f5
  have wt : ∀ (j : Nat) (t : TypeId) (d : DataW H), [22, 3, 9, 23, 24, 23][j]? = some t → [x0.1, x1.1, x2.1, x3.1, x4.1, x5.1][j]? = some d →
      ∀ m ∈ d.weights Tryz.prog t, m ≤ reachBytes := by
    intro j t d ht hd m hm
    refine hw m ?_
    rw [hx]
    simp only [DataW.weights, Tryz.underlying26]
    exact DataW.weights_mem_each ht hd m hm
  obtain ⟨k, e0, _, k1⟩ := DataW.trod_int Tryz.underlying22 f0
  obtain ⟨h, e1, _, h1⟩ := DataW.trod_int Tryz.underlying3 f1
  obtain ⟨t, e2, q2, _⟩ := DataW.trod_string Tryz.underlying9 f2
  cases e0; cases e1; cases e2
  have ht : t.size ≤ 140737488351232 := wt 2 _ _ rfl rfl t.size (by rw [q2]; simp [DataW.weights])
  have hk : -9223372036854775808 ≤ k ∧ k ≤ 9223372036854775807 := by simpa [Lit.wf, IntKind.min, IntKind.max, IntKind.signed, IntKind.bits] using k1
  have hh : -9223372036854775808 ≤ h ∧ h ≤ 9223372036854775807 := by simpa [Lit.wf, IntKind.min, IntKind.max, IntKind.signed, IntKind.bits] using h1
  have list : ∀ (c : Value) (y : DataW H × List MemPlace), DataW.trod enc Tryz.prog W 0 sp true n 23 [c] = some y → (∀ m ∈ y.1.weights Tryz.prog 23, m ≤ reachBytes) →
      ∃ (l : List V) (la : Option Addr) (lc : Nat) (C : Nat → List Value), c = .slice la l.length lc ∧ l.length * 104 ≤ 140737488351232 ∧
        (0 < l.length → ∃ b o, la = some ⟨b, o, none⟩ ∧ b < W.heap.size ∧ ∀ i, i < l.length → CellsAt W b (o + i * 6) (C i)) ∧ (∀ i (hi : i < l.length), RepV W W.heap.size l[i] (C i)) ∧ l.length ≤ lc := by
    intro c y hy hwy
    rcases DataW.trod_slice Tryz.underlying23 hy with ⟨e, _⟩ | ⟨a, len, cap, elems, rest, m, rfl, e, q, _, hlc, _, hl, hel, _⟩
    · cases e
      exact ⟨[], _, _, fun _ => [], rfl, by simp, fun h0 => absurd h0 (by simp), fun i hi => absurd hi (by simp), Nat.le_refl 0⟩
    · cases e
      rw [cells_value] at hel
      have hww : ∀ (i : Nat) (e : DataW H × List MemPlace), elems[i]? = some e → ∀ m ∈ e.1.weights Tryz.prog 26, m ≤ reachBytes := by
        intro i e he m hm
        refine hwy m ?_
        rw [q]
        simp only [DataW.weights, Tryz.underlying23, List.mem_cons, List.mem_append]
        exact .inr (.inl (weights_mem_all (i := i) (by rw [List.getElem?_map, he]; rfl) m hm))
      obtain ⟨l, C, rfl, hc, hr⟩ := rows_of hl hel (fun i e he cs hcs => ih m (by omega) cs e hcs (hww i e he))
      refine ⟨l, _, _, C, rfl, ?_, fun h0 => ?_, hr, by omega⟩
      · have := hwy ((elems.length + rest.length) * 104) (by rw [q]; simp [DataW.weights, Tryz.underlying23, bytes_value])
        have e : reachBytes = 140737488351232 := rfl
        rw [hl] at this
        omega
      · obtain ⟨b, o, rfl, hb, hcs⟩ := hc h0
        exact ⟨b, o, rfl, hb, hcs⟩
  obtain ⟨l, la, lc, C, rfl, hl, cl, rl, hlc⟩ := list c3 x3 f3 (wt 3 _ _ rfl rfl)
  obtain ⟨vs, va, vc, D, rfl, hvs, cv, rv, _⟩ := list c5 x5 f5 (wt 5 _ _ rfl rfl)
  have keys : ∃ (ks : List ByteArray) (ka : Option Addr) (kc : Nat), c4 = .slice ka ks.length kc ∧ ks.length * 16 ≤ 140737488351232 ∧ (∀ s ∈ ks, s.size ≤ 140737488351232) ∧
      (0 < ks.length → ∃ b o, ka = some ⟨b, o, none⟩ ∧ b < W.heap.size ∧ ∀ i (hi : i < ks.length), W.cell? ⟨b, o + i, none⟩ = some (.string ks[i])) := by
    have hwy := wt 4 _ _ rfl rfl
    rcases DataW.trod_slice Tryz.underlying24 f4 with ⟨e, _⟩ | ⟨a, len, cap, elems, rest, m, rfl, e, q, _, _, _, hl, hel, _⟩
    · cases e
      exact ⟨[], _, _, rfl, by simp, fun s hs => absurd hs (by simp), fun h0 => absurd h0 (by simp)⟩
    · cases e
      rw [cells_string] at hel
      have hww : ∀ (i : Nat) (e : DataW H × List MemPlace), elems[i]? = some e → ∀ m ∈ e.1.weights Tryz.prog 9, m ≤ reachBytes := by
        intro i e he m hm
        refine hwy m ?_
        rw [q]
        simp only [DataW.weights, Tryz.underlying24, List.mem_cons, List.mem_append]
        exact .inr (.inl (weights_mem_all (i := i) (by rw [List.getElem?_map, he]; rfl) m hm))
      obtain ⟨ks, rfl, hc, hs⟩ := keys_of hl hel hww
      refine ⟨ks, _, _, rfl, ?_, hs, fun h0 => ?_⟩
      · have := hwy ((elems.length + rest.length) * 16) (by rw [q]; simp [DataW.weights, Tryz.underlying24, bytes_string])
        have e : reachBytes = 140737488351232 := rfl
        rw [hl] at this
        omega
      · obtain ⟨b, o, rfl, hb, hcs⟩ := hc h0
        exact ⟨b, o, rfl, hb, hcs⟩
  obtain ⟨ks, ka, kc, rfl, hks, hs, ck⟩ := keys
  exact ⟨_, .mk C D hk hh ht hl hks hvs hs cl rl ck cv rv hlc⟩
end

end Go.Proofs.YtpoibibbkjogpaaGreatDoor

namespace Go.Proofs.YtpoibibbkjogpaaGreatDoor
open Go Go.RowKit

theorem cells_u16 : Tryz.prog.cellsOf 49 = 1 := by kernel_rfl

/-- A row of uint16 in memory. -/
def ShortsAt (w : World) (B : Nat) (l : List Nat) (v : Value) : Prop :=
  (∀ m ∈ l, m < 65536) ∧ ∃ (la : Option Addr) (lc : Nat), v = .slice la l.length lc ∧ l.length ≤ maxLen ∧ (0 < l.length → ∃ b o, la = some ⟨b, o, none⟩ ∧ b < B ∧ ∀ i (hi : i < l.length), w.cell? ⟨b, o + i, none⟩ = some (.int .u16 (l[i] : Nat)))
theorem ShortsAt.mono {w : World} {B C : Nat} {l : List Nat} {v : Value} (h : ShortsAt w B l v) (hB : B ≤ C) : ShortsAt w C l v := by
  obtain ⟨h1, la, lc, e, h2, h3⟩ := h
  refine ⟨h1, la, lc, e, h2, fun h0 => ?_⟩
  obtain ⟨b, o, e, hbB, hc⟩ := h3 h0
  exact ⟨b, o, e, by omega, hc⟩
theorem ShortsAt.below {w w' : World} {B : Nat} {l : List Nat} {v : Value} (h : ShortsAt w B l v) (hb : Below B w w') : ShortsAt w' B l v := by
  obtain ⟨h1, la, lc, e, h2, h3⟩ := h
  refine ⟨h1, la, lc, e, h2, fun h0 => ?_⟩
  obtain ⟨b, o, e, hbB, hc⟩ := h3 h0
  exact ⟨b, o, e, hbB, fun i hi => (hb.cell hbB).trans (hc i hi)⟩

section
variable {H : Type} {enc : TypeId × Value → H} {W : World}

theorem shorts_of_trod {fuel : Nat} {c : Value} {y : DataW H × List MemPlace} (hy : DataW.trod enc Tryz.prog W 0 (fun _ => true) true fuel 27 [c] = some y) : ∃ l : List Nat, ShortsAt W W.heap.size l c := by
  rcases Go.ChangeShapes.open_ints Tryz.underlying27 Tryz.underlying49 cells_u16 hy with ⟨e, _⟩ | ⟨a, len, cap, zs, e, _, hlc, hm, hz, _, hc, hw⟩
  · cases e
    exact ⟨[], fun m hm => (by cases hm), _, _, rfl, Nat.zero_le _, fun h0 => absurd h0 (by simp)⟩
  · cases e
    simp only [if_true] at hz
    have hb : ∀ n ∈ zs, 0 ≤ n ∧ n ≤ 65535 := fun n hn => by
      have := hw n hn
      simpa [Lit.wf, IntKind.min, IntKind.max, IntKind.signed, IntKind.bits] using this
    have hlen : ((zs.take len).map Int.toNat).length = len := by simp; omega
    refine ⟨(zs.take len).map Int.toNat, fun m hm => ?_, _, cap, by rw [hlen], by omega, fun h0 => ?_⟩
    · obtain ⟨n, hn, rfl⟩ := List.mem_map.1 hm
      have := hb n (List.mem_of_mem_take hn)
      omega
    · have c0 : W.cell? a = some (.int .u16 (zs.getD 0 0)) := by
        have := hc 0 (by omega)
        simpa [Addr.add] using this
      obtain ⟨s0, hbl⟩ := spot_none c0
      have ea : a = ⟨a.block, a.off, none⟩ := by
        obtain ⟨b, o, s⟩ := a
        simp only at s0
        rw [s0]
      refine ⟨a.block, a.off, by rw [← ea], hbl, fun i hi => ?_⟩
      have hi' : i < len := by omega
      have h1 := hc i (by omega)
      rw [ea, add_none] at h1
      have e1 : zs.getD i 0 = zs[i]'(by omega) := by simp [List.getD, show i < zs.length by omega]
      have h2 := hb (zs[i]'(by omega)) (List.getElem_mem _)
      rw [h1, e1]
      simp only [List.getElem_map, List.getElem_take]
      congr 2
      omega
end

end Go.Proofs.YtpoibibbkjogpaaGreatDoor

namespace Go.Proofs.YtpoibibbkjogpaaGreatDoor
open Go Go.RowKit Go.Maps Go.Deep

theorem info_val6 : (Tryz.prog.info? 26).map (fun i => (i.zero, i.size, i.bytes)) = (Tryz.prog.info? 26).map (fun i => (i.zero, 6, 104)) := by kernel_rfl

def pickC (C : Nat → Value) (i : Nat) : List Value := [.int .i64 5, .int .i64 0, .string ⟨#[]⟩, C i, .slice none 0 0, .slice none 0 0]
theorem pickC_one {C : Nat → Value} {i : Nat} (h : ∃ a n c, C i = .slice a n c) : ∀ u ∈ pickC C i, u.oneCell' = true := by
  obtain ⟨a, n, c, e⟩ := h
  unfold pickC
  rw [e]
  simp [Value.oneCell']
theorem pick_flat {C C' : Nat → Value} {n : Nat} (h : ∀ i, i < n → C i = C' i) : flat (pickC C) n = flat (pickC C') n := flat_same fun i hi => by unfold pickC; rw [h i hi]

def SomeLoop (W : World) (L : List (List V)) (nn : Nat) (out i : Value) (wr : World) : Prop :=
  ∃ (n : Nat) (o' : Value) (ps : List (List V)) (C : Nat → Value), n ≤ nn ∧ n ≤ 30 ∧ o' = out ∧ i = .int .i64 (n : Nat) ∧ ps.length = n ∧ Below W.heap.size W wr ∧ wr.ownsRow W.heap.size 26 6 o' n (flat (pickC C) n) ∧
    ∀ j (hj : j < ps.length), PathS W (· < W.heap.size) ps[j] (C j) ∧ ∃ q, ∃ h : q + 1 < L.length, ps[j] = L[q + 1]

theorem leads_list {v : V} : ∀ (ps : List (List V)), (∀ q ∈ ps, ∃ s : List Stp, q = s.map Stp.v ∧ Leads v s) → ∃ ss : List (List Stp), ps = ss.map (fun s => s.map Stp.v) ∧ ∀ s ∈ ss, Leads v s
  | [], _ => ⟨[], rfl, fun s hs => by cases hs⟩
  | q :: ps, h => by
    obtain ⟨s, e, hl⟩ := h q (List.mem_cons_self ..)
    obtain ⟨ss, e2, hl2⟩ := leads_list ps fun q hq => h q (List.mem_cons_of_mem _ hq)
    refine ⟨s :: ss, by rw [List.map_cons, ← e, ← e2], fun x hx => ?_⟩
    rcases List.mem_cons.1 hx with rfl | hx
    · exact hl
    · exact hl2 x hx

theorem way_leads {w : World} {B : Nat} {v : V} {cv : List Value} (hv : RepV w B v cv) (hz : sizeV v ≤ 400) {q : List V} {y : V} (hw : WayTo v q y) (hq : q ≠ []) : ∃ s : List Stp, q = s.map Stp.v ∧ Leads v s := by
  obtain ⟨ss, hqs, hss⟩ := stps_of hw
  refine ⟨ss, hqs, fun e => hq (by rw [hqs, e]; rfl), fun x hx => ?_, y, by rw [← hqs]; exact hw⟩
  cases x with
  | key kx => exact rep_way hw hv kx (by rw [hqs]; exact List.mem_map.2 ⟨_, hx, rfl⟩)
  | idx nx => exact Nat.le_of_lt (Nat.lt_of_lt_of_le (hss nx hx) (by omega))

/-- What laws.some returns: paths of places below v, as an array's row. -/
def SomeP (w : World) (v : V) (e : Ending) (w' : World) : Prop :=
  ∃ (ss : List (List Stp)) (oa : Option Addr) (oc : Nat), e = .returned (.slice oa ss.length oc) ∧ Below w.heap.size w w' ∧ (∀ s ∈ ss, Leads v s) ∧ (∀ x ∈ ss.map pathV, Good x) ∧
    RepV w' w'.heap.size (.mk 5 0 ⟨#[]⟩ (ss.map pathV) [] []) [.int .i64 5, .int .i64 0, .string ⟨#[]⟩, .slice oa ss.length oc, .slice none 0 0, .slice none 0 0]

theorem some_fin {w W wr : World} {v : V} {cv : List Value} (hv : RepV w w.heap.size v cv) (gv : Good v) (hz : sizeV v ≤ 400) (hW : Below w.heap.size w W) {n : Nat} {ps : List (List V)} {C : Nat → Value} {oa : Option Addr} {on oc : Nat} (hn : n ≤ 30) (hps : ps.length = n) (hb : Below W.heap.size W wr)
    (hown : wr.ownsRow W.heap.size 26 6 (.slice oa on oc) n (flat (pickC C) n)) (hp : ∀ j (hj : j < ps.length), PathS W (· < W.heap.size) ps[j] (C j) ∧ ∃ q, ∃ h : q + 1 < ((spotsV [] v).map (·.1)).length, ps[j] = ((spotsV [] v).map (·.1))[q + 1]) :
    SomeP w v (.returned (.slice oa on oc)) wr := by
  have hway : ∀ q ∈ ps, (∃ y, WayTo v q y) ∧ q ≠ [] := by
    intro q hq
    obtain ⟨j, hj, rfl⟩ := List.mem_iff_getElem.1 hq
    obtain ⟨_, i, hi, e⟩ := hp j hj
    have hi2 : i + 1 < (spotsV [] v).length := by simpa using hi
    obtain ⟨r, e1, hw⟩ := spotsV_way [] v _ _ (List.getElem_mem hi2)
    have e2 : (spotsV [] v)[i + 1].1 = r := e1
    have e3 : ps[j] = r := by rw [e, List.getElem_map, e2]
    rw [e3]
    exact ⟨⟨_, hw⟩, by rw [← e2]; exact spots_tail v hi2⟩
  obtain ⟨ss, hss, hl⟩ := leads_list ps fun q hq => by
    obtain ⟨⟨y, hw⟩, hne⟩ := hway q hq
    exact way_leads hv hz hw hne
  have hlen : ss.length = n := by rw [← hps, hss, List.length_map]
  have hon : on = n := by
    rcases hown.2 with ⟨e, h0⟩ | ⟨g, cap, cur, e, _⟩
    · injection e with _ e _; omega
    · injection e with _ e _
  subst hon
  have hbw := hW.trans (hb.mono hW.size)
  have gs : ∀ s ∈ ss, Good (pathV s) := by
    intro s hs
    obtain ⟨_, _, y, hw⟩ := hl s hs
    exact good_row (way_good hw gv hz).2
  have hrs : ∀ j (hj : j < ss.length), RepV wr wr.heap.size (pathV ss[j]) (pickC C j) := by
    intro j hj
    have hj2 : j < ps.length := by omega
    have hpj := (hp j hj2).1
    have ej : ps[j] = ss[j].map Stp.v := by
      have : ps[j]? = (ss.map fun s => s.map Stp.v)[j]? := by rw [hss]
      simpa [hj, hj2] using this
    obtain ⟨hne, hsm, y, hw⟩ := hl _ (List.getElem_mem hj)
    obtain ⟨pa, pc, epq, _⟩ := id hpj
    have hsh := hw.short
    rw [epq] at hpj
    have h2 := (rep_path (w := wr) ej hsm (by rw [ej]; omega) (hpj.turn fun z hz => ⟨hb.block z hz, by have : z < W.heap.size := hz; have := hb.size; show z < wr.heap.size; omega⟩)).2
    unfold pickC pathV
    rw [epq, ← ej]
    exact h2
  have hcell : 0 < on → ∃ g, oa = some ⟨g, 0, none⟩ ∧ g < wr.heap.size ∧ on ≤ oc ∧ ∀ i, i < on → CellsAt wr g (i * 6) (pickC C i) := by
    intro h0
    rcases hown.2 with ⟨e, h1⟩ | ⟨g, cap, cur, e, hgb, hg, hnc, _⟩
    · omega
    · injection e with e1 e2 e3
      subst e1 e3
      refine ⟨g, rfl, (Array.getElem?_eq_some_iff.1 hg).1, hnc, fun i hi j hj => ?_⟩
      have hj6 : j < 6 := hj
      have h6 : ∀ i, i < on → (pickC C i).length = 6 := fun i hi => rfl
      have hc := World.ownsRow.cells hown (g := g) rfl (i * 6 + j) (pickC C i)[j] ((flatS_get h6 i j hi hj6).trans (List.getElem?_eq_getElem hj))
      rw [addr_add] at hc
      exact hc
  refine ⟨ss, oa, oc, by rw [hlen], hbw, hl, fun x hx => ?_, ?_⟩
  · obtain ⟨s, hs, rfl⟩ := List.mem_map.1 hx
    exact gs s hs
  · have e : ss.length = (ss.map pathV).length := by rw [List.length_map]
    rw [e]
    refine rep_array (C := pickC C) (by rw [← e]; omega) (fun h0 => ?_) (fun i hi => ?_) ?_
    · obtain ⟨g, h1, h2, _, h3⟩ := hcell (by omega)
      exact ⟨g, 0, h1, h2, fun i hi => by rw [Nat.zero_add]; exact h3 i (by omega)⟩
    · have hi' : i < ss.length := by omega
      rw [List.getElem_map]
      exact hrs i hi'
    · rcases hown.2 with ⟨e2, h1⟩ | ⟨g, cap, cur, e2, _, _, hnc, _⟩
      · omega
      · injection e2 with _ _ e3
        omega

set_option maxHeartbeats 4000000 in
set_option maxRecDepth 100000 in
theorem some_any (w : World) (v : V) (cv : List Value) (hv : RepV w w.heap.size v cv) (gv : Good v) (hz : sizeV v ≤ 400) {ns : List Nat} {nv : Value} (hn : ShortsAt w w.heap.size ns nv) :
    Calls Tryz.prog 10 #[.agg cv.toArray, nv] w (SomeP w v) := by
  obtain ⟨i0, hi, hz0, hz1, hz2⟩ := info_parts info_value
  obtain ⟨hns, na, nc, rfl, hnl, hncel⟩ := hn
  have Hfin := Lib.hid fun (W wr : World) (hW : Below w.heap.size w W) (n : Nat) (ps : List (List V)) (C : Nat → Value) (oa : Option Addr) (on oc : Nat) => some_fin (wr := wr) (n := n) (ps := ps) (C := C) (oa := oa) (on := on) (oc := oc) hv gv hz hW
  have Ways := Lib.hid fun (w' : World) (h : Below w.heap.size w w') => ways_any w w.heap.size w' v cv hv gv h h.size hz
  have Hns := Lib.hid hns
  have Hncel := Lib.hid hncel
  have hcount := spotsV_len [] v
  have hpos := spotsV_pos [] v
  generalize hL : (spotsV [] v).map (·.1) = L at *
  have hLl : (spotsV [] v).length = L.length := by rw [← hL, List.length_map]
  rw [hLl] at hcount hpos
  obtain ⟨k, h, t, la, ka, va, nl, cl, nk, ck, nv, cv, rfl⟩ := hv.shape
  clear hv hns hncel
  go_enter Tryz.func10, Tryz.ntmps10
  go_wp2_with fail
  have hbW := below_alloc1 w (.cells #[.int .i64 k, .int .i64 h, .string t, .slice la nl cl, .slice ka nk ck, .slice va nv cv] 26)
  refine (Ways.out _ hbW).mono ?_
  rintro e w2 ⟨ou, rfl, hw2, hpa⟩
  obtain ⟨W, hW⟩ : ∃ W, W = w2 := ⟨_, rfl⟩
  rw [← hW] at hw2 hpa ⊢
  have hbwW : Below w.heap.size w W := hbW.trans (hw2.mono hbW.size)
  clear hW hbW hw2
  obtain ⟨pla, plc, C0, rfl, _, hpc, hpp⟩ := hpa
  obtain ⟨pb, rfl, hpb, hcel⟩ := hpc hpos
  have Hcel := Lib.hid hcel
  have Hpp := Lib.hid hpp
  have HbwW := Lib.hid hbwW
  have hsW := hbwW.size
  clear hpc hcel hpp hbwW Ways
  obtain ⟨K, hK⟩ : ∃ K, L.length = K + 1 := ⟨L.length - 1, by omega⟩
  have hK400 : K ≤ 400 := by omega
  rw [hK]
  go_wp2_with fail
  go_loopw [6, 7] (fun out i wr => SomeLoop W L ns.length out i wr) (fun _ i _ => ns.length - (intOf i).toNat)
  case atStart => exact ⟨0, _, [], fun _ => .nilIface, Nat.zero_le _, Nat.zero_le _, rfl, rfl, rfl, Below.refl _ _, World.ownsRow_nil _ _ _ _, fun j hj => by simp at hj⟩
  case round =>
    obtain ⟨n, out, ps, C, hn1, hn2, rfl, rfl, hps, hb, hown, hp⟩ := hrel
    have hs := hb.size
    have Hp := Lib.hid hp
    have Hb := Lib.hid hb
    clear hp
    by_cases c1 : n < ns.length
    · have u1 : (n : Int) < (ns.length : Int) := by omega
      by_cases c2 : n < 30
      · have u2 : (n : Int) < 30 := by omega
        by_cases c3 : 0 < K
        · have u3 : (1 : Int) < (K : Int) + 1 := by omega
          obtain ⟨nb, no, rfl, hnb, hncel⟩ := Hncel.out (by omega)
          have y1 : wr.cell? ⟨nb, no + n, none⟩ = some (.int .u16 (ns[n] : Nat)) := ((HbwW.out.trans (hb.mono hsW)).cell (p := ⟨nb, no + n, none⟩) hnb).trans (hncel n c1)
          have hm := Hns.out _ (List.getElem_mem c1)
          generalize ns[n] = m at *
          obtain ⟨r, hr⟩ : ∃ r, r = m % K := ⟨_, rfl⟩
          have hrK : r < K := by rw [hr]; exact Nat.mod_lt _ c3
          have em : (m : Int).tmod (K : Int) = (r : Int) := by rw [hr]; rfl
          have y2 : wr.cell? ⟨pb, 1 + r, none⟩ = some (C0 (1 + r)) := (hb.cell (p := ⟨pb, 1 + r, none⟩) hpb).trans (Hcel.out (1 + r) (by omega))
          have hpr := Hpp.out (1 + r) (by omega)
          have hC0 : ∃ a n c, C0 (1 + r) = .slice a n c := by
            obtain ⟨a, c, e, _⟩ := hpr
            exact ⟨a, _, c, e⟩
          obtain ⟨qa, qn, qc, hq⟩ := hC0
          rw [hq, hr] at y2
          have u4 : (0 : Int) ≤ (n : Int) := by omega
          have u5 : ¬ ((K : Int) = 0) := by omega
          have u6 : (0 : Int) ≤ 1 + (r : Int) := by omega
          have u7 : 1 + (r : Int) < (K : Int) + 1 := by omega
          have u8 : n < 140737488355328 := by omega
          have Hpr := Lib.hid hpr
          have Hown := Lib.hid hown
          clear hncel hpr hown hb
          go_wp2_with fail
          refine (larray_any qa qn qc wr).mono ?_
          rintro e w3 ⟨rfl, hb3⟩
          have hs3 := hb3.size
          have hown2 := kept_row0 Hown.out (below_grown2 hb3 none)
          have hbn := below_alloc1 w3 (.cells #[.int .i64 5, .int .i64 0, .string ⟨#[]⟩, .slice qa qn qc, .slice none 0 0, .slice none 0 0] 26)
          have hsn := size_alloc1 w3 (.cells #[.int .i64 5, .int .i64 0, .string ⟨#[]⟩, .slice qa qn qc, .slice none 0 0, .slice none 0 0] 26)
          have hnews := cells_new w3 [.int .i64 5, .int .i64 0, .string ⟨#[]⟩, .slice qa qn qc, .slice none 0 0, .slice none 0 0] 26
          have hown3 := kept_row0 hown2 (below_grown2 hbn none)
          have hob : ∀ g, out.ownBlock = some g → W.heap.size ≤ g := fun g hg => (World.ownsRow.lt hown3 g hg).1
          have hb4 : Below W.heap.size W (w3.alloc (.cells #[.int .i64 5, .int .i64 0, .string ⟨#[]⟩, .slice qa qn qc, .slice none 0 0, .slice none 0 0] 26)) := (Hb.out.trans (hb3.mono hs)).trans (hbn.mono (by omega))
          have d1 : n + 1 ≤ maxLen := by unfold maxLen; omega
          have d2 : (n + 1) * 104 ≤ 140737488355328 := by omega
          have hbase : W.heap.size ≤ (w3.alloc (.cells #[.int .i64 5, .int .i64 0, .string ⟨#[]⟩, .slice qa qn qc, .slice none 0 0, .slice none 0 0] 26)).heap.size := by omega
          have hx1 : ∀ u ∈ ([.int .i64 5, .int .i64 0, .string ⟨#[]⟩, .slice qa qn qc, .slice none 0 0, .slice none 0 0] : List Value), u.oneCell' = true := by simp [Value.oneCell']
          have hnext : ∀ v' w', w'.ownsRow W.heap.size 26 6 v' (n + 1) (flat (pickC C) n ++ [.int .i64 5, .int .i64 0, .string ⟨#[]⟩, .slice qa qn qc, .slice none 0 0, .slice none 0 0]) →
              (w3.alloc (.cells #[.int .i64 5, .int .i64 0, .string ⟨#[]⟩, .slice qa qn qc, .slice none 0 0, .slice none 0 0] 26)).grownBy w' out.ownBlock → SomeLoop W L ns.length v' (.int .i64 ((n : Int) + 1)) w' := by
            intro v' w' ho hg
            refine ⟨n + 1, v', ps ++ [L[1 + r]'(by omega)], fun i => if i < n then C i else .slice qa qn qc, by omega, by omega, rfl, rfl, by simp [hps], hb4.grown hg (by omega) hob, ?_, fun j hj => ?_⟩
            · have e1 : flat (pickC fun i => if i < n then C i else .slice qa qn qc) (n + 1) = flat (pickC C) n ++ [.int .i64 5, .int .i64 0, .string ⟨#[]⟩, .slice qa qn qc, .slice none 0 0, .slice none 0 0] := by
                simp only [flat]
                congr 1
                · exact pick_flat fun i hi => by simp [hi]
                · simp [pickC]
              rw [e1]
              exact ho
            · simp only [List.length_append, List.length_singleton] at hj
              by_cases hj' : j < ps.length
              · rw [List.getElem_append_left hj']
                simp only [show j < n by omega, if_true]
                exact Hp.out j hj'
              · obtain rfl : j = n := by omega
                rw [List.getElem_append_right (by omega)]
                simp only [Nat.lt_irrefl, if_false, hps, Nat.sub_self, List.getElem_singleton]
                exact ⟨by rw [← hq]; exact Hpr.out, r, by omega, by simp only [Nat.add_comm 1 r]⟩
          have Hnext := Lib.hid hnext
          clear hnext hown2 hob hbn hb3 hb4 Hown
          go_wp2_with (at_builtin; go_loud (refine wpList_append_own_at _ rfl (.tmp 25) (.tmp 40) 23 rfl W.heap.size 26 i0 _ 6 104 Tryz.underlying23 hi hz0 hz1 hz2 rfl (by decide) out _ _ rfl hown3 _ 1 1 _ rfl rfl hnews hx1 d1 d2 hbase ?_; intro v' w5 hown5 hg5 _ hat5; have Hloop := Lib.hid (Hnext.out v' w5 hown5 hg5); obtain ⟨la', lc', rfl⟩ := row_form hown5; clear hown5 hg5 hat5))
          go_roundw
          case rel => exact Hloop.out
          case measure => simp [intOf]; omega
        · have u3 : ¬ ((1 : Int) < (K : Int) + 1) := by omega
          have Hown := Lib.hid hown
          obtain ⟨la', lc', rfl⟩ := row_form hown
          clear hown hb
          go_wp2_with fail
          go_ret
          exact Hfin.out W wr HbwW.out n ps C la' _ lc' hn2 hps Hb.out Hown.out Hp.out
      · have u2 : ¬ ((n : Int) < 30) := by omega
        have Hown := Lib.hid hown
        obtain ⟨la', lc', rfl⟩ := row_form hown
        clear hown hb
        go_wp2_with fail
        go_ret
        exact Hfin.out W wr HbwW.out n ps C la' _ lc' hn2 hps Hb.out Hown.out Hp.out
    · have u1 : ¬ ((n : Int) < (ns.length : Int)) := by omega
      have Hown := Lib.hid hown
      obtain ⟨la', lc', rfl⟩ := row_form hown
      clear hown hb
      go_wp2_with fail
      go_ret
      exact Hfin.out W wr HbwW.out n ps C la' _ lc' hn2 hps Hb.out Hown.out Hp.out

end Go.Proofs.YtpoibibbkjogpaaGreatDoor

namespace Go.Proofs.YtpoibibbkjogpaaGreatDoor
open Go Go.RowKit Go.Deep

set_option maxHeartbeats 1000000 in
set_option maxRecDepth 100000 in
theorem implDel_walk {w0 : World} {B : Nat} {a b : V} {ca cb : List Value} (ha : RepV w0 B a ca) (hb : RepV w0 B b cb) (an : Ans)
    (ta : ToGoOK w0 B a ca) (tb : ToGoOK w0 B b cb)
    (hz : ∀ w (lo N : Nat) x y, lo ≤ N → N ≤ w.heap.size → RepJ w (fun k => lo ≤ k ∧ k < N) (toJ a) x → RepJ w (fun k => N ≤ k ∧ k < w.heap.size) (toJ b) y → Calls Tryz.prog 23 #[x, y] w (Ret (SubB lo w an)))
    (w : World) (hbel : Below B w0 w) (hB : B ≤ w.heap.size) : Calls Tryz.prog 8 #[.agg ca.toArray, .agg cb.toArray] w (ResQ w an) := by
  have Ta := Lib.hid ta; clear ta
  have Tb := Lib.hid tb; clear tb
  have Hz := Lib.hid hz; clear hz
  have Hbel := Lib.hid hbel; clear hbel
  obtain ⟨k, h, t, la, ka, va, nl, cl, nk, ck, nv, cv, rfl⟩ := ha.shape
  obtain ⟨k', h', t', la', ka', va', nl', cl', nk', ck', nv', cv', rfl⟩ := hb.shape
  clear ha hb
  go_enter Tryz.func8, Tryz.ntmps8
  go_wp2_with fail
  have h0 := at_alloc3 w (.cells #[.int .i64 k, .int .i64 h, .string t, .slice la nl cl, .slice ka nk ck, .slice va nv cv] 26)
    (.cells #[.int .i64 k', .int .i64 h', .string t', .slice la' nl' cl', .slice ka' nk' ck', .slice va' nv' cv'] 26)
    (.cells #[.int .i64 0, .int .i64 0, .string ⟨#[]⟩, .slice none 0 0, .slice none 0 0, .slice none 0 0, .int .i64 0] 31)
  obtain ⟨hbW, hsW, hx1, hx2⟩ := h0
  refine (Ta.out _ (Hbel.out.trans (hbW.mono hB)) (by rw [hsW]; omega)).mono ?_
  generalize ((w.alloc _).alloc _).alloc _ = W at *
  rintro e w1 ⟨x, rfl, jx, hw1⟩
  have hs1 : w.heap.size + 3 ≤ w1.heap.size := by have := hw1.size; omega
  have y1 := (hw1.block (w.heap.size + 1) (by omega)).trans hx1
  have y2 := (hw1.block (w.heap.size + 1 + 1) (by omega)).trans hx2
  have hb1 : Below w.heap.size w w1 := hbW.trans (hw1.mono (by omega))
  obtain ⟨e0, e1, e2, e3, e4, e5⟩ := of_block6 y1
  have fx := jx.form
  have Jx := Lib.hid jx; clear jx
  have Hw1 := Lib.hid hw1; clear hw1
  go_wp2_with fail
  refine (Tb.out _ (Hbel.out.trans (hb1.mono hB)) (by omega)).mono ?_
  rintro e w2 ⟨y, rfl, jy, hw2⟩
  have hs2 : w.heap.size + 3 ≤ w2.heap.size := by have := hw2.size; omega
  have z2 := (hw2.block (w.heap.size + 1 + 1) (by omega)).trans y2
  have hb2 : Below w.heap.size w w2 := hb1.trans (hw2.mono (by omega))
  have jx2 := Jx.out.under hw2 (fun k hk => hk.2)
  have fy := jy.form
  have Z := Lib.hid (Hz.out w2 (w.heap.size + 3) w1.heap.size _ _ hs1 hw2.size (jx2.mono (fun k hk => ⟨by have := hk.1; omega, hk.2⟩)) jy)
  clear jx2 jy Jx
  rcases fx with rfl | ⟨tx, x, rfl⟩ <;> rcases fy with rfl | ⟨ty, y, rfl⟩
  all_goals
    go_wp2_with fail
    refine Z.out.mono ?_
    rintro e w3 ⟨u, rfl, hfu, hu, hw3⟩
    have hw3s := hw3.size
    have hs3 : w.heap.size + 3 ≤ w3.heap.size := by omega
    have z3 := (hw3.block (w.heap.size + 1 + 1) (by omega)).trans z2
    have hb3 : Below w.heap.size w w3 := hb2.trans (hw3.mono (by omega))
    have U := Lib.hid hu
    clear hu
    rcases hfu with rfl | ⟨tu, u, rfl⟩
    all_goals
      go_wp2_with fail
      refine U.out.mono ?_
      rintro e w4 ⟨k, h, t, la, ka, va, nl, cl, nk, ck, nv, cv, n, rfl, hR, hw4⟩
      have hs4 : w.heap.size + 3 ≤ w4.heap.size := by have := hw4.size; omega
      have z4 := (hw4.block (w.heap.size + 1 + 1) (by omega)).trans z3
      obtain ⟨e0, e1, e2, e3, e4, e5, e6⟩ := of_block7 z4
      obtain ⟨f0, f1, f2, f3, f4, f5, f6⟩ := free_block7 z4
      have Hst := Lib.hid (resQ_store (z := w.heap.size + 1 + 1) (by omega) (by omega) hb3 hw4 hR)
      clear hR
      go_wp2_with fail
      refine bodyPost_ret (v := .agg #[.int .i64 k, .int .i64 h, .string t, .slice la nl cl, .slice ka nk ck, .slice va nv cv, .int .i64 n]) ?_ rfl Hst.out
      exact results_cell_row (p := 4) (ty := 31) rfl _ _ (w.heap.size + 1 + 1) 31 _ (0, 0) _ rfl (set_row7 z4 _ _ _ _ _ _ _) Tryz.underlying31 rfl (by kernel_rfl)


theorem LeftBy.rest {v r : V} {ss : List (List Stp)} (g : Good v) (h : LeftBy v ss r) : Rest v r := by
  rcases h with ⟨_, rfl⟩ | ⟨_, j, _, hr⟩
  · exact rest_refl r g
  · exact hol_rest v j r hr

/-- impl.DelPaths at places of a value: what is left of it. -/
theorem implDel_any {w0 : World} {B : Nat} {v r : V} {ss : List (List Stp)} {cv cb : List Value} (hv : RepV w0 B v cv) (hp : RepV w0 B (.mk 5 0 ⟨#[]⟩ (ss.map pathV) [] []) cb) (gv : Good v) (gp : ∀ x ∈ ss.map pathV, Good x) (hss : ∀ s ∈ ss, Leads v s) (hl : LeftBy v ss r)
    (w : World) (hbel : Below B w0 w) (hB : B ≤ w.heap.size) : Calls Tryz.prog 8 #[.agg cv.toArray, .agg cb.toArray] w (ResQ w (.fine r)) := by
  have hrest := hl.rest gv
  have gr := rest_good v r hrest gv
  have sr := rest_small v r hrest hv.small
  refine implDel_walk hv hp (.fine r) (toGo_any w0 B v cv hv gv) (toGo_any w0 B _ cb hp (good_row gp)) ?_ w hbel hB
  intro w lo N x y hlo hN jx jy
  refine (zzDel_any gv hv.small hss hl jx (by rw [toJ_5] at jy; exact jy) (fun k hk => by have h2 : lo ≤ k ∧ k < N := hk; omega) (fun k hk => by have h2 : N ≤ k ∧ k < w.heap.size := hk; omega)).mono ?_
  rintro e w' ⟨u, he, ht, hr⟩
  have hs := ht.size
  have hj : RepJ w' (· < w'.heap.size) (toJ r) u := hr.mono fun k hk => by
    rcases hk with hk | hk
    · have := hk.2; omega
    · exact hk.2
  exact ⟨u, he, hj.form, resQ_val (result_val hj.noErr hj.form w' w'.heap.size (fromGo_any gr sr w' w'.heap.size _ _ hj (fun k hk => hk)) w' (Below.refl _ _) (Nat.le_refl _)) (.inl rfl), ht.below (by omega) (fun q hq => hq.1)⟩

end Go.Proofs.YtpoibibbkjogpaaGreatDoor
