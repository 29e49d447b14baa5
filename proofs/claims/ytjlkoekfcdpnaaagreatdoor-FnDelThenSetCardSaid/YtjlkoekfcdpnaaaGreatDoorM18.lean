/- Contracts of gojq.delpaths, ZzDelPaths and impl.DelPaths at one path of keys and places, whether it is there or not. -/
/- Plain: a value that fits is small in each part; so is what setpath makes of it. -/
/- impl.SetPath at a path of keys and places. -/
/- laws.straight, laws.keyed, laws.one: paths of keys and places. -/
import Derived.Test.YtjlkoekfcdpnaaaGreatDoorM14
import Derived.Test.YtjlkoekfcdpnaaaGreatDoorM17
import Derived.Test.YtjlkoekfcdpnaaaGreatDoorM13
import Derived.Test.YtjlkoekfcdpnaaaGreatDoorM16
namespace Go.Proofs.YtjlkoekfcdpnaaaGreatDoor
open Go Go.RowKit Go.Maps Go.Deep Go.WideMaps
attribute [local go_sem] assert_sl assert_sl_nil
/-- What is left by one path: none where it is an error. -/
def LeftOne (v : V) (s : List Stp) (o : Option V) : Prop := (updJ (toJ v) s .hole = none ∧ o = none) ∨ ∃ j r, updJ (toJ v) s .hole = some j ∧ Hol v j r ∧ o = some r
def DelR1 (S : Nat → Prop) (w : World) (o : Option V) (u : Value) (w' : World) : Prop := Turns S w w' ∧ (∀ r, o = some r → RepJ w' (SinceS S w w') (toJ r) u) ∧ (o = none → ErrV u)
theorem DelR1.form {S : Nat → Prop} {w w' : World} {o : Option V} {u : Value} (h : DelR1 S w o u w') : IsI u := by
  obtain ⟨_, h1, h2⟩ := h
  cases o with
  | some z => exact (h1 z rfl).form
  | none => obtain ⟨t, a, e⟩ := (h2 rfl).form; exact .inr ⟨_, _, e⟩
def DelP1 (w : World) (S : Nat → Prop) (v : V) (s : List Stp) (er u iv : Value) (wr : World) : Prop :=
  ∃ n j cur, n ≤ 1 ∧ iv = .int .i64 (n : Nat) ∧ er = .nilIface ∧ u = cur ∧ delJ (toJ v) ([s].take n) = some j ∧ RepJ wr (SinceS S w wr) j cur ∧ Below w.heap.size w wr
set_option maxHeartbeats 4000000 in
set_option maxRecDepth 100000 in
theorem delpaths_one {v : V} (g : Good v) (sm : Small v) {s : List Stp} (hsm : ∀ x ∈ s, x.small) {o : Option V} (ho : LeftOne v s o) {S U : Nat → Prop} {x p : Value} {am : Option Nat} {w : World} (hx : RepJ w S (toJ v) x) (hp : RepJ w U (.arr (toJL [pathV s])) p)
    (hS : ∀ k, S k → k < w.heap.size) (hU : ∀ k, U k → k < w.heap.size) : Calls Tryz.prog 36 #[x, p, .map am] w (Ret (DelR1 S w o)) := by
  obtain ⟨a, c, t, rfl, ej, h16, hc, ⟨hcb, _⟩, hcel, hxs, _⟩ := arr_open hp
  have hlen : t.length = 1 := by
    have := congrArg List.length ej
    simpa [toJL_eq] using this.symm
  obtain ⟨b, o', rfl, hUb, hce, _⟩ := hcel (by omega)
  have hbw := hU b hUb
  obtain ⟨pa, pn, pc, hcell, hst⟩ : ∃ pa pn pc, w.cell? ⟨b, o', none⟩ = some (.iface 50 (.slice pa pn pc)) ∧ StpsAt w (.slice pa pn pc) s := by
    have h0 : 0 < t.length := by omega
    have hr := (hxs _ (List.getElem_mem h0)).2
    have hsub := (hxs _ (List.getElem_mem h0)).1
    have e1 : t[0].j = .arr (toJL (s.map Stp.v)) := by
      have h1 : (t.map (·.j))[0]? = some t[0].j := by simp [h0]
      rw [← ej, toJL_eq] at h1
      have h2 : t[0].j = toJ (pathV s) := by simpa using h1.symm
      rw [h2]
      unfold pathV
      rw [toJ_5]
    rw [e1] at hr
    obtain ⟨pa, pn, pc, e2, h2⟩ := stps_rep hr (fun k hk => hU k (hsub k hk))
    exact ⟨pa, pn, pc, by have := hce 0 h0; rw [Nat.add_zero] at this; rw [this, e2], h2⟩
  have Hcell := Lib.hid hcell
  have Hst := Lib.hid hst
  have HS := Lib.hid hS
  have Hsm := Lib.hid hsm
  have Ho := Lib.hid ho
  have fx := hx.form
  rw [hlen]
  have hbW := below_alloc1 w (.cells #[] 85)
  have hsW := size_alloc1 w (.cells #[] 85)
  have hatW := at_alloc w (.cells #[] 85)
  have hstart : DelP1 (w.alloc (.cells #[] 85)) S v s .nilIface x (.int .i64 (0 : Nat)) (w.alloc (.cells #[] 85)) := ⟨0, toJ v, x, Nat.zero_le _, rfl, rfl, rfl, rfl, (hx.carry (fun k hk => hbW.block k (hS k hk))).mono (fun k h => .inl h), Below.refl _ _⟩
  have Hstart := Lib.hid hstart
  have HbW := Lib.hid hbW
  have HsW := Lib.hid hsW
  have HatW := Lib.hid hatW
  clear hp hx hS hU hsm ho hstart ej hxs hce hcel hbW hsW hatW hcell hst hlen h16
  rcases fx with rfl | ⟨tx, x, rfl⟩
  all_goals
    go_enter Tryz.func36, Tryz.ntmps36
    go_wp2_with fail
    generalize w.alloc (.cells #[] 85) = W at *
    go_loopw [10, 11, 35] (fun er u iv wr => DelP1 W S v s er u iv wr) (fun _ _ iv _ => 1 - (intOf iv).toNat)
    case atStart => exact Hstart.out
    case round =>
      obtain ⟨n, j, cur, hn, rfl, rfl, rfl, hdj, hcur, hb⟩ := hrel
      have hsz := hb.size
      have hsW2 := HsW.out
      by_cases hn' : n < 1
      · obtain rfl : n = 0 := by omega
        obtain rfl : toJ v = j := Option.some.inj hdj
        have hbw2 : Below w.heap.size w wr := HbW.out.trans (hb.mono (by omega))
        have y1 : wr.cell? ⟨b, o', none⟩ = some (.iface 50 (.slice pa pn pc)) := (hbw2.cell (p := ⟨b, o', none⟩) hbw).trans Hcell.out
        have yW : wr.heap[w.heap.size]? = some (.cells #[] 85) := (hb.block w.heap.size (by omega)).trans HatW.out
        have HU := Lib.hid (update_any am .hole (.iface 85 (.agg #[])) s Hsm.out (toJ v) _ (.slice pa pn pc) (SinceS S W wr) (fun _ => False) wr (toJ_slim g sm) (fine_any _ _ _) hcur (.hole _) (fun _ _ h => h) (fun k hk => by
          rcases hk with hk | hk
          · have := HS.out k hk; omega
          · exact hk.2) (fun _ h => h.elim) (Hst.out.below hbw2))
        have Hb := Lib.hid hb
        have fc := hcur.form
        have u1 : (0 : Int) < 1 := by decide
        clear hcur hbw2 hb hdj
        rcases fc with rfl | ⟨tc, cur, rfl⟩
        all_goals
          go_wp2_with fail
          refine HU.out.mono ?_
          rintro ee w2 ⟨u', er', rfl, fu', _, hb2, hsome, hnone⟩
          rcases Ho.out with ⟨e1, e2⟩ | ⟨j', r, e1, e2, e3⟩
          · have he := hnone e1
            obtain ⟨te, ae, rfl⟩ := he.form
            have hb3 : Below W.heap.size W w2 := Hb.out.trans (hb2.mono hsz)
            have Htu : Hid (∀ ob, Turns S w (w2.alloc ob)) := Lib.hid fun ob => (Turns.refl S w).trans (Turns.of_below ((HbW.out.trans (hb3.mono (by omega))).alloc (by have := HbW.out.size; have := hb3.size; omega) ob)) (fun q _ h => h.elim)
            clear hsome hnone hb2 HU y1 yW he hb3
            rcases fu' with rfl | ⟨tu, u', rfl⟩
            all_goals
              go_wp2_with fail
              go_ret
              exact ⟨_, rfl, ⟨Htu.out _, (fun r e => by rw [e2] at e; cases e), fun _ => .func1WrapError _⟩⟩
          · obtain ⟨rfl, hr2⟩ := hsome j' e1
            have hs' := hb2.size
            have hnext : DelP1 W S v s .nilIface u' (.int .i64 ((0 : Int) + 1)) w2 := by
              refine ⟨1, j', u', Nat.le_refl _, rfl, rfl, rfl, ?_, hr2.mono fun k hk => ?_, Hb.out.trans (hb2.mono hsz)⟩
              · simp only [List.take_succ_cons, List.take_zero, delJ, e1]
              · rcases hk with hk | hk | hk
                · rcases hk with hk | hk
                  · exact .inl hk
                  · exact .inr ⟨hk.1, by omega⟩
                · exact hk.elim
                · exact .inr ⟨by omega, hk.2⟩
            have Hloop := Lib.hid hnext
            clear hsome hr2 hb2 HU hnone hnext y1 yW
            rcases fu' with rfl | ⟨tu, u', rfl⟩
            all_goals
              go_wp2_with fail
              go_roundw
              case rel => exact Hloop.out
              case measure => simp [intOf]
      · obtain rfl : n = 1 := by omega
        have hbw2 : Below w.heap.size w wr := HbW.out.trans (hb.mono (by omega))
        have hu : updJ (toJ v) s .hole = some j := by
          simp only [List.take_succ_cons, List.take_zero, delJ] at hdj
          split at hdj
          · rename_i j2 e2
            rw [e2, hdj]
          · cases hdj
        obtain ⟨r, hol, er⟩ : ∃ r, Hol v j r ∧ o = some r := by
          rcases Ho.out with ⟨e1, _⟩ | ⟨j', r, e1, e2, e3⟩
          · rw [hu] at e1; cases e1
          · rw [hu] at e1; cases e1; exact ⟨r, e2, e3⟩
        have D := Lib.hid (del_any (sizeV v) v (Nat.le_refl _) g j r hol wr (SinceS S W wr) _ hcur (fun k hk => by
          rcases hk with hk | hk
          · have := HS.out k hk; omega
          · exact hk.2))
        have Hbw2 := Lib.hid hbw2
        have Her := Lib.hid er
        have fc := hcur.form
        have u1 : ¬ ((1 : Int) < 1) := by decide
        clear hcur hb hbw2 hdj hol hu er
        rcases fc with rfl | ⟨tc, cur, rfl⟩
        all_goals
          go_wp2_with fail
          refine D.out.mono ?_
          rintro ee w2 ⟨u', rfl, htu, hru⟩
          have fu := hru.form
          have hw2 := htu.size
          have hfin : DelR1 S w o u' w2 := by
            refine ⟨((Turns.refl S w).trans (Turns.of_below (Hbw2.out.mono (Nat.le_refl _))) (fun q _ h => h.elim)).trans htu (fun q hq h => ?_), fun r' e => ?_, fun e => by rw [Her.out] at e; cases e⟩
            · rcases h with h | h
              · exact h
              · omega
            · rw [Her.out] at e
              cases e
              refine hru.mono fun k hk => ?_
              rcases hk with hk | hk
              · exact .inl hk
              · exact .inr ⟨by omega, by omega⟩
          have Hfin := Lib.hid hfin
          clear htu hru hfin D
          rcases fu with rfl | ⟨tu, u', rfl⟩
          all_goals
            go_wp2_with fail
            go_ret
            exact ⟨_, rfl, Hfin.out⟩
theorem zzDel_one {v : V} (g : Good v) (sm : Small v) {s : List Stp} (hsm : ∀ x ∈ s, x.small) {o : Option V} (ho : LeftOne v s o) {S U : Nat → Prop} {x p : Value} {w : World} (hx : RepJ w S (toJ v) x) (hp : RepJ w U (.arr (toJL [pathV s])) p)
    (hS : ∀ k, S k → k < w.heap.size) (hU : ∀ k, U k → k < w.heap.size) : Calls Tryz.prog 18 #[x, p] w (Ret (DelR1 S w o)) := by
  have hb := below_alloc1 w (.map #[] 0)
  have hs := size_alloc1 w (.map #[] 0)
  have hx' : RepJ (w.alloc (.map #[] 0)) S (toJ v) x := hx.carry fun k hk => hb.block k (hS k hk)
  have hp' : RepJ (w.alloc (.map #[] 0)) U (.arr (toJL [pathV s])) p := hp.carry fun k hk => hb.block k (hU k hk)
  refine zzDel_walk hx.form hp.form ?_ fun u w' h => h.form
  refine (delpaths_one g sm hsm ho hx' hp' (fun k hk => by have := hS k hk; omega) (fun k hk => by have := hU k hk; omega)).mono ?_
  rintro e w' ⟨u, he, h1, h2, h3⟩
  refine ⟨u, he, ((Turns.refl S w).trans (Turns.of_below hb) (fun q _ h => h.elim)).trans h1 (fun q _ h => h), fun r e => (h2 r e).mono fun k hk => ?_, h3⟩
  rcases hk with hk | hk
  · exact .inl hk
  · exact .inr ⟨by omega, hk.2⟩
def ansO : Option V → Ans
  | some r => .fine r
  | none => .raises
theorem leftOne_rest {v : V} {s : List Stp} {o : Option V} (h : LeftOne v s o) : ∀ r, o = some r → Rest v r := by
  intro r e
  rcases h with ⟨_, e2⟩ | ⟨j, r', _, h2, e2⟩
  · rw [e2] at e; cases e
  · rw [e2] at e; cases e; exact hol_rest v j r h2
/-- impl.DelPaths at one path. -/
theorem implDel_one {w0 : World} {B : Nat} {v : V} {s : List Stp} {o : Option V} {cv cb : List Value} (hv : RepV w0 B v cv) (hp : RepV w0 B (.mk 5 0 ⟨#[]⟩ [pathV s] [] []) cb) (gv : Good v) (gp : Good (pathV s)) (hsm : ∀ x ∈ s, x.small) (ho : LeftOne v s o)
    (w : World) (hbel : Below B w0 w) (hB : B ≤ w.heap.size) : Calls Tryz.prog 9 #[.agg cv.toArray, .agg cb.toArray] w (ResQ w (ansO o)) := by
  have gl : ∀ x ∈ [pathV s], Good x := fun x hx => by
    rw [List.mem_singleton] at hx
    rw [hx]
    exact gp
  refine implDel_walk hv hp (ansO o) (toGo_any w0 B v cv hv gv) (toGo_any w0 B _ cb hp (good_row gl)) ?_ w hbel hB
  intro w lo N x y hlo hN jx jy
  refine (zzDel_one gv hv.small hsm ho jx (by rw [toJ_5] at jy; exact jy) (fun k hk => by have h2 : lo ≤ k ∧ k < N := hk; omega) (fun k hk => by have h2 : N ≤ k ∧ k < w.heap.size := hk; omega)).mono ?_
  rintro e w' ⟨u, he, hr⟩
  have hf := hr.form
  obtain ⟨ht, h1, h2⟩ := hr
  have hs := ht.size
  refine ⟨u, he, hf, ?_, ht.below (by omega) (fun q hq => hq.1)⟩
  cases o with
  | none => exact resQ_err (h2 rfl) _
  | some r =>
    have hrest := leftOne_rest ho r rfl
    have hj : RepJ w' (· < w'.heap.size) (toJ r) u := (h1 r rfl).mono fun k hk => by
      rcases hk with hk | hk
      · have := hk.2; omega
      · exact hk.2
    exact resQ_val (result_val hj.noErr hj.form w' w'.heap.size (fromGo_any (rest_good v r hrest gv) (rest_small v r hrest hv.small) w' w'.heap.size _ _ hj (fun k hk => hk)) w' (Below.refl _ _) (Nat.le_refl _)) (.inl rfl)
end Go.Proofs.YtjlkoekfcdpnaaaGreatDoor

namespace Go.Proofs.YtjlkoekfcdpnaaaGreatDoor
open Go Go.RowKit
/-- No row in it has more than b elements. -/
inductive Few (b : Nat) : V → Prop
  | mk {k h : Int} {t : ByteArray} {l : List V} {ks : List ByteArray} {vs : List V} (nl : l.length ≤ b) (nk : ks.length ≤ b) (nv : vs.length ≤ b) (fl : ∀ x ∈ l, Few b x) (fv : ∀ x ∈ vs, Few b x) : Few b (.mk k h t l ks vs)
theorem few_parts {b : Nat} {k h : Int} {t : ByteArray} {l : List V} {ks : List ByteArray} {vs : List V} (g : Few b (.mk k h t l ks vs)) : l.length ≤ b ∧ ks.length ≤ b ∧ vs.length ≤ b ∧ (∀ x ∈ l, Few b x) ∧ ∀ x ∈ vs, Few b x := by
  cases g with
  | mk nl nk nv fl fv => exact ⟨nl, nk, nv, fl, fv⟩
theorem few_mono {b c : Nat} (hbc : b ≤ c) {v : V} (h : Few b v) : Few c v := by
  induction h with
  | mk nl nk nv _ _ ihl ihv => exact .mk (by omega) (by omega) (by omega) ihl ihv
theorem few_small {b : Nat} (hb : b ≤ 1000000) {v : V} (h : Few b v) : Small v := by
  induction h with
  | mk nl nk nv _ _ ihl ihv => exact .mk (by omega) (by omega) (by omega) (fun i hi => ihl _ (List.getElem_mem hi)) (fun i hi => ihv _ (List.getElem_mem hi))
theorem few_null (b : Nat) : Few b nullV := .mk (by simp) (by simp) (by simp) (fun x hx => by cases hx) (fun x hx => by cases hx)
mutual
theorem few_of_size (b : Nat) : ∀ (v : V), Good v → sizeV v ≤ b → Few b v
  | .mk k h t l ks vs, g, hz => by
    obtain ⟨hl, g1, g2⟩ := good_parts g
    rw [sizeV] at hz
    have n1 := sizeL_len l
    have n2 := sizeL_len vs
    exact .mk (by omega) (by omega) (by omega) (fewL_of_size b l g1 (by omega)) (fewL_of_size b vs g2 (by omega))
termination_by structural v => v
theorem fewL_of_size (b : Nat) : ∀ (l : List V), (∀ x ∈ l, Good x) → sizeL l ≤ b → ∀ x ∈ l, Few b x
  | [], _, _, x, hx => by cases hx
  | v :: r, g, hz, x, hx => by
    rw [sizeL_cons] at hz
    rcases List.mem_cons.1 hx with e | hx
    · rw [e]
      exact few_of_size b v (g v (List.mem_cons_self ..)) (by omega)
    · exact fewL_of_size b r (fun x hx => g x (List.mem_cons_of_mem _ hx)) (by omega) x hx
termination_by structural l => l
end

theorem few_mapV {b : Nat} {m : List (ByteArray × V)} (hm : m.length ≤ b) (h : ∀ p ∈ m, Few b p.2) : Few b (mapV m) := by
  unfold mapV
  refine .mk (by simp) (by simpa using hm) (by simpa using hm) (fun x hx => by cases hx) (fun x hx => ?_)
  obtain ⟨p, hp, rfl⟩ := List.mem_map.1 hx
  exact h p hp
theorem few_rowV {b : Nat} {l : List V} (hl : l.length ≤ b) (h : ∀ x ∈ l, Few b x) : Few b (rowV l) := by
  unfold rowV
  exact .mk hl (by simp) (by simp) h (fun x hx => by cases hx)
theorem setV_few {b : Nat} (hb : 1001 ≤ b) {x : V} (fx : Few b x) : ∀ (s : List Stp) (v z : V), Few b v → (∀ y ∈ s, y.small) → setV v s x = some z → Few (b + 1) z
  | [], v, z, _, _, h => by
    cases h
    exact few_mono (Nat.le_succ b) fx
  | .key k :: p, .mk kd h t l ks vs, z, g, hk, hz => by
    obtain ⟨n1, n2, n3, fl, fv⟩ := few_parts g
    have hk' : ∀ y ∈ p, y.small := fun y h => hk y (List.mem_cons_of_mem _ h)
    rw [setV_key] at hz
    by_cases c0 : kd = 0
    · rw [if_pos c0] at hz
      obtain ⟨u, hu, rfl⟩ := Option.map_eq_some_iff.1 hz
      have fu := setV_few hb fx p nullV u (few_null b) hk' hu
      refine few_mapV (by simp) fun q hq => ?_
      obtain rfl : q = (k, u) := by simpa using hq
      exact fu
    · rw [if_neg c0] at hz
      by_cases c1 : kd = 6
      · rw [if_pos c1] at hz
        obtain ⟨u, hu, rfl⟩ := Option.map_eq_some_iff.1 hz
        have fy : Few b ((getK (ks.zip vs) k).getD nullV) := by
          cases hg : getK (ks.zip vs) k with
          | none => exact few_null b
          | some y => exact fv y (List.of_mem_zip (getK_mem hg)).2
        have fu := setV_few hb fx p _ u fy hk' hu
        refine few_mapV ?_ fun q hq => ?_
        · have h1 := putK_len (ks.zip vs) k u
          have h2 : (ks.zip vs).length ≤ ks.length := by rw [List.length_zip]; omega
          omega
        · rcases mem_putK.1 hq with rfl | ⟨hq, _⟩
          · exact fu
          · exact few_mono (Nat.le_succ b) (fv _ (List.of_mem_zip hq).2)
      · rw [if_neg c1] at hz
        cases hz
  | .idx i :: p, .mk kd h t l ks vs, z, g, hk, hz => by
    obtain ⟨n1, n2, n3, fl, fv⟩ := few_parts g
    have hk' : ∀ y ∈ p, y.small := fun y h => hk y (List.mem_cons_of_mem _ h)
    have hi : i ≤ 1000 := hk (.idx i) (List.mem_cons_self ..)
    rw [setV_idx] at hz
    by_cases c0 : kd = 0
    · rw [if_pos c0] at hz
      obtain ⟨u, hu, rfl⟩ := Option.map_eq_some_iff.1 hz
      have fu := setV_few hb fx p nullV u (few_null b) hk' hu
      refine few_rowV (by rw [padV_len]; simp; omega) fun y hy => ?_
      rcases mem_padV hy with rfl | hy | rfl
      · exact fu
      · cases hy
      · exact few_null _
    · rw [if_neg c0] at hz
      by_cases c1 : kd = 5
      · rw [if_pos c1] at hz
        obtain ⟨u, hu, rfl⟩ := Option.map_eq_some_iff.1 hz
        have fy : Few b (l.getD i nullV) := by
          by_cases hi : i < l.length
          · have e : l.getD i nullV = l[i] := by simp [List.getD, hi]
            rw [e]
            exact fl _ (List.getElem_mem hi)
          · have e : l.getD i nullV = nullV := by simp [List.getD, hi]
            rw [e]
            exact few_null b
        have fu := setV_few hb fx p _ u fy hk' hu
        refine few_rowV (by rw [padV_len]; omega) fun y hy => ?_
        rcases mem_padV hy with rfl | hy | rfl
        · exact fu
        · exact few_mono (Nat.le_succ b) (fl y hy)
        · exact few_null _
      · rw [if_neg c1] at hz
        cases hz
end Go.Proofs.YtjlkoekfcdpnaaaGreatDoor

namespace Go.Proofs.YtjlkoekfcdpnaaaGreatDoor
open Go Go.RowKit Go.Deep
theorem stp_valid {s : List Stp} (gp : ∀ q ∈ s.map Stp.v, Good q) : ∀ k, Stp.key k ∈ s → Lib.validD k.data.toList = true := by
  intro k hk
  have g := gp (strV k) (List.mem_map.2 ⟨_, hk, rfl⟩)
  unfold strV at g
  cases g with
  | mk shape half valid list rise vkeys vals => exact valid
theorem implSet_any {w0 : World} {B : Nat} {v x : V} {s : List Stp} {cv cb cx : List Value} (hv : RepV w0 B v cv) (hp : RepV w0 B (.mk 5 0 ⟨#[]⟩ (s.map Stp.v) [] []) cb) (hx : RepV w0 B x cx) (gv : Good v) (gx : Good x) (gp : ∀ q ∈ s.map Stp.v, Good q) (hsm : ∀ y ∈ s, y.small)
    (fv : Few 1001 v) (fx : Few 1001 x) (w : World) (hbel : Below B w0 w) (hB : B ≤ w.heap.size) : Calls Tryz.prog 11 #[.agg cv.toArray, .agg cb.toArray, .agg cx.toArray] w (ResQ w (ansO (setV v s x))) := by
  have hval := stp_valid gp
  refine implSet_walk hv hp hx (ansO (setV v s x)) (toGo_any w0 B v cv hv gv) (toGo_any w0 B _ cb hp (good_row gp)) (toGo_any w0 B x cx hx gx) ?_ w hbel hB
  intro w N M u q z hNM hM ju jq jz
  have h := zzSet_any hsm (toJ_slim gv hv.small) (fine_any s (toJ v) (toJ x)) ju (by rw [toJ_5] at jq; exact jq) jz (fun k h1 h2 => by have := h2.1; omega) (fun k hk => by omega) (fun k hk => hk) (fun k hk => hk.2)
  rw [setV_J x s v gv] at h
  refine h.mono ?_
  rintro e w' ⟨r, he, hb, h1, h2⟩
  have hs' := hb.size
  refine ⟨r, he, ?_⟩
  cases hset : setV v s x with
  | none =>
    rw [hset] at h2
    exact subR_of (an := .raises) (fun y hy => by cases hy) (by intro e; cases e) ⟨hb, (fun y hy => by cases hy), fun _ => h2 rfl⟩
  | some y =>
    rw [hset] at h1
    refine subR_of (an := .fine y) (fun y' hy => by cases hy; exact ⟨setV_good gx s v y gv hval hset, few_small (b := 1002) (by decide) (setV_few (by decide) fx s v y fv hsm hset)⟩) (by intro e; cases e) ⟨hb, fun y' hy => ?_, fun e => by cases e⟩
    cases hy
    refine (h1 _ rfl).mono fun k hk => ?_
    rcases hk with hk | hk | hk
    · omega
    · have := hk.2; omega
    · exact hk.2
end Go.Proofs.YtjlkoekfcdpnaaaGreatDoor

namespace Go.Proofs.YtjlkoekfcdpnaaaGreatDoor
open Go Go.RowKit Go.Deep
def stepB (k : V) : Bool := decide (k.kind = 4) || (decide (k.kind = 3) && decide (k.half.tmod 2 = 0) && decide (0 ≤ k.half) && decide (k.half ≤ 200))
def straightB (p : List V) : Bool := p.all stepB && decide (p.length ≤ 20)
def keyedB (p : List V) : Bool := match p.getLast? with
  | some k => decide (k.kind = 4)
  | none => false
theorem good_str {k : V} (g : Good k) (h : k.kind = 4) : k = strV k.text := by
  obtain ⟨kd, hf, t, l, ks, vs⟩ := k
  simp only [V.kind] at h
  subst h
  cases g with
  | mk shape half valid list rise vkeys vals =>
    simp only [shapeB, Bool.and_eq_true, Bool.or_eq_true, decide_eq_true_eq, beq_iff_eq] at shape
    obtain ⟨⟨⟨⟨⟨⟨s1, s2⟩, s3⟩, s4⟩, s5⟩, s6⟩, s7⟩ := shape
    have e1 : hf = 0 := s3.resolve_left (by omega)
    have e2 : l = [] := List.eq_nil_of_length_eq_zero (s5.resolve_left (by omega))
    have e3 : ks = [] := List.eq_nil_of_length_eq_zero (s6.resolve_left (by omega))
    have e4 : vs = [] := List.eq_nil_of_length_eq_zero (by rw [← s7, e3]; rfl)
    rw [e1, e2, e3, e4]
    rfl
theorem empty_of {t : ByteArray} (h : t.toList = []) : t = ⟨#[]⟩ := by
  rw [Lib.toList_data] at h
  exact data_inj (by simpa using h)
theorem good_num {k : V} (g : Good k) (h : k.kind = 3) (h2 : k.half.tmod 2 = 0) (h0 : 0 ≤ k.half) : k = numV ((k.half.tdiv 2).toNat : Nat) := by
  obtain ⟨kd, hf, t, l, ks, vs⟩ := k
  simp only [V.kind, V.half] at h h2 h0 ⊢
  subst h
  cases g with
  | mk shape half valid list rise vkeys vals =>
    simp only [shapeB, Bool.and_eq_true, Bool.or_eq_true, decide_eq_true_eq, beq_iff_eq] at shape
    obtain ⟨⟨⟨⟨⟨⟨s1, s2⟩, s3⟩, s4⟩, s5⟩, s6⟩, s7⟩ := shape
    have e1 : t = ⟨#[]⟩ := empty_of (s4.resolve_left (by omega))
    have e2 : l = [] := List.eq_nil_of_length_eq_zero (s5.resolve_left (by omega))
    have e3 : ks = [] := List.eq_nil_of_length_eq_zero (s6.resolve_left (by omega))
    have e4 : vs = [] := List.eq_nil_of_length_eq_zero (by rw [← s7, e3]; rfl)
    have e5 : hf = 2 * ((hf.tdiv 2).toNat : Int) := by
      have := Int.mul_tdiv_add_tmod hf 2
      have : 0 ≤ hf.tdiv 2 := Int.tdiv_nonneg h0 (by decide)
      omega
    rw [e1, e2, e3, e4]
    unfold numV
    rw [← e5]
theorem text_small {w : World} {B : Nat} {k : V} {cs : List Value} (h : RepV w B k cs) : k.text.size ≤ 140737488351232 := by
  cases h with
  | mk C D hk hh ht => exact ht
/-- A straight path's steps. -/
theorem straight_stps {w : World} {B : Nat} : ∀ {p : List V} {C : Nat → List Value} (_ : ∀ i (hi : i < p.length), RepV w B p[i] (C i)) (_ : ∀ x ∈ p, Good x) (_ : p.all stepB = true), ∃ s : List Stp, p = s.map Stp.v ∧ ∀ x ∈ s, x.small
  | [], _, _, _, _ => ⟨[], rfl, fun x hx => by cases hx⟩
  | k :: p, C, hr, g, h => by
    simp only [List.all_cons, Bool.and_eq_true] at h
    obtain ⟨s, e, hs⟩ := straight_stps (p := p) (C := fun i => C (i + 1)) (fun i hi => hr (i + 1) (by simpa using hi)) (fun x hx => g x (List.mem_cons_of_mem _ hx)) h.2
    have gk := g k (List.mem_cons_self ..)
    have h1 := h.1
    simp only [stepB, Bool.or_eq_true, Bool.and_eq_true, decide_eq_true_eq] at h1
    rcases h1 with h4 | ⟨⟨⟨h3, h2⟩, h0⟩, hm⟩
    · refine ⟨.key k.text :: s, by rw [List.map_cons, ← e]; congr 1; exact good_str gk h4, fun x hx => ?_⟩
      rcases List.mem_cons.1 hx with rfl | hx
      · exact text_small (hr 0 (by simp))
      · exact hs x hx
    · refine ⟨.idx (k.half.tdiv 2).toNat :: s, by rw [List.map_cons, ← e]; congr 1; exact good_num gk h3 h2 h0, fun x hx => ?_⟩
      rcases List.mem_cons.1 hx with rfl | hx
      · have h5 := Int.mul_tdiv_add_tmod k.half 2
        show (k.half.tdiv 2).toNat ≤ 1000
        omega
      · exact hs x hx
theorem keyed_last : ∀ {s : List Stp}, keyedB (s.map Stp.v) = true → LastKey s
  | [], h => by simp [keyedB] at h
  | [.key k], _ => by unfold LastKey; trivial
  | [.idx n], h => by simp [keyedB, Stp.v, numV, V.kind] at h
  | x :: y :: s, h => by
    have h2 : keyedB ((y :: s).map Stp.v) = true := by
      simp only [keyedB, List.map_cons, List.getLast?_cons_cons] at h ⊢
      exact h
    have := keyed_last h2
    cases x <;> exact this
theorem hz_lt {w : World} {z : Nat} {o : Obj} (hz : w.heap[z]? = some o) : z < w.heap.size := (Array.getElem?_eq_some_iff.1 hz).1
def StraLoop (w : World) (p : List V) (i : Value) (wr : World) : Prop := ∃ n : Nat, n ≤ p.length ∧ i = .int .i64 (n : Nat) ∧ Below w.heap.size w wr ∧ (p.take n).all stepB = true
theorem RepV.kh0 {w : World} {B : Nat} {v : V} {k h : Int} {r : List Value} (hv : RepV w B v (.int .i64 k :: .int .i64 h :: r)) : v.kind = k ∧ v.half = h ∧ -9223372036854775808 ≤ h ∧ h ≤ 9223372036854775807 := by
  cases hv with
  | mk C D hk hh => exact ⟨rfl, rfl, hh⟩
set_option maxHeartbeats 2000000 in
set_option maxRecDepth 100000 in
theorem straight_any (w : World) (p : List V) (pa : Option Addr) (pc : Nat) (C : Nat → List Value) (hl : p.length * 104 ≤ 140737488351232)
    (cl : 0 < p.length → ∃ b o, pa = some ⟨b, o, none⟩ ∧ b < w.heap.size ∧ ∀ i, i < p.length → CellsAt w b (o + i * 6) (C i)) (rl : ∀ i (hi : i < p.length), RepV w w.heap.size p[i] (C i)) :
    Calls Tryz.prog 7 #[.slice pa p.length pc] w (BoolP w (straightB p)) := by
  have Hcl := Lib.hid cl; clear cl
  go_enter Tryz.func7, Tryz.ntmps7
  go_wp2_with fail
  go_loopw [7] (fun i wr => StraLoop w p i wr) (fun i _ => p.length - (intOf i).toNat)
  case atStart => exact ⟨0, Nat.zero_le _, rfl, Below.refl _ _, rfl⟩
  case round =>
    obtain ⟨n, hn, rfl, hb, hall⟩ := hrel
    by_cases hn' : n < p.length
    · obtain ⟨lb, lo, rfl, hlb, hcel⟩ := Hcl.out (by omega)
      have cc := (hcel n hn').below hb hlb
      have hr := (rl n hn').carry hb hb.size
      have hsn : (p.take (n + 1)).all stepB = stepB p[n] := by
        rw [List.take_succ_eq_append_getElem hn', List.all_append, hall]; simp
      have hno : stepB p[n] = false → straightB p = false := fun h => by
        have : p.all stepB = false := by
          rw [List.all_eq_false]
          exact ⟨_, List.getElem_mem hn', by simp [h]⟩
        unfold straightB
        rw [this]; rfl
      obtain ⟨k', h', t', la2, ka2, va2, nl', cl', nk', ck', nv', cv', hC⟩ := hr.shape
      rw [hC] at cc hr
      obtain ⟨ek, eh, hlo, hhi⟩ := hr.kh0
      have hal := below_alloc1 wr (.cells #[.int .i64 k', .int .i64 h', .string t', .slice la2 nl' cl', .slice ka2 nk' ck', .slice va2 nv' cv'] 26)
      obtain ⟨y0, y1, y2, y3, y4, y5⟩ := cells6 cc
      have u1 : (n : Int) < (p.length : Int) := by omega
      have u2 : (0 : Int) ≤ (n : Int) := by omega
      have Hb := Lib.hid (hb.trans (hal.mono hb.size))
      have hst : stepB p[n] = (decide (k' = 4) || (decide (k' = 3) && decide (h'.tmod 2 = 0) && decide (0 ≤ h') && decide (h' ≤ 200))) := by unfold stepB; rw [ek, eh]
      have Hsn := Lib.hid (hsn.trans hst)
      have Hno := Lib.hid fun e => hno (hst.trans e)
      clear hcel cc hr hC hsn hno hall hal hst ek eh
      by_cases c4 : k' = 4
      · subst c4
        have Hr : Hid ((p.take (n + 1)).all stepB = true) := Lib.hid (by rw [Hsn.out]; simp)
        go_wp2_with fail
        go_roundw
        case rel => exact ⟨n + 1, hn', by go_num, Hb.out, Hr.out⟩
        case measure => simp [intOf]; omega
      by_cases c3 : k' = 3
      · subst c3
        by_cases c2 : h'.tmod 2 = 0
        · by_cases c0 : h' < 0
          · have Hr := Lib.hid (Hno.out (by have : ¬ 0 ≤ h' := by omega
                                            simp [this]))
            go_wp2_with fail
            go_ret
            exact ⟨by rw [Hr.out]; rfl, Hb.out⟩
          · by_cases cm : h' > 200
            · have Hr := Lib.hid (Hno.out (by have : ¬ h' ≤ 200 := by omega
                                              simp [this]))
              go_wp2_with fail
              go_ret
              exact ⟨by rw [Hr.out]; rfl, Hb.out⟩
            · have Hr : Hid ((p.take (n + 1)).all stepB = true) := Lib.hid (by
                rw [Hsn.out]
                have e1 : 0 ≤ h' := by omega
                have e2 : h' ≤ 200 := by omega
                simp [c2, e1, e2])
              go_wp2_with fail
              go_roundw
              case rel => exact ⟨n + 1, hn', by go_num, Hb.out, Hr.out⟩
              case measure => simp [intOf]; omega
        · have Hr := Lib.hid (Hno.out (by simp [c2]))
          go_wp2_with fail
          go_ret
          exact ⟨by rw [Hr.out]; rfl, Hb.out⟩
      · have Hr := Lib.hid (Hno.out (by simp [c4, c3]))
        go_wp2_with fail
        go_ret
        exact ⟨by rw [Hr.out]; rfl, Hb.out⟩
    · have e : n = p.length := by omega
      have Hr := Lib.hid (show p.all stepB = true by rw [← hall, e, List.take_length])
      have Hb := Lib.hid hb
      clear hall hb
      by_cases c20 : (p.length : Int) ≤ 20
      · go_wp2_with fail
        go_ret
        exact ⟨by unfold straightB; rw [Hr.out]; simp; omega, Hb.out⟩
      · go_wp2_with fail
        go_ret
        exact ⟨by unfold straightB; rw [Hr.out]; simp; omega, Hb.out⟩
set_option maxHeartbeats 1000000 in
set_option maxRecDepth 100000 in
theorem keyed_any (w : World) (p : List V) (pa : Option Addr) (pc : Nat) (C : Nat → List Value) (hl : p.length * 104 ≤ 140737488351232)
    (cl : 0 < p.length → ∃ b o, pa = some ⟨b, o, none⟩ ∧ b < w.heap.size ∧ ∀ i, i < p.length → CellsAt w b (o + i * 6) (C i)) (rl : ∀ i (hi : i < p.length), RepV w w.heap.size p[i] (C i)) :
    Calls Tryz.prog 8 #[.slice pa p.length pc] w (BoolP w (keyedB p)) := by
  by_cases h0 : p.length = 0
  · have e : p = [] := List.eq_nil_of_length_eq_zero h0
    subst e
    clear cl rl hl h0
    go_enter Tryz.func8, Tryz.ntmps8
    go_wp2_with fail
    go_ret
    exact ⟨rfl, Below.refl _ _⟩
  · obtain ⟨b, o, rfl, hb, hcel⟩ := cl (by omega)
    obtain ⟨n, hn⟩ : ∃ n, p.length = n + 1 := ⟨p.length - 1, by omega⟩
    have hnl : n < p.length := by omega
    have cc := hcel n hnl
    have hr := rl n hnl
    obtain ⟨k', h', t', la2, ka2, va2, nl', cl', nk', ck', nv', cv', hC⟩ := hr.shape
    rw [hC] at cc hr
    obtain ⟨ek, _⟩ := hr.kh0
    obtain ⟨y0, y1, y2, y3, y4, y5⟩ := cells6 cc
    have hkb : keyedB p = decide (k' = 4) := by
      unfold keyedB
      rw [List.getLast?_eq_getElem?, hn, Nat.add_sub_cancel, List.getElem?_eq_getElem hnl]
      simp only [ek]
    rw [hn, hkb]
    have u1 : (0 : Int) < (n : Int) + 1 := by omega
    have u2 : (0 : Int) ≤ (n : Int) := by omega
    have u3 : (n : Int) < (n : Int) + 1 := by omega
    have u8 : n < 140737488355328 := by omega
    clear hcel cc hr hC cl rl hkb ek
    by_cases c4 : k' = 4
    · subst c4
      go_enter Tryz.func8, Tryz.ntmps8
      go_wp2_with fail
      go_ret
      exact ⟨rfl, Below.refl _ _⟩
    · go_enter Tryz.func8, Tryz.ntmps8
      go_wp2_with fail
      go_ret
      exact ⟨by simp [c4], Below.refl _ _⟩
set_option maxHeartbeats 1000000 in
set_option maxRecDepth 100000 in
theorem one_any (a : Option Addr) (n c : Nat) (w : World) : Calls Tryz.prog 10 #[.slice a n c] w fun e w' => ∃ q, w.heap.size ≤ q ∧ q < w'.heap.size ∧
    e = .returned (.agg #[.int .i64 5, .int .i64 0, .string ⟨#[]⟩, .slice (some ⟨q, 0, none⟩) 1 1, .slice none 0 0, .slice none 0 0]) ∧ CellsAt w' q 0 [.int .i64 5, .int .i64 0, .string ⟨#[]⟩, .slice a n c, .slice none 0 0, .slice none 0 0] ∧ Below w.heap.size w w' := by
  go_enter Tryz.func10, Tryz.ntmps10
  go_wp2_with fail
  have hbW := below_alloc1 w (.cells #[.int .i64 0, .int .i64 0, .string ⟨#[]⟩, .slice none 0 0, .slice none 0 0, .slice none 0 0] 26)
  have hsW := size_alloc1 w (.cells #[.int .i64 0, .int .i64 0, .string ⟨#[]⟩, .slice none 0 0, .slice none 0 0, .slice none 0 0] 26)
  have hat := at_alloc w (.cells #[.int .i64 0, .int .i64 0, .string ⟨#[]⟩, .slice none 0 0, .slice none 0 0, .slice none 0 0] 26)
  refine (larray_any a n c _).mono ?_
  generalize w.alloc _ = W at *
  rintro e w1 ⟨rfl, hw1⟩
  have hb1 : Below w.heap.size w w1 := hbW.trans (hw1.mono (by omega))
  have hs1 := hw1.size
  have y1 := (hw1.block w.heap.size (by omega)).trans hat
  go_wp2_with fail
  have hbV := below_alloc1 w1 (.cells #[.int .i64 5, .int .i64 0, .string ⟨#[]⟩, .slice a n c, .slice none 0 0, .slice none 0 0] 26)
  have hsV := size_alloc1 w1 (.cells #[.int .i64 5, .int .i64 0, .string ⟨#[]⟩, .slice a n c, .slice none 0 0, .slice none 0 0] 26)
  have hatV := at_alloc w1 (.cells #[.int .i64 5, .int .i64 0, .string ⟨#[]⟩, .slice a n c, .slice none 0 0, .slice none 0 0] 26)
  refine (larray_any _ _ _ _).mono ?_
  generalize w1.alloc _ = V at *
  rintro e w2 ⟨rfl, hw2⟩
  have hs2 := hw2.size
  have hb2 : Below w1.heap.size w1 w2 := hbV.trans (hw2.mono (by omega))
  have z2 := (hb2.block w.heap.size (by omega)).trans y1
  have q2 := (hw2.block w1.heap.size (by omega)).trans hatV
  obtain ⟨e0, e1, e2, e3, e4, e5⟩ := of_block6 z2
  obtain ⟨f0, f1, f2, f3, f4, f5⟩ := free_block6 z2
  have hbf : Below w.heap.size w ((((((w2.setCell ⟨w.heap.size, 0, none⟩ (.int .i64 5)).setCell ⟨w.heap.size, 1, none⟩ (.int .i64 0)).setCell ⟨w.heap.size, 2, none⟩ (.string ⟨#[]⟩)).setCell ⟨w.heap.size, 3, none⟩ (.slice (some ⟨w1.heap.size, 0, none⟩) 1 1)).setCell ⟨w.heap.size, 4, none⟩ (.slice none 0 0)).setCell ⟨w.heap.size, 5, none⟩ (.slice none 0 0)) :=
    below_set6 (hb1.trans (hb2.mono (by omega))) (Nat.le_refl _) _ _ _ _ _ _
  have hq := (set6_other w2 w.heap.size w1.heap.size (.int .i64 5) (.int .i64 0) (.string ⟨#[]⟩) (.slice (some ⟨w1.heap.size, 0, none⟩) 1 1) (.slice none 0 0) (.slice none 0 0) (by omega)).trans q2
  have hrow := set_row6 z2 (.int .i64 5) (.int .i64 0) (.string ⟨#[]⟩) (.slice (some ⟨w1.heap.size, 0, none⟩) 1 1) (.slice none 0 0) (.slice none 0 0)
  have Hbf := Lib.hid hbf
  have Hq := Lib.hid hq
  have Hrow := Lib.hid hrow
  clear hbf hq hrow hat hatV y1 q2 hbW hbV hw1 hw2 hb1 hb2 z2
  go_wp2_with fail
  refine bodyPost_ret (v := .agg #[.int .i64 5, .int .i64 0, .string ⟨#[]⟩, .slice (some ⟨w1.heap.size, 0, none⟩) 1 1, .slice none 0 0, .slice none 0 0]) ?_ rfl ⟨w1.heap.size, by omega, ?_, rfl, one_cells Hq.out, Hbf.out⟩
  · exact results_cell_row (p := 2) (ty := 26) rfl _ _ w.heap.size 26 _ (0, 0) _ rfl Hrow.out Tryz.underlying26 rfl (by kernel_rfl)
  · exact hz_lt (hz := Hq.out)
end Go.Proofs.YtjlkoekfcdpnaaaGreatDoor
