/- Contract of gojq.deleteEmpty: what is left of a tree with holes. -/
/- What a value is as a tree of Go's, kind by kind. -/
/- Contract of gojq.deleteEmpty at arrays, and at every tree with holes. -/
/- Plain: what is left of a good value is good. -/
import Derived.Test.YtjlkoekfcdpnaaaGreatDoorM07
import Derived.Sort.KeysCollected
import Derived.Maps.RangeWalk
import Derived.Test.YtjlkoekfcdpnaaaGreatDoorM02
import Derived.Test.YtjlkoekfcdpnaaaGreatDoorM06
namespace Go.Proofs.YtjlkoekfcdpnaaaGreatDoor
open Go Go.RowKit Go.Maps Go.Deep Go.WideMaps
attribute [local go_sem] assert_sl assert_sl_nil assert_m assert_m_nil assert_st assert_st_nil
theorem held_val {v : Value} {y : DataW Value × List MemPlace} (_ : heldR v = some y) : ∃ c, v = id c := ⟨v, rfl⟩
def DelR (w : World) (S : Nat → Prop) (j : J) (u : Value) (w' : World) : Prop := Turns S w w' ∧ RepJ w' S j u
theorem del_nil (w : World) : Calls Tryz.prog 45 #[.nilIface] w (Ret fun u w' => u = .nilIface ∧ w' = w) := by
  go_enter Tryz.func45, Tryz.ntmps45
  go_wp2_with fail
  go_ret
  exact ⟨_, rfl, rfl, rfl⟩
theorem del_other {t : TypeId} {z : Value} (h1 : t ≠ 85) (h2 : t ≠ 53) (h3 : t ≠ 50) (w : World) : Calls Tryz.prog 45 #[.iface t z] w (Ret fun u w' => u = .iface t z ∧ w' = w) := by
  go_enter Tryz.func45, Tryz.ntmps45
  go_wp2_with fail
  go_ret
  exact ⟨_, rfl, rfl, rfl⟩
/-- A part by itself: what deleteEmpty makes of it. -/
def DelOK (x : Part) (r : V) : Prop := ∀ w', RepJ w' x.f x.j x.v → (∀ q, x.f q → q < w'.heap.size) → Calls Tryz.prog 45 #[x.v] w' (Ret (DelR w' x.f (toJ r)))
theorem DelSt.rep {w wr : World} {S : Nat → Prop} {r0 : Nat} {t0 t : List (ByteArray × Part)} {T : List (ByteArray × V)} {left : Lit → Bool} (h : DelSt wr t0 T t left) (hm : MapE wr r0 t) (hx : ∀ x ∈ t0, EntOK w S r0 x) (hp : t0.Pairwise Off) (hr : S r0) : RepJ wr S (.obj (jOf t)) (.iface 53 (.map (some r0))) := by
  have hne := rises_irrefl hm.rises
  refine obj_close hr hm (fun x hxt => ?_) (hne.imp_of_mem fun {a b} ha hb hab => ?_)
  · obtain ⟨x0, h0, e1, e2, _⟩ := h.parts x hxt
    obtain ⟨a1, a2, a3, _⟩ := hx x0 h0
    exact ⟨by rw [← e1]; exact a1, by rw [← e2]; exact a2, by rw [← e2]; exact a3, h.reps x hxt⟩
  · obtain ⟨a0, h0, e1, e2, _⟩ := h.parts a ha
    obtain ⟨b0, h0', e1', e2', _⟩ := h.parts b hb
    have hoff := pair_all (fun a b => Off.symm) hp h0 h0' (fun e => hab (by rw [← e1, ← e1', e]))
    intro k h1 h2
    exact hoff k (by rw [e2]; exact h1) (by rw [e2']; exact h2)
def DelLoop (w : World) (S : Nat → Prop) (r0 n : Nat) (t0 : List (ByteArray × Part)) (T : List (ByteArray × V)) (wr : World) : Prop :=
  ∃ left cnt t, wr.ranges Tryz.prog 9 heldR r0 w.heap.size n (.map (entT t)) left cnt ∧ DelSt wr t0 T t left ∧ Turns S w wr
set_option maxHeartbeats 4000000 in
set_option maxRecDepth 100000 in
theorem del_map {w : World} {S : Nat → Prop} {r0 : Nat} {t0 : List (ByteArray × Part)} {T : List (ByteArray × V)} (hS : ∀ q, S q → q < w.heap.size) (hr : S r0) (hE : MapE w r0 t0) (hx : ∀ x ∈ t0, EntOK w S r0 x) (hp : t0.Pairwise Off) (hd : Dest t0 T)
    (IH : ∀ x ∈ t0, x.2.j = .hole ∨ ∃ r, (x.1, r) ∈ T ∧ isHole x.2.j = false ∧ DelOK x.2 r) :
    Calls Tryz.prog 45 #[.iface 53 (.map (some r0))] w (Ret (DelR w S (.obj (T.map fun y => (y.1, toJ y.2))))) := by
  obtain ⟨n, hn, hown⟩ := hE
  have Hown := Lib.hid hown
  have HI := Lib.hid IH
  have Hx := Lib.hid hx
  have Hp := Lib.hid hp
  have Hd := Lib.hid hd
  have HS := Lib.hid hS
  have hst0 := Lib.hid (DelSt.start hd (fun x hxm => (hx x hxm).2.2.2))
  have hr0w := hS r0 hr
  have Hr := Lib.hid hr
  clear hown IH hx hp hd hS hr
  go_enter Tryz.func45, Tryz.ntmps45
  go_wp2_with (first
    | (at_range; refine wpList_range_own _ rfl _ 53 rfl 9 20 law_str Tryz.underlying53 heldR r0 n (.map (entT t0)) rfl Hown.out ?_; intro w0 hrg0 hg0 hs0)
    | go_in)
  try go_frame
  go_loopw [5] (fun _ wr => DelLoop w S r0 n t0 T wr) (fun _ wr => wr.rangeLeft r0 w.heap.size)
  case atStart =>
    have ht := (Turns.of_grown (hg0.but none)).trans (Turns.refl (fun _ => False) w0) (fun q _ h => h.elim)
    exact ⟨_, _, t0, hrg0, ⟨hst0.out.parts, fun x hxm => (hst0.out.reps x hxm).carry fun q hq => hg0.block q (HS.out q ((Hx.out x hxm).2.2.1 q hq)) (by simp), hst0.out.there, hst0.out.done⟩, ⟨hg0.os, hg0.tape, hg0.output, hg0.size, fun q hq _ => hg0.block q hq (by simp)⟩⟩
  case round =>
    obtain ⟨left, cnt, t, hrg, hst, htu⟩ := hrel
    go_wp2_with (first
      | (at_next; refine wpList_next_ranges _ rfl _ rfl 9 law_str heldR encStr id (fun key kl h => by obtain ⟨x, hx, _⟩ := Maps.keyOf_str Tryz.underlying9 h; exact ⟨x, hx⟩) (fun _ _ h => held_val h) r0 w.heap.size n _ _ _ rfl hrg ?_ ?_)
      | go_in)
    · intro hc0 hl0
      have hm : MapE wr r0 t := ⟨n, hn, hrg.owns⟩
      have hfin := hst.finish hl0 Hd.out hm.rises
      have hrep := hst.rep hm Hx.out Hp.out Hr.out
      rw [hfin] at hrep
      have Hrep := Lib.hid hrep
      have Htu := Lib.hid htu
      clear hst hrg hl0 hc0 htu hm hfin hrep
      go_wp2_with fail
      go_ret
      exact ⟨_, rfl, Htu.out, Hrep.out⟩
    · intro x c kl y y2 w1 cnt1 hkey hlk hy hat hrg1 hlt hg1 hs1 hen
      obtain ⟨x', ex, rfl, _⟩ := Maps.keyOf_str Tryz.underlying9 hkey
      obtain rfl := encStr_inj ex
      obtain ⟨e, het, hek, rfl⟩ := entT_at (fun z => (hat z).trans (heldR_inv hy))
      have hwr := htu.size
      have hl : left (keyL e.1) = true := by rw [hek]; exact hlk
      have he0 : e ∈ t0 := by
        obtain ⟨x0, h0, _, _, h1 | ⟨h1, _⟩⟩ := hst.parts e het
        · rw [h1.2]; exact h0
        · rw [hl] at h1; cases h1
      obtain ⟨ks1, ks2, ks3, _⟩ := Hx.out e he0
      have hreps1 : ∀ z ∈ t, RepJ w1 z.2.f z.2.j z.2.v := fun z hz => (hst.reps z hz).carry fun q hq => by
        obtain ⟨z0, h0, _, e2, _⟩ := hst.parts z hz
        have hq2 := HS.out q ((Hx.out z0 h0).2.2.1 q (by rw [e2]; exact hq))
        exact hg1.block q (by omega) (fun e => by cases e; omega)
      have htu1 : Turns S w w1 := ⟨hg1.os.trans htu.os, hg1.tape.trans htu.tape, hg1.output.trans htu.output, Nat.le_trans htu.size hg1.size, fun q hq hn => (hg1.block q (by omega) (fun e => by cases e; omega)).trans (htu.block q hq hn)⟩
      have hothers : ∀ z ∈ t, z.1 ≠ e.1 → (∀ q, z.2.f q → e.2.f q → False) ∧ ¬ z.2.f r0 ∧ ∀ q, z.2.f q → q < w.heap.size := fun z hz hne => by
        obtain ⟨z0, h0, e1, e2, _⟩ := hst.parts z hz
        obtain ⟨_, a2, a3, _⟩ := Hx.out z0 h0
        have hoff := pair_all (fun a b => Off.symm) Hp.out h0 he0 (fun e => hne (by rw [← e1, e]))
        rw [← e2]
        exact ⟨fun q h1 h2 => hoff q h1 h2, a2, fun q hq => HS.out q (a3 q hq)⟩
      have Hst := Lib.hid hst
      have Hreps1 := Lib.hid hreps1
      have Htu1 := Lib.hid htu1
      have Hoth := Lib.hid hothers
      have Hek := Lib.hid hek
      have Hl := Lib.hid hl
      have Het := Lib.hid het
      have Hks3 := Lib.hid ks3
      have Hrg := Lib.hid hrg
      have hre := hreps1 e het
      have hi := HI.out e he0
      have hw1s := htu1.size
      clear hst hreps1 htu1 hothers hek hl het ks3 hrg hat hy hlk htu hg1
      rcases hi with hj | ⟨r, hT, hnh, hok⟩
      · have Hj := Lib.hid hj
        rw [hj] at hre
        generalize e.2.v = c at *
        cases hre
        clear hj
        have q0 := eql_hole w1
        go_wp2_with (first
          | (at_delete; refine wpList_delete_ranges _ rfl (.tmp 32) (.tmp 33) 53 9 rfl 20 law_str Tryz.underlying53 heldR r0 w.heap.size n _ _ cnt1 rfl hrg1 (encStr x) (.string x) rfl hkey ?_; intro w2 cnt2 hrg2 hle hturn; go_frame)
          | go_in)
        have htt := Turns.of_grown (turned_grown hturn)
        rw [Maps.strike_twice, ← Hek.out, entT_del] at hrg2
        refine ⟨⟨_, cnt2, _, hrg2, Hst.out.gone Hd.out Het.out Hl.out Hj.out fun z hz hne => ?_, Htu1.out.trans htt fun q _ hq => ?_⟩, ?_⟩
        · obtain ⟨_, a2, a3⟩ := Hoth.out z hz hne
          exact (Hreps1.out z hz).turned htt (fun q hq => by have := a3 q hq; omega) (fun q h1 h2 => by cases h2; exact a2 h1)
        · cases hq
          exact Hr.out
        · rw [hrg2.left_eq, Hrg.out.left_eq]
          omega
      · have hf := hole_form hre
        have hc : e.2.v = .nilIface ∨ ∃ t z, e.2.v = .iface t z ∧ t ≠ 85 := by
          rcases hf with ⟨h, _⟩ | ⟨_, h⟩
          · rw [hnh] at h; cases h
          · exact h
        have D := Lib.hid (hok w1 hre (fun q hq => by have := HS.out q (Hks3.out q hq); omega))
        have HT := Lib.hid hT
        have q1 := eql_nil w1
        clear hre hf hok hT hnh
        generalize e.2.v = c at *
        rcases hc with rfl | ⟨tc, c, rfl, htc⟩
        all_goals
          try have q2 := eql_other tc c htc w1
          try clear htc
          go_wp2_with fail
          refine D.out.mono ?_
          rintro ee w2 ⟨u, rfl, htu2, hru⟩
          have hw2s := htu2.size
          have hrg2 := ranges_carry hrg1 (htu2.block r0 (by omega) ks2) (htu2.block w.heap.size hrg1.lt (fun h => by have := HS.out _ (Hks3.out _ h); omega))
          have fu := hru.form
          have Hru := Lib.hid hru
          have Htu2 := Lib.hid htu2
          have hhas : Maps.has (DataW.map (entT t)) (.string x) = true := by rw [← Hek.out]; exact entT_has Het.out
          have hnm : n < maxLen := by unfold maxLen; omega
          clear hru htu2 D q1
          try clear q2
          rcases fu with rfl | ⟨tu, u, rfl⟩
          all_goals
            go_wp2_with (first
              | (at_mapUpdate; refine wpList_restore_ranges rfl (.tmp 34) (.tmp 35) (.tmp 37) 53 rfl 9 20 law_str Tryz.underlying53 heldR r0 w.heap.size n _ _ cnt1 rfl hrg2 hnm (encStr x) _ (.string x) rfl rfl hkey hhas (.held _) [] rfl ?_; intro w3 hrg3 hg3; go_frame)
              | go_in)
            have ht3 := Turns.of_grown hg3
            rw [← Hek.out, entT_put t e.1 ⟨toJ r, _, e.2.f⟩] at hrg3
            refine ⟨⟨_, cnt1, _, hrg3, Hst.out.kept Het.out HT.out (Hru.out.turned ht3 (fun q hq => by have := HS.out q (Hks3.out q hq); omega) (fun q h1 h2 => by cases h2; exact ks2 h1)) fun z hz hne => ?_, (Htu1.out.trans Htu2.out (fun q _ h => Hks3.out q h)).trans ht3 fun q _ h => ?_⟩, ?_⟩
            · obtain ⟨a1, a2, a3⟩ := Hoth.out z hz hne
              exact ((Hreps1.out z hz).turned Htu2.out (fun q hq => by have := a3 q hq; omega) a1).turned ht3 (fun q hq => by have := a3 q hq; omega) (fun q h1 h2 => by cases h2; exact a2 h1)
            · cases h
              exact Hr.out
            · rw [hrg3.left_eq, Hrg.out.left_eq]
              exact hlt
end Go.Proofs.YtjlkoekfcdpnaaaGreatDoor

namespace Go.Proofs.YtjlkoekfcdpnaaaGreatDoor
open Go Go.RowKit
theorem toJ_0 (h : Int) (t : ByteArray) (l : List V) (ks : List ByteArray) (vs : List V) : toJ (.mk 0 h t l ks vs) = .null := by unfold toJ; simp
theorem toJ_1 (h : Int) (t : ByteArray) (l : List V) (ks : List ByteArray) (vs : List V) : toJ (.mk 1 h t l ks vs) = .bool false := by unfold toJ; simp
theorem toJ_2 (h : Int) (t : ByteArray) (l : List V) (ks : List ByteArray) (vs : List V) : toJ (.mk 2 h t l ks vs) = .bool true := by unfold toJ; simp
theorem toJ_3i {h : Int} (t : ByteArray) (l : List V) (ks : List ByteArray) (vs : List V) (e : h.tmod 2 = 0) : toJ (.mk 3 h t l ks vs) = .int (h.tdiv 2) := by unfold toJ; simp [e]
theorem toJ_3f {h : Int} (t : ByteArray) (l : List V) (ks : List ByteArray) (vs : List V) (e : ¬ h.tmod 2 = 0) : toJ (.mk 3 h t l ks vs) = .flt (halfBits h) := by unfold toJ; simp [e]
theorem toJ_4 (h : Int) (t : ByteArray) (l : List V) (ks : List ByteArray) (vs : List V) : toJ (.mk 4 h t l ks vs) = .str t := by unfold toJ; simp
theorem toJ_5 (h : Int) (t : ByteArray) (l : List V) (ks : List ByteArray) (vs : List V) : toJ (.mk 5 h t l ks vs) = .arr (toJL l) := by unfold toJ; simp
theorem toJ_6 (h : Int) (t : ByteArray) (l : List V) (ks : List ByteArray) (vs : List V) : toJ (.mk 6 h t l ks vs) = .obj (toJM ks vs) := by unfold toJ; simp
end Go.Proofs.YtjlkoekfcdpnaaaGreatDoor

namespace Go.Proofs.YtjlkoekfcdpnaaaGreatDoor
open Go Go.RowKit Go.Maps Go.Deep Go.WideMaps
attribute [local go_sem] assert_sl assert_sl_nil assert_m assert_m_nil assert_st assert_st_nil
theorem neq_hole (w : World) : (binOp .neq 20 (.iface 85 (.agg #[])) (.iface 85 (.agg #[]))).run Tryz.prog w = .ok (.bool false) w := by kernel_rfl
theorem neq_nil (w : World) : (binOp .neq 20 .nilIface (.iface 85 (.agg #[]))).run Tryz.prog w = .ok (.bool true) w := by kernel_rfl
theorem neq_other (t : TypeId) (v : Value) (ht : t ≠ 85) (w : World) : (binOp .neq 20 (.iface t v) (.iface 85 (.agg #[]))).run Tryz.prog w = .ok (.bool true) w := by
  have h : (Op.equalIn 10000 20 (.iface t v) (.iface 85 (.agg #[]))).run Tryz.prog w = .ok false w := by
    rw [show (10000 : Nat) = 9999 + 1 from rfl, Op.equalIn]
    simp [run_underlying Tryz.underlying20, Result.andThen, ht]
  show (Sem.run Tryz.prog ((Op.equalIn 10000 20 (.iface t v) (.iface 85 (.agg #[]))) >>= fun b => pure (Value.bool !b)) w) = _
  simp [h, Result.andThen]
def ArrLoop (w : World) (S : Nat → Prop) (b o N : Nat) (t0 : List Part) (l l' : List V) (jv iv : Value) (wr : World) : Prop :=
  ∃ n f tk, n ≤ t0.length ∧ iv = .int .i64 (n : Nat) ∧ jv = .int .i64 (tk.length : Nat) ∧ ArrSt wr b o N f S t0 l l' n tk ∧ Turns S w wr
def FillLoop (w : World) (S : Nat → Prop) (b o N len : Nat) (tk : List Part) (iv : Value) (wr : World) : Prop :=
  ∃ q f, tk.length ≤ q ∧ q ≤ len ∧ iv = .int .i64 (q : Nat) ∧ wr.rowIs b 20 N f ∧ (∀ i (hi : i < tk.length), f (o + i) = tk[i].v) ∧ (∀ x ∈ tk, ¬ x.f b ∧ (∀ k, x.f k → S k) ∧ RepJ wr x.f x.j x.v) ∧ Turns S w wr
theorem set_carry {w : World} {S : Nat → Prop} {j : J} {v : Value} (h : RepJ w S j v) {b i : Nat} (hb : ¬ S b) (u : Value) : RepJ (w.setCell ⟨b, i, none⟩ u) S j v :=
  h.carry fun q hq => RowKit.Below.heap_setCell _ _ _ _ (fun e => hb (by have e2 : b = q := by first | exact e | exact e.symm
                                                                         rw [e2]; exact hq))
set_option maxHeartbeats 4000000 in
set_option maxRecDepth 100000 in
theorem del_arr {w : World} {S : Nat → Prop} {b o N c : Nat} {f0 : Nat → Value} {t0 : List Part} {l l' : List V} (h0 : 0 < t0.length) (h16 : t0.length * 16 ≤ 140737488351232) (hc : t0.length ≤ c) (hcb : c ≤ capMax) (hS : ∀ q, S q → q < w.heap.size) (hrow : RowAt w b o N f0 S t0)
    (hl : HolL l (t0.map (·.j)) l') (hll : l.length = t0.length) (IH : ∀ i (hi : i < t0.length) r, Hol (l[i]'(by omega)) t0[i].j r → DelOK t0[i] r) :
    Calls Tryz.prog 45 #[.iface 50 (.slice (some ⟨b, o, none⟩) t0.length c)] w (Ret (DelR w S (.arr (toJL l')))) := by
  have hSb : S b := hrow.1
  have hN : o + t0.length ≤ N := hrow.2.2.1
  have Hst := Lib.hid (ArrSt.start hrow hl)
  have HI := Lib.hid IH
  have HS := Lib.hid hS
  have HSb := Lib.hid hSb
  have hbw := hS b hSb
  have hcm : c ≤ 9223372036854775807 := by unfold capMax at hcb; omega
  have hu0 : (0 : Int) < (t0.length : Int) := by omega
  clear hrow hl IH hS hSb
  go_enter Tryz.func45, Tryz.ntmps45
  go_wp2_with fail
  go_loopw [8, 45] (fun jv iv wr => ArrLoop w S b o N t0 l l' jv iv wr) (fun _ iv _ => t0.length - (intOf iv).toNat)
  case atStart => exact ⟨0, f0, [], Nat.zero_le _, rfl, rfl, Hst.out, Turns.refl _ _⟩
  case round =>
    obtain ⟨n, f, tk, hn, rfl, rfl, hst, htu⟩ := hrel
    have hws := htu.size
    by_cases hn' : n < t0.length
    · have y1 : wr.cell? ⟨b, o + n, none⟩ = some t0[n].v := by rw [hst.row.cell (by omega), hst.tails n hn' (Nat.le_refl _)]
      have u1 : (n : Int) < (t0.length : Int) := by omega
      have u2 : (0 : Int) ≤ (n : Int) := by omega
      have hlen := hst.len
      have u3 : (tk.length : Int) < (t0.length : Int) := by omega
      have u4 : (0 : Int) ≤ (tk.length : Int) := by omega
      obtain ⟨tr1, tr2, tr3⟩ := hst.treps n hn' (Nat.le_refl _)
      have Htr2 := Lib.hid tr2
      have Htu := Lib.hid htu
      have Hst1 := Lib.hid hst
      have hnx := hst.next hn' hll
      clear tr2 htu hst
      rcases hnx with ⟨hj, hst2⟩ | ⟨r, hv, hnh, hgo⟩
      · rw [hj] at tr3
        generalize t0[n].v = x at *
        cases tr3
        have q0 := neq_hole wr
        have Hst2 := Lib.hid hst2
        clear hst2 hj
        go_wp2_with fail
        go_roundw
        case rel => exact ⟨n + 1, f, tk, by omega, by go_num, rfl, Hst2.out, Htu.out⟩
        case measure => simp [intOf]; omega
      · have hf := hole_form tr3
        have hc2 : t0[n].v = .nilIface ∨ ∃ t z, t0[n].v = .iface t z ∧ t ≠ 85 := by
          rcases hf with ⟨h, _⟩ | ⟨_, h⟩
          · rw [hnh] at h; cases h
          · exact h
        have D := Lib.hid (HI.out n hn' r hv wr tr3 (fun q hq => by have := HS.out q (Htr2.out q hq); omega))
        have Hgo := Lib.hid hgo
        have q1 := neq_nil wr
        clear hf hv hnh hgo tr3
        generalize t0[n].v = x at *
        rcases hc2 with rfl | ⟨tx, x, rfl, htx⟩
        all_goals
          try have q2 := neq_other tx x htx wr
          try clear htx
          go_wp2_with fail
          refine D.out.mono ?_
          rintro ee w2 ⟨u, rfl, htu2, hru⟩
          have hw2s := htu2.size
          have hrow2 : w2.rowIs b 20 N f := rowIs_carry Hst1.out.row (htu2.block b (by omega) tr1)
          have y2 := hrow2.cell (i := o + tk.length) (by omega)
          have f2 := hrow2.frozen (o + tk.length)
          have fu := hru.form
          have Hru := Lib.hid hru
          have Htu2 := Lib.hid htu2
          have Hrow2 := Lib.hid hrow2
          clear hru htu2 hrow2 D q1
          try clear q2
          rcases fu with rfl | ⟨tu, u, rfl⟩
          all_goals
            go_wp2_with fail
            go_roundw
            case rel =>
              refine ⟨n + 1, _, _, by omega, by go_num, by rw [List.length_append]; go_num, Hgo.out _ _ (set_carry Hru.out tr1 _) (Hrow2.out.set (o + tk.length) _) (fun x hd hb hxS hx => set_carry (hx.turned Htu2.out (fun q hq => by have := HS.out q (hxS q hq); omega) hd) hb _), (Htu.out.trans Htu2.out (fun q _ h => Htr2.out q h)).set HSb.out _⟩
            case measure => simp [intOf]; omega
    · have en : n = t0.length := by omega
      rw [en] at hst
      have hdone := hst.done hll
      have hlen := hst.len
      have Hdone := Lib.hid hdone
      have hfill : FillLoop w S b o N t0.length tk (.int .i64 (tk.length : Nat)) wr := ⟨tk.length, f, Nat.le_refl _, hlen, rfl, hst.row, hst.heads, hst.kreps, htu⟩
      have Hfill := Lib.hid hfill
      have Htu := Lib.hid htu
      have Hpair := Lib.hid hst.off
      have u1 : ¬ ((n : Int) < (t0.length : Int)) := by omega
      clear hst hdone hfill htu
      go_wp2_with fail
      go_loopw [11] (fun iv wr => FillLoop w S b o N t0.length tk iv wr) (fun iv _ => t0.length - (intOf iv).toNat)
      case atStart => exact Hfill.out
      case round =>
        obtain ⟨q, f', hq1, hq2, rfl, hrow, hheads, hreps, htu⟩ := hrel
        by_cases hq' : q < t0.length
        · have u3 : (q : Int) < (t0.length : Int) := by omega
          have u4 : (0 : Int) ≤ (q : Int) := by omega
          have y2 := hrow.cell (i := o + q) (by omega)
          have f2 := hrow.frozen (o + q)
          have Hrow := Lib.hid hrow
          have Hheads := Lib.hid hheads
          have Hreps := Lib.hid hreps
          have Htu2 := Lib.hid htu
          clear hrow hheads hreps htu
          go_wp2_with fail
          go_roundw
          case rel =>
            refine ⟨q + 1, _, by omega, by omega, by go_num, Hrow.out.set (o + q) _, fun i hi => ?_, fun x hx => ?_, Htu2.out.set HSb.out _⟩
            · rw [if_neg (by omega)]
              exact Hheads.out i hi
            · obtain ⟨a1, a2, a3⟩ := Hreps.out x hx
              exact ⟨a1, a2, set_carry a3 a1 _⟩
          case measure => simp [intOf]; omega
        · have u3 : ¬ ((q : Int) < (t0.length : Int)) := by omega
          have u5 : (tk.length : Int) ≤ (c : Int) := by omega
          have u6 : (0 : Int) ≤ (tk.length : Int) := by omega
          have hpw : tk.Pairwise OffP := by
            have := Hpair.out
            rw [List.map_append] at this
            have := (List.pairwise_append.1 this).1
            rwa [List.pairwise_map] at this
          have hrep : RepJ wr S (.arr (tk.map (·.j))) (.iface 50 (.slice (some ⟨b, o, none⟩) tk.length c)) :=
            row_arr (by omega) (by omega) hcb (fun _ => ⟨rfl, HSb.out, hrow, by omega, hheads, hreps, hpw⟩) (by simp)
          rw [Hdone.out] at hrep
          have Hrep := Lib.hid hrep
          have Htu2 := Lib.hid htu
          clear hrow hheads hreps htu hrep hpw
          go_wp2_with fail
          go_ret
          exact ⟨_, rfl, Htu2.out, Hrep.out⟩
set_option maxHeartbeats 1000000 in
set_option maxRecDepth 100000 in
theorem del_none {a : Option Addr} {c : Nat} (w : World) : Calls Tryz.prog 45 #[.iface 50 (.slice a 0 c)] w (Ret fun u w' => w' = w ∧ ∃ a' c', u = .iface 50 (.slice a' 0 c') ∧ c' ≤ c ∧ (a ≠ none → a' ≠ none)) := by
  have hc : (0 : Int) ≤ (c : Int) := by omega
  rcases a with _ | ⟨b, o, sp⟩
  · go_enter Tryz.func45, Tryz.ntmps45
    go_wp2_with fail
    refine wp_loop_rounds 1 ?_
    rw [rounds_succ]
    go_wp2_with fail
    refine wp_loop_rounds 1 ?_
    rw [rounds_succ]
    go_wp2_with fail
    go_ret
    exact ⟨_, rfl, rfl, _, _, rfl, Nat.le_refl _, fun h => absurd rfl h⟩
  · go_enter Tryz.func45, Tryz.ntmps45
    go_wp2_with fail
    refine wp_loop_rounds 1 ?_
    rw [rounds_succ]
    go_wp2_with fail
    refine wp_loop_rounds 1 ?_
    rw [rounds_succ]
    go_wp2_with fail
    go_ret
    exact ⟨_, rfl, rfl, _, _, rfl, Nat.le_refl _, fun _ => by simp⟩
theorem sizeL_mem' : ∀ {l : List V} {x : V}, x ∈ l → sizeV x ≤ sizeL l
  | y :: r, x, h => by
    rw [sizeL_cons]
    rcases List.mem_cons.1 h with rfl | h
    · omega
    · have := sizeL_mem' h
      omega
/-- deleteEmpty takes the holes out. -/
theorem del_any : ∀ (m : Nat) (v : V), sizeV v ≤ m → Good v → ∀ (j : J) (r : V), Hol v j r → ∀ (w : World) (S : Nat → Prop) (x : Value), RepJ w S j x → (∀ q, S q → q < w.heap.size) → Calls Tryz.prog 45 #[x] w (Ret (DelR w S (toJ r)))
  | 0, v, hm, _ => by have := sizeV_pos v; omega
  | m + 1, v, hm, g => by
    intro j r hh w S x hx hS
    have IH := del_any m
    have hg := g
    obtain ⟨hlen, gl, gv⟩ := good_parts (k := v.kind) (h := v.half) (t := v.text) (l := v.list) (ks := v.keys) (vs := v.vals) (by obtain ⟨_, _, _, _, _, _⟩ := v; exact g)
    cases hh with
    | @leaf k h t l ks vs h5 h6 hl hk hv =>
      have hJ : (∃ t z, x = .iface t z ∧ t ≠ 85 ∧ t ≠ 53 ∧ t ≠ 50) ∨ x = .nilIface := by
        have hk : 0 ≤ k ∧ k ≤ 6 := by
          cases g with
          | mk shape half valid list rise vkeys vals =>
            simp only [shapeB, Bool.and_eq_true, decide_eq_true_eq] at shape
            exact ⟨shape.1.1.1.1.1.1, shape.1.1.1.1.1.2⟩
        have hc : k = 0 ∨ k = 1 ∨ k = 2 ∨ k = 3 ∨ k = 4 := by omega
        have hx2 := hx
        rcases hc with rfl | rfl | rfl | rfl | rfl
        · rw [toJ_0] at hx2; cases hx2; exact .inr rfl
        · rw [toJ_1] at hx2; cases hx2; exact .inl ⟨_, _, rfl, by decide, by decide, by decide⟩
        · rw [toJ_2] at hx2; cases hx2; exact .inl ⟨_, _, rfl, by decide, by decide, by decide⟩
        · by_cases e : h.tmod 2 = 0
          · rw [toJ_3i _ _ _ _ e] at hx2; cases hx2; exact .inl ⟨_, _, rfl, by decide, by decide, by decide⟩
          · rw [toJ_3f _ _ _ _ e] at hx2; cases hx2; exact .inl ⟨_, _, rfl, by decide, by decide, by decide⟩
        · rw [toJ_4] at hx2; cases hx2; exact .inl ⟨_, _, rfl, by decide, by decide, by decide⟩
      rcases hJ with ⟨t, z, rfl, n1, n2, n3⟩ | rfl
      · refine (del_other n1 n2 n3 w).mono ?_
        rintro e w' ⟨u, he, rfl, rfl⟩
        exact ⟨_, he, Turns.refl _ _, hx⟩
      · refine (del_nil w).mono ?_
        rintro e w' ⟨u, he, rfl, rfl⟩
        exact ⟨_, he, Turns.refl _ _, hx⟩
    | @arr h t l l' js hl =>
      rw [toJ_5]
      obtain ⟨a, c, t0, rfl, hj, h16, hc, hcb, hrow, hnn⟩ := arr_row hx
      have hlt : l.length = t0.length := by rw [← hl.len, hj]; simp
      rw [hj] at hl
      by_cases h0 : t0.length = 0
      · have e0 : t0 = [] := List.eq_nil_of_length_eq_zero h0
        subst e0
        have el : l = [] := List.eq_nil_of_length_eq_zero (by simpa using hlt)
        subst el
        cases hl
        refine (del_none w).mono ?_
        rintro e w' ⟨u, he, rfl, a', c', rfl, hcc, hna⟩
        exact ⟨_, he, Turns.refl _ _, row_arr (t := []) (b := 0) (o := 0) (N := 0) (f := fun _ => .nilIface) (by simp) (Nat.zero_le _) (Nat.le_trans hcc hcb) (fun h => by simp at h) (hna hnn)⟩
      · obtain ⟨b, o, N, f, rfl, hr⟩ := hrow (by omega)
        refine del_arr (by omega) h16 hc hcb hS hr hl hlt fun i hi r' hv w' hre hb => ?_
        have hil : i < l.length := by omega
        have hsz := sizeL_get hil
        rw [sizeV] at hm
        exact IH l[i] (by omega) (gl _ (List.getElem_mem hil)) _ r' hv w' _ _ hre hb
    | @obj h t ks ks' vs vs' m' hm' =>
      rw [toJ_6]
      obtain ⟨r0, t0, rfl, hr, rfl, hE, hxs, hp⟩ := obj_open hx
      obtain ⟨hd, hD⟩ := dest_of hm' hE.rises
      have hz : toJM ks' vs' = (ks'.zip vs').map fun y => (y.1, toJ y.2) := by
        rw [toJM_eq, List.zip_map_right]
        rfl
      rw [hz]
      refine del_map hS hr hE hxs hp hd fun x hxm => ?_
      rcases hD x hxm with h | ⟨v', hv', r', h1, h2⟩
      · exact .inl h
      · refine .inr ⟨r', h2, h1.not, fun w' hre hb => ?_⟩
        have hsz := sizeL_mem' hv'
        rw [sizeV] at hm
        exact IH v' (by omega) (gv _ hv') _ r' h1 w' _ _ hre hb
end Go.Proofs.YtjlkoekfcdpnaaaGreatDoor

namespace Go.Proofs.YtjlkoekfcdpnaaaGreatDoor
open Go Go.RowKit
theorem rise_pair {ks : List ByteArray} (rise : ∀ i (hi : i + 1 < ks.length), Op.bytesLess ks[i].toList ks[i + 1].toList = true) : ks.Pairwise fun a b => Op.bytesLess a.toList b.toList = true := by
  rw [List.pairwise_iff_getElem]
  intro i j hi hj hij
  exact rise_all ks rise j hj i hij
theorem pair_rise {ks : List ByteArray} (h : ks.Pairwise fun a b => Op.bytesLess a.toList b.toList = true) : ∀ i (hi : i + 1 < ks.length), Op.bytesLess ks[i].toList ks[i + 1].toList = true :=
  fun i hi => List.pairwise_iff_getElem.1 h i (i + 1) (by omega) hi (by omega)
mutual
theorem rest_good : ∀ (v r : V), Rest v r → Good v → Good r
  | .mk k h t l ks vs, .mk k' h' t' l' ks' vs', hr, g => by
    obtain ⟨_, gl, gv⟩ := good_parts g
    cases hr with
    | mk hl hm =>
      have g1 := restL_good l l' hl gl
      have g2 := restM_good ks vs ks' vs' hm gv
      have n1 := hl.len
      obtain ⟨n2, n3, n4⟩ := hm.len
      cases g with
      | mk shape half valid list rise vkeys vals =>
        refine .mk ?_ half valid (fun i hi => g1 _ (List.getElem_mem hi)) (pair_rise ((rise_pair rise).sublist hm.sub)) (fun i hi => ?_) (fun i hi => g2 _ (List.getElem_mem hi))
        · simp only [shapeB, Bool.and_eq_true, Bool.or_eq_true, decide_eq_true_eq, beq_iff_eq] at shape ⊢
          obtain ⟨⟨⟨⟨⟨⟨s1, s2⟩, s3⟩, s4⟩, s5⟩, s6⟩, s7⟩ := shape
          exact ⟨⟨⟨⟨⟨⟨s1, s2⟩, s3⟩, s4⟩, s5.imp_right fun e => by omega⟩, s6.imp_right fun e => by omega⟩, n3⟩
        · obtain ⟨j, hj, e⟩ := List.mem_iff_getElem.1 (hm.sub.subset (List.getElem_mem hi))
          rw [← e]
          exact vkeys j hj
termination_by structural v => v
theorem restL_good : ∀ (l l' : List V), RestL l l' → (∀ x ∈ l, Good x) → ∀ x ∈ l', Good x
  | [], l', h, _, x, hx => by
    rw [restL_nil h] at hx
    cases hx
  | v :: l, l', h, g, x, hx => by
    have gl : ∀ x ∈ l, Good x := fun x hx => g x (List.mem_cons_of_mem _ hx)
    cases h with
    | drop h => exact restL_good l l' h gl x hx
    | @keep _ v' _ l2 hv h =>
      rcases List.mem_cons.1 hx with rfl | hx
      · exact rest_good v x hv (g v (List.mem_cons_self ..))
      · exact restL_good l l2 h gl x hx
termination_by structural l => l
theorem restM_good : ∀ (ks : List ByteArray) (vs : List V) (ks' : List ByteArray) (vs' : List V), RestM ks vs ks' vs' → (∀ x ∈ vs, Good x) → ∀ x ∈ vs', Good x
  | ks, [], ks', vs', h, _, x, hx => by
    cases h
    cases hx
  | ks, v :: vs, ks', vs', h, g, x, hx => by
    have gl : ∀ x ∈ vs, Good x := fun x hx => g x (List.mem_cons_of_mem _ hx)
    cases h with
    | @drop k _ ks _ _ _ h => exact restM_good ks vs ks' vs' h gl x hx
    | @keep k _ v' ks ks2 _ vs2 hv h =>
      rcases List.mem_cons.1 hx with rfl | hx
      · exact rest_good v x hv (g v (List.mem_cons_self ..))
      · exact restM_good ks vs ks2 vs2 h gl x hx
termination_by structural _ vs => vs
end

/-- Each text is one that memory can hold. -/
inductive Tame : V → Prop
  | mk {k h : Int} {t : ByteArray} {l : List V} {ks : List ByteArray} {vs : List V} (ht : t.size ≤ 140737488351232) (hk : ∀ s ∈ ks, s.size ≤ 140737488351232) (hl : ∀ i (hi : i < l.length), Tame l[i]) (hv : ∀ i (hi : i < vs.length), Tame vs[i]) : Tame (.mk k h t l ks vs)
theorem tame_parts {k h : Int} {t : ByteArray} {l : List V} {ks : List ByteArray} {vs : List V} (g : Tame (.mk k h t l ks vs)) : t.size ≤ 140737488351232 ∧ (∀ s ∈ ks, s.size ≤ 140737488351232) ∧ (∀ x ∈ l, Tame x) ∧ ∀ x ∈ vs, Tame x := by
  cases g with
  | mk ht hk hl hv =>
    refine ⟨ht, hk, fun x hx => ?_, fun x hx => ?_⟩
    · obtain ⟨i, hi, rfl⟩ := List.mem_iff_getElem.1 hx
      exact hl i hi
    · obtain ⟨i, hi, rfl⟩ := List.mem_iff_getElem.1 hx
      exact hv i hi
/-- A looker's state within its bounds. -/
def Lk.in (s : Lk) : Prop := 0 ≤ s.parts ∧ s.parts ≤ 400 ∧ 0 ≤ s.bytes ∧ s.bytes ≤ 2000
/-- Not above another one's. -/
def Lk.le (s s' : Lk) : Prop := s.parts ≤ s'.parts ∧ s.bytes ≤ s'.bytes
theorem Lk.part_in {s : Lk} {deep : Int} (h : s.in) (hb : (s.part deep).bad = false) : (s.part deep).in ∧ s.le (s.part deep) ∧ (s.part deep).parts = s.parts + 1 ∧ (s.part deep).bytes = s.bytes ∧ deep ≤ 60 ∧ s.bad = false := by
  obtain ⟨h1, h2, h3, h4⟩ := h
  obtain ⟨b1, b2, b3, b4⟩ := Lk.part_bad hb
  have e := Lk.part_parts (deep := deep) h1 h2
  have e2 : (s.part deep).bytes = s.bytes := rfl
  have e3 : wrap64 (s.parts + 1) = s.parts + 1 := e
  rw [e3] at b2
  exact ⟨⟨by omega, by omega, by omega, by omega⟩, ⟨by omega, by omega⟩, e, e2, b4, b1⟩
theorem Lk.str_in {s : Lk} {b : ByteArray} (hn : b.size ≤ 140737488351232) (h : s.in) (hb : (s.str b).bad = false) : (s.str b).in ∧ s.le (s.str b) ∧ (s.str b).parts = s.parts ∧ (s.str b).bytes = s.bytes + b.size ∧ s.bad = false ∧ Lib.validD b.data.toList = true := by
  obtain ⟨h1, h2, h3, h4⟩ := h
  obtain ⟨b1, b2, b3⟩ := Lk.str_bad hb
  have e : wrap64 (s.bytes + b.size) = s.bytes + b.size := by unfold wrap64; omega
  rw [e] at b2
  have e1 : (s.str b).parts = s.parts := rfl
  have e2 : (s.str b).bytes = s.bytes + b.size := e
  exact ⟨⟨by omega, by omega, by omega, by omega⟩, ⟨by omega, by omega⟩, e1, e2, b1, b3⟩
theorem Lk.want_in {s : Lk} {ok : Bool} (h : s.in) : (s.want ok).in := h
theorem Lk.le_refl (s : Lk) : s.le s := ⟨Int.le_refl _, Int.le_refl _⟩
theorem Lk.le_trans {a b c : Lk} (h : a.le b) (h' : b.le c) : a.le c := ⟨Int.le_trans h.1 h'.1, Int.le_trans h.2 h'.2⟩
mutual
theorem look_up : ∀ (v : V) (deep : Int) (s : Lk), Tame v → s.in → (lookV v deep s).bad = false → (lookV v deep s).in ∧ s.le (lookV v deep s)
  | .mk k h t l ks vs, deep, s, ht, hi, hb => by
    obtain ⟨t1, t2, t3, t4⟩ := tame_parts ht
    unfold lookV at hb ⊢
    split at hb
    · rename_i e
      rw [e] at hb
      cases hb
    · rename_i e
      rw [if_neg e]
      have e' : (s.part deep).bad = false := by simpa using e
      obtain ⟨p1, p2, _⟩ := Lk.part_in hi e'
      obtain ⟨hm, _⟩ := look_goodM none ks vs deep _ hb
      obtain ⟨_, hs⟩ := look_goodL l deep _ hm
      obtain ⟨q1, q2, _⟩ := Lk.str_in t1 (Lk.want_in (Lk.want_in p1)) hs
      obtain ⟨l1, l2⟩ := look_upL l deep _ t3 q1 hm
      obtain ⟨m1, m2⟩ := look_upM none ks vs deep _ t2 t4 l1 hb
      exact ⟨m1, Lk.le_trans p2 (Lk.le_trans q2 (Lk.le_trans l2 m2))⟩
termination_by structural v => v
theorem look_upL : ∀ (l : List V) (deep : Int) (s : Lk), (∀ x ∈ l, Tame x) → s.in → (lookL l deep s).bad = false → (lookL l deep s).in ∧ s.le (lookL l deep s)
  | [], _, s, _, hi, hb => by
    unfold lookL
    exact ⟨hi, Lk.le_refl _⟩
  | v :: r, deep, s, ht, hi, hb => by
    unfold lookL at hb ⊢
    split at hb
    · rename_i e
      rw [e] at hb
      cases hb
    · rename_i e
      rw [if_neg e]
      obtain ⟨_, hs⟩ := look_goodL r deep _ hb
      obtain ⟨a1, a2⟩ := look_up v _ s (ht v (List.mem_cons_self ..)) hi hs
      obtain ⟨b1, b2⟩ := look_upL r deep _ (fun x hx => ht x (List.mem_cons_of_mem _ hx)) a1 hb
      exact ⟨b1, Lk.le_trans a2 b2⟩
termination_by structural l => l
theorem look_upM : ∀ (p : Option ByteArray) (ks : List ByteArray) (vs : List V) (deep : Int) (s : Lk), (∀ x ∈ ks, x.size ≤ 140737488351232) → (∀ x ∈ vs, Tame x) → s.in → (lookM p ks vs deep s).bad = false → (lookM p ks vs deep s).in ∧ s.le (lookM p ks vs deep s)
  | p, [], vs, deep, s, _, _, hi, hb => by
    unfold lookM
    exact ⟨hi, Lk.le_refl _⟩
  | p, _ :: _, [], deep, s, _, _, hi, hb => by
    unfold lookM
    exact ⟨hi, Lk.le_refl _⟩
  | p, k :: ks, v :: vs, deep, s, hk, ht, hi, hb => by
    unfold lookM at hb ⊢
    split at hb
    · rename_i e
      rw [e] at hb
      cases hb
    · rename_i e
      rw [if_neg e]
      obtain ⟨hs, _⟩ := look_goodM (some k) ks vs deep _ hb
      obtain ⟨_, hw⟩ := look_good v _ _ hs
      obtain ⟨hw, _⟩ := (Lk.want_bad _ _).1 hw
      obtain ⟨q1, q2, _⟩ := Lk.str_in (hk k (List.mem_cons_self ..)) hi hw
      obtain ⟨a1, a2⟩ := look_up v _ _ (ht v (List.mem_cons_self ..)) (Lk.want_in (ok := riseB p k) q1) hs
      obtain ⟨b1, b2⟩ := look_upM (some k) ks vs deep _ (fun x hx => hk x (List.mem_cons_of_mem _ hx)) (fun x hx => ht x (List.mem_cons_of_mem _ hx)) a1 hb
      exact ⟨b1, Lk.le_trans q2 (Lk.le_trans a2 b2)⟩
termination_by structural _ _ vs => vs
end

/-- The key before, in what is left: none, or not behind the other one's. -/
def PrevOK (p' p : Option ByteArray) : Prop := p' = none ∨ ∃ a b, p' = some a ∧ p = some b ∧ (a = b ∨ Op.bytesLess a.toList b.toList = true)
theorem less_trans {a b c : ByteArray} (h1 : Op.bytesLess a.toList b.toList = true) (h2 : Op.bytesLess b.toList c.toList = true) : Op.bytesLess a.toList c.toList = true := by
  have e : ∀ x y : ByteArray, Op.bytesLess x.toList y.toList = (keyL x).before (keyL y) := fun x y => by
    show _ = bytesBefore x.data.toList y.data.toList
    rw [before_eq, ByteArray.toList_eq, ByteArray.toList_eq]
  rw [e] at h1 h2 ⊢
  exact Go.WideShapes.before_trans h1 h2
theorem PrevOK.rise {p' p : Option ByteArray} {k : ByteArray} (h : PrevOK p' p) (hr : riseB p k = true) : riseB p' k = true := by
  rcases h with rfl | ⟨a, b, rfl, rfl, h⟩
  · rfl
  · rcases h with rfl | h
    · exact hr
    · exact less_trans h hr
theorem PrevOK.next {p' p : Option ByteArray} {k : ByteArray} (h : PrevOK p' p) (hr : riseB p k = true) : PrevOK p' (some k) := by
  rcases h with rfl | ⟨a, b, rfl, rfl, h⟩
  · exact .inl rfl
  · refine .inr ⟨a, k, rfl, rfl, .inr ?_⟩
    rcases h with rfl | h
    · exact hr
    · exact less_trans h hr
theorem part_ok {s s' : Lk} {deep : Int} (hb : s.bad = false) (hs : s.in) (hle : s.le s') (hi : s'.in) (h : (s'.part deep).bad = false) : (s.part deep).bad = false := by
  obtain ⟨_, _, e1, _, e3, _⟩ := Lk.part_in hi h
  obtain ⟨h1, h2, h3, h4⟩ := hs
  have hp := (Lk.part_in hi h).1.2.1
  have e := Lk.part_parts (deep := deep) h1 h2
  have e' : wrap64 (s.parts + 1) = s.parts + 1 := e
  have hle1 := hle.1
  simp only [Lk.part, hb, e', Bool.false_or, Bool.not_eq_false', Bool.and_eq_true, decide_eq_true_eq]
  exact ⟨⟨by omega, by omega⟩, e3⟩
theorem str_ok {s s' : Lk} {b : ByteArray} (hn : b.size ≤ 140737488351232) (hb : s.bad = false) (hs : s.in) (hle : s.le s') (hi : s'.in) (h : (s'.str b).bad = false) : (s.str b).bad = false ∧ (s.str b).le (s'.str b) := by
  obtain ⟨q1, _, e1, e2, _, e3⟩ := Lk.str_in hn hi h
  obtain ⟨h1, h2, h3, h4⟩ := hs
  have hq := q1.2.2.2
  have e : wrap64 (s.bytes + b.size) = s.bytes + b.size := by have := hle.2; unfold wrap64; omega
  have hle2 := hle.2
  have hle1 := hle.1
  refine ⟨?_, ?_, ?_⟩
  · simp only [Lk.str, hb, e, e3, Bool.false_or, Bool.not_eq_false', Bool.and_eq_true, decide_eq_true_eq, and_true]
    omega
  · show s.parts ≤ (s'.str b).parts
    omega
  · show wrap64 (s.bytes + b.size) ≤ (s'.str b).bytes
    omega
mutual
theorem rest_look : ∀ (v r : V), Rest v r → ∀ (deep : Int) (s s' : Lk), Tame v → s.bad = false → s.in → s.le s' → s'.in → (lookV v deep s').bad = false → (lookV r deep s).bad = false ∧ (lookV r deep s).in ∧ (lookV r deep s).le (lookV v deep s')
  | .mk k h t l ks vs, .mk k' h' t' l' ks' vs', hr, deep, s, s', ht, h0, hs, hle, hi, hb => by
    obtain ⟨t1, t2, t3, t4⟩ := tame_parts ht
    have hg := (look_good _ _ _ hb).1
    have hg' := rest_good _ _ hr hg
    cases hr with
    | mk hl hm =>
      unfold lookV at hb ⊢
      split at hb
      · rename_i e
        rw [e] at hb
        cases hb
      · rename_i e
        rw [if_neg e]
        have e' : (s'.part deep).bad = false := by simpa using e
        have p0 := part_ok h0 hs hle hi e'
        rw [if_neg (by simp [p0])]
        obtain ⟨p1, p2, p3, p4, _⟩ := Lk.part_in hi e'
        obtain ⟨q1, q2, q3, q4, _⟩ := Lk.part_in hs p0
        have hple : (s.part deep).le (s'.part deep) := ⟨by have := hle.1; omega, by have := hle.2; omega⟩
        obtain ⟨hmb, _⟩ := look_goodM none ks vs deep _ hb
        obtain ⟨_, hsb⟩ := look_goodL l deep _ hmb
        have hw : (((s.part deep).want (shapeB k h t l'.length ks'.length vs'.length)).want (halfB h)).bad = false := by
          cases hg' with
          | mk shape half valid list rise vkeys vals => exact (Lk.want_bad _ _).2 ⟨(Lk.want_bad _ _).2 ⟨p0, shape⟩, half⟩
        obtain ⟨u1, u2⟩ := str_ok (s := ((s.part deep).want (shapeB k h t l'.length ks'.length vs'.length)).want (halfB h)) (s' := ((s'.part deep).want (shapeB k h t l.length ks.length vs.length)).want (halfB h)) t1 hw q1 hple p1 hsb
        obtain ⟨r1, _⟩ := Lk.str_in t1 (s := ((s'.part deep).want (shapeB k h t l.length ks.length vs.length)).want (halfB h)) p1 hsb
        obtain ⟨r2, _⟩ := Lk.str_in t1 (s := ((s.part deep).want (shapeB k h t l'.length ks'.length vs'.length)).want (halfB h)) q1 u1
        obtain ⟨l1, l2, l3⟩ := rest_lookL l l' hl deep _ _ t3 u1 r2 u2 r1 hmb
        have r3 := (look_upL l deep _ t3 r1 hmb).1
        exact rest_lookM ks vs ks' vs' hm none none deep _ _ t2 t4 (.inl rfl) l1 l2 l3 r3 hb
termination_by structural v => v
theorem rest_lookL : ∀ (l l' : List V), RestL l l' → ∀ (deep : Int) (s s' : Lk), (∀ x ∈ l, Tame x) → s.bad = false → s.in → s.le s' → s'.in → (lookL l deep s').bad = false → (lookL l' deep s).bad = false ∧ (lookL l' deep s).in ∧ (lookL l' deep s).le (lookL l deep s')
  | [], l', h, deep, s, s', _, h0, hs, hle, hi, hb => by
    rw [restL_nil h]
    unfold lookL
    exact ⟨h0, hs, hle⟩
  | v :: l, l', h, deep, s, s', ht, h0, hs, hle, hi, hb => by
    have ht' : ∀ x ∈ l, Tame x := fun x hx => ht x (List.mem_cons_of_mem _ hx)
    have hv := ht v (List.mem_cons_self ..)
    have hb2 := hb
    unfold lookL at hb2
    split at hb2
    · rename_i e
      rw [e] at hb2
      cases hb2
    · rename_i e
      have e1 : lookL (v :: l) deep s' = lookL l deep (lookV v (wrap64 (deep + 1)) s') := by rw [lookL, if_neg e]
      rw [e1]
      obtain ⟨_, hvb⟩ := look_goodL l deep _ hb2
      obtain ⟨a1, a2⟩ := look_up v _ s' hv hi hvb
      cases h with
      | drop h => exact rest_lookL l l' h deep s _ ht' h0 hs (Lk.le_trans hle a2) a1 hb2
      | @keep _ v' _ l2 hr h =>
        obtain ⟨c1, c2, c3⟩ := rest_look v v' hr _ s s' hv h0 hs hle hi hvb
        have e2 : lookL (v' :: l2) deep s = lookL l2 deep (lookV v' (wrap64 (deep + 1)) s) := by rw [lookL, if_neg (by simp [h0])]
        rw [e2]
        exact rest_lookL l l2 h deep _ _ ht' c1 c2 c3 a1 hb2
termination_by structural l => l
theorem rest_lookM : ∀ (ks : List ByteArray) (vs : List V) (ks' : List ByteArray) (vs' : List V), RestM ks vs ks' vs' → ∀ (p' p : Option ByteArray) (deep : Int) (s s' : Lk), (∀ x ∈ ks, x.size ≤ 140737488351232) → (∀ x ∈ vs, Tame x) → PrevOK p' p → s.bad = false → s.in → s.le s' → s'.in → (lookM p ks vs deep s').bad = false →
    (lookM p' ks' vs' deep s).bad = false ∧ (lookM p' ks' vs' deep s).in ∧ (lookM p' ks' vs' deep s).le (lookM p ks vs deep s')
  | ks, [], ks', vs', h, p', p, deep, s, s', _, _, _, h0, hs, hle, hi, hb => by
    cases h
    unfold lookM
    exact ⟨h0, hs, hle⟩
  | ks, v :: vs, ks', vs', h, p', p, deep, s, s', hk, ht, hp, h0, hs, hle, hi, hb => by
    have ht' : ∀ x ∈ vs, Tame x := fun x hx => ht x (List.mem_cons_of_mem _ hx)
    have hv := ht v (List.mem_cons_self ..)
    cases ks with
    | nil => cases h
    | cons k ks =>
      have hk' : ∀ x ∈ ks, x.size ≤ 140737488351232 := fun x hx => hk x (List.mem_cons_of_mem _ hx)
      have hkk := hk k (List.mem_cons_self ..)
      have hb2 := hb
      unfold lookM at hb2
      split at hb2
      · rename_i e
        rw [e] at hb2
        cases hb2
      · rename_i e
        have e1 : lookM p (k :: ks) (v :: vs) deep s' = lookM (some k) ks vs deep (lookV v (wrap64 (deep + 1)) ((s'.str k).want (riseB p k))) := by rw [lookM, if_neg e]
        rw [e1]
        obtain ⟨hvb, _⟩ := look_goodM (some k) ks vs deep _ hb2
        obtain ⟨_, hw⟩ := look_good v _ _ hvb
        obtain ⟨hw, hrise⟩ := (Lk.want_bad _ _).1 hw
        obtain ⟨q1, q2, _⟩ := Lk.str_in hkk hi hw
        obtain ⟨a1, a2⟩ := look_up v _ ((s'.str k).want (riseB p k)) hv q1 hvb
        cases h with
        | drop h => exact rest_lookM ks vs ks' vs' h p' (some k) deep s _ hk' ht' (hp.next hrise) h0 hs (Lk.le_trans hle (Lk.le_trans q2 a2)) a1 hb2
        | @keep _ _ v' _ ks2 _ vs2 hr h =>
          obtain ⟨u1, u2⟩ := str_ok hkk h0 hs hle hi hw
          obtain ⟨r2, _⟩ := Lk.str_in hkk hs u1
          have hw2 : ((s.str k).want (riseB p' k)).bad = false := (Lk.want_bad _ _).2 ⟨u1, hp.rise hrise⟩
          obtain ⟨c1, c2, c3⟩ := rest_look v v' hr _ ((s.str k).want (riseB p' k)) ((s'.str k).want (riseB p k)) hv hw2 r2 u2 q1 hvb
          have e2 : lookM p' (k :: ks2) (v' :: vs2) deep s = lookM (some k) ks2 vs2 deep (lookV v' (wrap64 (deep + 1)) ((s.str k).want (riseB p' k))) := by rw [lookM, if_neg (by simp [h0])]
          rw [e2]
          exact rest_lookM ks vs ks2 vs2 h (some k) (some k) deep _ _ hk' ht' (.inr ⟨k, k, rfl, rfl, .inl rfl⟩) c1 c2 c3 a1 hb2
termination_by structural _ vs => vs
end

/-- What is left of a value that fits does fit. -/
theorem rest_fit {v r : V} (h : Rest v r) (ht : Tame v) (hf : fitB v = true) : fitB r = true := by
  have := rest_look v r h 0 ⟨0, 0, false⟩ ⟨0, 0, false⟩ ht rfl ⟨by decide, by decide, by decide, by decide⟩ (Lk.le_refl _) ⟨by decide, by decide, by decide, by decide⟩ (by simpa [fitB] using hf)
  simpa [fitB] using this.1
end Go.Proofs.YtjlkoekfcdpnaaaGreatDoor
