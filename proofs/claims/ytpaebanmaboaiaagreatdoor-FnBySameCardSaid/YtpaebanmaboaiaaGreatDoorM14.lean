/- Contract of gojq.minMaxBy at two arrays of the same elements. -/
/- Rows of impl.Value of a call's own whose elements lie in memory that came in. No function is walked here. -/
/- Contract of gojq.uniqueBy at two arrays of the same elements. -/
/- Plain: the stable sort's row has each place once. No program in sight. -/
import Derived.Test.YtpaebanmaboaiaaGreatDoorM13
import Derived.Deep.QuietTactic
import Derived.BigQuiet
import Derived.Test.YtpaebanmaboaiaaGreatDoorM09
import Derived.Maps.AppendAt
import Derived.Deep.RegionLaw
import Derived.Deep.Cut
import Derived.Test.YtpaebanmaboaiaaGreatDoorM01
import Derived.Test.YtpaebanmaboaiaaGreatDoorM12
namespace Go.Proofs.YtpaebanmaboaiaaGreatDoor
open Go Go.RowKit Go.Maps Go.Deep
theorem jr_at {w0 w w' : World} {B : Nat} {l : List V} {a : Option Addr} {c : Nat} {f : Nat → Value} {F : Nat → Nat → Prop} (ax : ArrIn w0 B l a c f F) (hbel : Below B w0 w) (hB : B ≤ w.heap.size) (hb : Below w.heap.size w w') {i : Nat} (hi : i < l.length) :
    JR w (.fine (atV l i)) (f i) w' := by
  refine ⟨hb, fun y hy => ?_, fun h => by cases h⟩
  cases hy
  rw [atV_get hi]
  exact (ax.later (hbel.trans (hb.mono hB)) i hi).mono fun k hk => by
    have := ax.low i k hi hk
    have := hb.size
    omega
/-- The loop: places below i are through; j is the best. -/
def MinI (w : World) (l : List V) (least : Bool) (f' : Nat → Value) (vi vj vx : Value) (wr : World) : Prop :=
  ∃ i : Nat, vi = .int .i64 ((i : Int) + 1) ∧ vj = .int .i64 (mmG l least i) ∧ vx = f' (mmG l least i) ∧ i + 1 ≤ l.length ∧ Below w.heap.size w wr
set_option maxHeartbeats 4000000 in
set_option maxRecDepth 100000 in
theorem minMax_any {w0 : World} {B : Nat} {l : List V} (gl : ∀ x ∈ l, Good x) (sl : ∀ x ∈ l, Small x) {a a' : Option Addr} {c c' : Nat} {f f' : Nat → Value} {F F' : Nat → Nat → Prop} (ax : ArrIn w0 B l a c f F) (ay : ArrIn w0 B l a' c' f' F') (least : Bool)
    (w : World) (hbel : Below B w0 w) (hB : B ≤ w.heap.size) :
    Calls Tryz.prog 50 #[.slice a l.length c, .slice a' l.length c', .bool least] w (Ret (JR w (.fine (mmV l least)))) := by
  have hlen := ax.len
  have Hax := Lib.hid ax
  have Hay := Lib.hid ay
  have Hbel := Lib.hid hbel
  have Hg := Lib.hid gl
  have Hs := Lib.hid sl
  clear ax ay hbel gl sl
  by_cases h0 : l.length = 0
  · have Hfin : Hid (JR w (.fine (mmV l least)) .nilIface w) := Lib.hid ⟨Below.refl _ _, fun y hy => by
      cases hy
      unfold mmV
      rw [if_pos h0]
      exact .null _, fun h => by cases h⟩
    go_enter Tryz.func50, Tryz.ntmps50
    go_wp2_with fail
    go_ret
    exact ⟨_, rfl, Hfin.out⟩
  · obtain ⟨b1, o1, rfl, hb1, c1⟩ := Hax.out.cells (by omega)
    obtain ⟨b2, o2, rfl, hb2, c2⟩ := Hay.out.cells (by omega)
    have C1 := Lib.hid fun (wr : World) (hb : Below w.heap.size w wr) (i : Nat) (hi : i < l.length) => ((Hbel.out.trans (hb.mono hB)).cell (p := ⟨b1, o1 + i, none⟩) hb1).trans (c1 i hi)
    have C2 := Lib.hid fun (wr : World) (hb : Below w.heap.size w wr) (i : Nat) (hi : i < l.length) => ((Hbel.out.trans (hb.mono hB)).cell (p := ⟨b2, o2 + i, none⟩) hb2).trans (c2 i hi)
    clear c1 c2
    have y0 : w.cell? ⟨b2, o2, none⟩ = some (f' 0) := by have := C2.out w (Below.refl _ _) 0 (by omega); rwa [Nat.add_zero] at this
    have q0 := (Hay.out.rep 0 (by omega)).form
    have u0 : (0 : Int) < (l.length : Int) := by omega
    have e0 : mmG l least 0 = 0 := rfl
    have hb0 : Below w.heap.size w w.drew := Below.drew (Below.refl _ _)
    generalize hv0 : f' 0 = v0 at *
    have Hv0 := Lib.hid hv0
    clear hv0
    have u00 : ((l.length : Int) == 0) = false := by
      have : (l.length : Int) ≠ 0 := by omega
      simpa using this
    rcases q0 with rfl | ⟨t0, x0, rfl⟩
    all_goals
      go_enter Tryz.func50, Tryz.ntmps50
      go_wp2_with fail
      go_quiet (fail)
      go_wp2_with fail
      have hb1' : Below w.heap.size w (w.drewN nq) := ⟨rfl, rfl, rfl, Nat.le_refl _, fun _ _ => rfl⟩
      generalize w.drewN nq = W1 at *
      clear y0 hb0
      go_loopw [7, 8, 9] (fun vi vj vx wr => MinI w l least f' vi vj vx wr) (fun vi _ _ _ => l.length + 1 - (intOf vi).toNat)
      case atStart => exact ⟨0, by go_num, by rw [e0]; rfl, by rw [e0]; exact Hv0.out.symm, by omega, hb1'⟩
      case round =>
        obtain ⟨i, rfl, rfl, rfl, hi, hb⟩ := hrel
        have hs := hb.size
        have hjl : mmG l least i < l.length := by have := mmG_le l least i; omega
        by_cases hlt : i + 1 < l.length
        · have u1 : (i : Int) + 1 < (l.length : Int) := by omega
          have u3 : (0 : Int) ≤ (i : Int) + 1 := by omega
          have y2 := C2.out wr hb (i + 1) hlt
          have hC := Lib.hid (compare_any (Hg.out _ (List.getElem_mem hjl)) (Hs.out _ (List.getElem_mem hjl)) (Hg.out _ (List.getElem_mem hlt)) (Hs.out _ (List.getElem_mem hlt)) w0 B (F' (mmG l least i)) (F' (i + 1)) _ _ (Hay.out.rep _ hjl) (fun k hk => Hay.out.low _ k hjl hk) (Hay.out.rep _ hlt) (fun k hk => Hay.out.low _ k hlt hk) wr (Hbel.out.trans (hb.mono hB)) (by omega))
          have hst : mmG l least (i + 1) = if (decide (cmpV (atV l (mmG l least i)) (atV l (i + 1)) > 0) == least) = true then i + 1 else mmG l least i := rfl
          rw [atV_get hjl, atV_get hlt] at hst
          have q1 := (Hay.out.rep _ hjl).form
          have q2 := (Hay.out.rep _ hlt).form
          generalize cmpV l[mmG l least i] l[i + 1] = cc at *
          have Hst := Lib.hid hst
          have Hb := Lib.hid hb
          clear hst hb
          generalize hj : mmG l least i = j at *
          clear hj
          generalize hvx : f' j = vx at *
          generalize hvy : f' (i + 1) = vy at *
          have Hvx := Lib.hid hvx
          have Hvy := Lib.hid hvy
          clear hvx hvy
          by_cases hcc : 0 < cc
          · obtain ⟨nj, hnj, hK⟩ : ∃ nj, ((least = true ∧ nj = i + 1) ∨ (least = false ∧ nj = j)) ∧ mmG l least (i + 1) = nj := by
              cases least
              · exact ⟨j, .inr ⟨rfl, rfl⟩, by rw [Hst.out, if_neg (by simpa using hcc)]⟩
              · exact ⟨i + 1, .inl ⟨rfl, rfl⟩, by rw [Hst.out, if_pos (by simpa using hcc)]⟩
            have Kn := Lib.hid hK
            clear hK Hst
            have z1 : (decide (0 < cc)) = true := decide_eq_true hcc
            have z2 : (decide (0 < cc) == true) = true := by rw [z1]; rfl
            have z3 : (decide (0 < cc) == false) = false := by rw [z1]; rfl
            have z4 : (!decide (0 < cc)) = false := by rw [z1]; rfl
            rcases q1 with rfl | ⟨t1, x1, rfl⟩ <;> rcases q2 with rfl | ⟨t2, x2, rfl⟩ <;> rcases hnj with ⟨rfl, rfl⟩ | ⟨rfl, rfl⟩
            all_goals
              go_wp2_with fail
              refine hC.out.mono ?_
              clear hC
              rintro e w2 ⟨rfl, hb3⟩
              have y5 := C2.out w2 (below_next Hb.out hb3) (i + 1) hlt
              rw [Hvy.out] at y5
              have Hb3 := Lib.hid (below_next Hb.out hb3)
              clear hb3 y2
              go_wp2_with fail
              (try (go_quiet (fail); go_wp2_with fail))
              go_roundw
              case rel =>
                first
                  | exact ⟨i + 1, by go_num, by rw [Kn.out]; go_num, by rw [Kn.out]; exact Hvy.out.symm, by omega, Below.trans Hb3.out (Below.mono ⟨rfl, rfl, rfl, Nat.le_refl _, fun _ _ => rfl⟩ (Nat.le_refl _))⟩
                  | exact ⟨i + 1, by go_num, by rw [Kn.out], by rw [Kn.out]; exact Hvx.out.symm, by omega, Hb3.out⟩
              case measure => simp [intOf]; omega
          · obtain ⟨nj, hnj, hK⟩ : ∃ nj, ((least = false ∧ nj = i + 1) ∨ (least = true ∧ nj = j)) ∧ mmG l least (i + 1) = nj := by
              cases least
              · exact ⟨i + 1, .inl ⟨rfl, rfl⟩, by rw [Hst.out, if_pos (by simpa using hcc)]⟩
              · exact ⟨j, .inr ⟨rfl, rfl⟩, by rw [Hst.out, if_neg (by simpa using hcc)]⟩
            have Kn := Lib.hid hK
            clear hK Hst
            have z1 : (decide (0 < cc)) = false := decide_eq_false hcc
            have z2 : (decide (0 < cc) == true) = false := by rw [z1]; rfl
            have z3 : (decide (0 < cc) == false) = true := by rw [z1]; rfl
            have z4 : (!decide (0 < cc)) = true := by rw [z1]; rfl
            rcases q1 with rfl | ⟨t1, x1, rfl⟩ <;> rcases q2 with rfl | ⟨t2, x2, rfl⟩ <;> rcases hnj with ⟨rfl, rfl⟩ | ⟨rfl, rfl⟩
            all_goals
              go_wp2_with fail
              refine hC.out.mono ?_
              clear hC
              rintro e w2 ⟨rfl, hb3⟩
              have y5 := C2.out w2 (below_next Hb.out hb3) (i + 1) hlt
              rw [Hvy.out] at y5
              have Hb3 := Lib.hid (below_next Hb.out hb3)
              clear hb3 y2
              go_wp2_with fail
              (try (go_quiet (fail); go_wp2_with fail))
              go_roundw
              case rel =>
                first
                  | exact ⟨i + 1, by go_num, by rw [Kn.out]; go_num, by rw [Kn.out]; exact Hvy.out.symm, by omega, Below.trans Hb3.out (Below.mono ⟨rfl, rfl, rfl, Nat.le_refl _, fun _ _ => rfl⟩ (Nat.le_refl _))⟩
                  | exact ⟨i + 1, by go_num, by rw [Kn.out], by rw [Kn.out]; exact Hvx.out.symm, by omega, Hb3.out⟩
              case measure => simp [intOf]; omega
        · have u1 : ¬ (i : Int) + 1 < (l.length : Int) := by omega
          have ej : mmV l least = atV l (mmG l least i) := by
            unfold mmV
            rw [if_neg h0, show l.length - 1 = i by omega]
          have Hfin := Lib.hid (jr_at Hax.out Hbel.out hB hb hjl)
          rw [← ej] at Hfin
          have y1 := C1.out wr hb _ hjl
          have q1 := (Hax.out.rep _ hjl).form
          have Hb := Lib.hid hb
          clear hb ej
          generalize mmG l least i = j at *
          generalize f j = vj at *
          have u4 : (0 : Int) ≤ (j : Int) := by omega
          have u5 : (j : Int) < (l.length : Int) := by omega
          rcases q1 with rfl | ⟨t1, x1, rfl⟩
          all_goals
            go_wp2_with fail
            go_ret
            exact ⟨_, rfl, Hfin.out⟩
end Go.Proofs.YtpaebanmaboaiaaGreatDoor

namespace Go.Proofs.YtpaebanmaboaiaaGreatDoor
open Go Go.RowKit Go.Maps Go.Deep
def RowB (w : World) (B base : Nat) (v : Value) (l : List V) : Prop :=
  ∃ (C : Nat → List Value), w.ownsRow base 26 6 v l.length (flat C l.length) ∧ ∀ i (hi : i < l.length), RepV w B l[i] (C i)
theorem RowB.nil (w : World) (B base : Nat) : RowB w B base (.slice none 0 0) [] := ⟨fun _ => [], World.ownsRow_nil _ _ _ _, fun i hi => by simp at hi⟩
theorem kept_row0 {w w' : World} {base : Nat} {e : TypeId} {size : Nat} {v : Value} {n : Nat} {xs : List Value} (h : w.ownsRow base e size v n xs) (hg : w.grownBy w' none) : w'.ownsRow base e size v n xs := by
  refine h.kept hg ?_
  cases v.ownBlock <;> simp
theorem RowB.below {w w' : World} {B base : Nat} {v : Value} {l : List V} (h : RowB w B base v l) (hb : Below w.heap.size w w') (hB : B ≤ w.heap.size) : RowB w' B base v l := by
  obtain ⟨C, ho, hr⟩ := h
  exact ⟨C, kept_row0 ho (below_grown hb none), fun i hi => (hr i hi).carry (hb.mono hB) (Nat.le_refl _)⟩
theorem RowB.step {w w' : World} {B base : Nat} {v v' : Value} {l : List V} {x : V} {cs : List Value} {C : Nat → List Value}
    (hr : ∀ i (hi : i < l.length), RepV w B l[i] (C i)) (hx : RepV w B x cs) (hB : B ≤ base) (hB2 : B ≤ w.heap.size) (hv : ∀ g, v.ownBlock = some g → base ≤ g)
    (hown : w'.ownsRow base 26 6 v' (l.length + 1) (flat C l.length ++ cs)) (hg : w.grownBy w' v.ownBlock) : RowB w' B base v' (l ++ [x]) := by
  have hb : Below B w w' := (Below.refl B w).grown hg hB2 (fun q hq => by have := hv q hq; omega)
  refine ⟨fun i => if i < l.length then C i else cs, ?_, ?_⟩
  · rw [List.length_append, List.length_singleton]
    simp only [flat]
    rw [if_neg (by omega), flat_same (C' := C) (fun i hi => by rw [if_pos hi])]
    exact hown
  · intro i hi
    rw [List.length_append, List.length_singleton] at hi
    by_cases e : i < l.length
    · simp only [e, if_true]
      rw [List.getElem_append_left e]
      exact (hr i e).carry hb (Nat.le_refl _)
    · obtain rfl : i = l.length := by omega
      simp only [Nat.lt_irrefl, if_false]
      rw [List.getElem_append_right (by omega)]
      simp only [Nat.sub_self, List.getElem_cons_zero]
      exact hx.carry hb (Nat.le_refl _)
theorem RowB.parts {w : World} {B base : Nat} {v : Value} {l : List V} (h : RowB w B base v l) :
    ∃ (la : Option Addr) (lc : Nat) (C : Nat → List Value), v = .slice la l.length lc ∧
      (0 < l.length → ∃ b o, la = some ⟨b, o, none⟩ ∧ (base ≤ b ∧ b < w.heap.size) ∧ ∀ i, i < l.length → CellsAt w b (o + i * 6) (C i)) ∧
      (∀ i (hi : i < l.length), RepV w B l[i] (C i)) ∧ l.length ≤ lc := by
  obtain ⟨C, hown, hr⟩ := h
  have h6 : ∀ i, i < l.length → (C i).length = 6 := fun i hi => (hr i hi).toS.six
  rcases hown.2 with ⟨e, h0⟩ | ⟨g, cap, cur, e, hb, hg, hnc, _⟩
  · exact ⟨none, 0, C, by rw [e, h0], fun h => by omega, hr, by omega⟩
  · refine ⟨some ⟨g, 0, none⟩, cap, C, e, fun _ => ⟨g, 0, rfl, ⟨hb, (Array.getElem?_eq_some_iff.1 hg).1⟩, fun i hi j hj => ?_⟩, hr, hnc⟩
    have hj6 : j < 6 := by have := h6 i hi; omega
    have hc := hown.cells (g := g) (by rw [e]; rfl) (i * 6 + j) (C i)[j] (by rw [flat_get h6 i j hi hj6, List.getElem?_eq_getElem hj])
    rw [addr_add] at hc
    rw [Nat.zero_add]
    exact hc
theorem RowB.list {w : World} {B base : Nat} {v : Value} {l : List V} (h : RowB w B base v l) (hl : l.length * 104 ≤ 140737488351232) :
    ∃ la lc, v = .slice la l.length lc ∧ RepS w (fun k => k < B ∨ (base ≤ k ∧ k < w.heap.size)) (.mk 5 0 ⟨#[]⟩ l [] []) [.int .i64 5, .int .i64 0, .string ⟨#[]⟩, .slice la l.length lc, .slice none 0 0, .slice none 0 0] := by
  obtain ⟨la, lc, C, e, cl, rl, hlc⟩ := h.parts
  refine ⟨la, lc, e, .mk (ks := []) (vs := []) C C (by omega) (by omega) (Nat.zero_le _ : (⟨#[]⟩ : ByteArray).size ≤ _) hl (by simp) (by simp) (fun s hs => by simp at hs) (fun h0 => ?_) (fun i hi => (rl i hi).toS.mono fun k hk => .inl hk) (fun h => by simp at h) (fun h => by simp at h) (fun i hi => by simp at hi) hlc⟩
  obtain ⟨b, o, e, hb, hc⟩ := cl h0
  exact ⟨b, o, e, .inr hb, hc⟩
end Go.Proofs.YtpaebanmaboaiaaGreatDoor

namespace Go.Proofs.YtpaebanmaboaiaaGreatDoor
open Go Go.RowKit Go.Maps Go.Deep
/-- append to a row of the call's own, as one step of a region that draws. -/
theorem step_append_own {P : Program} {ops : Array Oper} {o : Oper} {a : Act} {w : World} {K : Act → World → Prop} {Q : Exit → Act → World → Prop} {E : Prop} (hgd : o.guard = none) (s x : Operand) (t : TypeId)
    (ho : o.op = .call { callee := .builtin .append, args := #[s, x], argTypes := #[t, t] })
    (base : Nat) (e : TypeId) (i : TypeInfo) (z : Value) (size bytes : Nat) (ht : P.underlying t = some (.slice e)) (hi : P.info? e = some i) (hz : i.zero = some z)
    (hsize : i.size = size) (hby : i.bytes = bytes) (hzs : z.cells.size = size) (hsz : 0 < size)
    (v : Value) (n : Nat) (xs : List Value) (hs : a.eval s = v) (hown : w.ownsRow base e size v n xs)
    (ad : Addr) (m c : Nat) (news : List Value) (hx : a.eval x = .slice (some ad) m c) (hl : news.length = m * size) (hnews : ∀ j u, news[j]? = some u → w.cell? (ad.add j) = some u) (h1 : ∀ u ∈ news, u.oneCell' = true)
    (h63 : n + m ≤ maxLen) (hbytes : (n + m) * bytes ≤ 140737488355328) (hbase : base ≤ w.heap.size)
    (h : ∀ v' w', w'.ownsRow base e size v' (n + m) (xs ++ news) → w.grownBy w' v.ownBlock → K (a.put o.dst v') w') :
    if Region.wanted o (yielded ops a.tmps) = true then Oper.wp P o a w K Q else E := by
  have hw : Region.wanted o (yielded ops a.tmps) = true := by simp [Region.wanted, hgd]
  rw [if_pos hw]
  obtain ⟨v', w', hr, h2, h3, _, _⟩ := run_append_own_at (P := P) w base t o.type e i z size bytes ht hi hz hsize hby hzs hsz v n xs hown ad m c news hl hnews h1 h63 hbytes hbase
  unfold Oper.wp execOp
  simp only [ho, resolve, invoke, builtin, Sem.run_bind, Sem.run_pure, Result.andThen_ok, List.map_toArray, List.map_cons, List.map_nil, hs, hx, hr]
  exact h _ _ h2 h3
/-- The loop: k items are through. -/
def UniqI (_ : World) (l : List V) (f f' : Nat → Value) (w2 : World) (v rs last : Value) (wr : World) : Prop :=
  ∃ k : Nat, v = .int .i64 k ∧ k ≤ l.length ∧ wr.ownsRow w2.heap.size 20 1 rs (uqG (eqV l) (ordR l) k).1.length ((uqG (eqV l) (ordR l) k).1.map f) ∧ (∃ a n c, rs = .slice (some a) n c) ∧
    (0 < k → last = f' (uqG (eqV l) (ordR l) k).2) ∧ (k = 0 → last = .nilIface) ∧ Below w2.heap.size w2 wr
/-- The row of the kept, as an array. -/
theorem uniq_jr {w0 w w' : World} {B : Nat} {l : List V} {a : Option Addr} {c : Nat} {f : Nat → Value} {F : Nat → Nat → Prop} (ax : ArrIn w0 B l a c f F) (hbel : Below B w0 w) (hB : B ≤ w.heap.size) {q : List Nat} (hq : Places l.length q) (hb : Below w.heap.size w w') {base : Nat} (hbase : w.heap.size ≤ base)
    {ra : Addr} {rn rc : Nat} (h : w'.ownsRow base 20 1 (.slice (some ra) rn rc) q.length (q.map f)) : JR w (.fine (pickV l q)) (.iface 49 (.slice (some ra) rn rc)) w' := by
  rcases h.2 with ⟨e, _⟩ | ⟨g, cap, cur, e, hg, hat, hn, hcap, hcs, htk⟩
  · cases e
  · cases e
    refine pick_jr ax hbel hB hq hb (Nat.le_trans hbase hg) (N := rc) (g := fun i => cur[i]?.getD .nilIface) ⟨cur, hat, by omega, fun i hi => ?_⟩ hn (fun i hi => ?_) hn (by unfold capMax; unfold maxLen at hcap; exact hcap)
    · show cur[i]? = some (cur[i]?.getD .nilIface)
      rw [Array.getElem?_eq_getElem (by omega)]
      rfl
    · have h1 : (cur.toList.take (q.length * 1))[i]? = (q.map f)[i]? := by rw [htk]
      rw [List.getElem?_take, if_pos (by omega), List.getElem?_map, List.getElem?_eq_getElem hi, Array.getElem?_toList] at h1
      rw [h1]
      rfl
theorem UniqI.drew {w : World} {l : List V} {f f' : Nat → Value} {w2 : World} {v rs last : Value} {wr : World} (h : UniqI w l f f' w2 v rs last wr) : UniqI w l f f' w2 v rs last wr.drew := by
  obtain ⟨k, h1, h2, h3, h4, h5, h6, h7⟩ := h
  exact ⟨k, h1, h2, h3, h4, h5, h6, h7.drew⟩
/-- One more is kept. -/
theorem UniqI.push {w : World} {l : List V} {f f' : Nat → Value} {w2 wr w5 : World} {k : Nat} {un : List Nat × Nat} {rs v' x y : Value} {pr : Nat} (hx : f (ordR l k) = x) (hy : f' (ordR l k) = y) (hk : k < l.length) (hu : uqG (eqV l) (ordR l) (k + 1) = (un.1 ++ [ordR l k], ordR l k))
    (hrs : wr.ownsRow w2.heap.size 20 1 rs un.1.length (un.1.map f)) (hb : Below w2.heap.size w2 wr) (hpr : pr < w2.heap.size) (hc : wr.cell? ⟨pr, 1, none⟩ = some y)
    (ho : w5.ownsRow w2.heap.size 20 1 v' (un.1.length + 1) (un.1.map f ++ [x])) (hg : (wr.alloc (.cells #[x] 20)).grownBy w5 rs.ownBlock) :
    w5.cell? ⟨pr, 1, none⟩ = some y ∧ UniqI w l f f' w2 (.int .i64 ((k : Int) + 1)) v' y w5 := by
  subst hx
  subst hy
  have hbn := below_alloc1 wr (.cells #[f (ordR l k)] 20)
  have hob : ∀ g, rs.ownBlock = some g → w2.heap.size ≤ g := fun g hg => (hrs.lt g hg).1
  have hsz := hb.size
  have hb5 : Below w2.heap.size wr w5 := (hbn.mono hsz).grown hg (by have := hbn.size; omega) fun q hq => hob q hq
  refine ⟨(hb5.cell (p := ⟨pr, 1, none⟩) hpr).trans hc, k + 1, by go_num, hk, ?_, ?_, fun _ => by rw [hu], fun h => by omega, hb.trans hb5⟩
  · rw [hu]
    simpa using ho
  · rcases ho.2 with ⟨_, h0⟩ | ⟨g, cap, cur, hv, _⟩
    · omega
    · exact ⟨_, _, _, hv⟩
set_option maxHeartbeats 4000000 in
set_option maxRecDepth 100000 in
theorem uniqueBy_any {w0 : World} {B : Nat} {l : List V} (gl : ∀ x ∈ l, Good x) (sl : ∀ x ∈ l, Small x) {a a' : Option Addr} {c c' : Nat} {f f' : Nat → Value} {F F' : Nat → Nat → Prop} (ax : ArrIn w0 B l a c f F) (ay : ArrIn w0 B l a' c' f' F') (s : ByteArray)
    (w : World) (hbel : Below B w0 w) (hB : B ≤ w.heap.size) :
    Calls Tryz.prog 49 #[.string s, .iface 49 (.slice a l.length c), .iface 49 (.slice a' l.length c')] w (Ret (JR w (.fine (pickV l (uniqQ l))))) := by
  have hC := Lib.hid (sortItems_any gl sl ax ay s w hbel hB)
  have hlen := ax.len
  obtain ⟨i0, hi, hz0, hz1, hz2⟩ : ∃ i0, Tryz.prog.info? 20 = some i0 ∧ i0.zero = some .nilIface ∧ i0.size = 1 ∧ i0.bytes = 16 := ⟨(Tryz.prog.info? 20).get (by kernel_rfl), by kernel_rfl, by kernel_rfl, by kernel_rfl, by kernel_rfl⟩
  have Hax := Lib.hid ax
  have Hay := Lib.hid ay
  have Hbel := Lib.hid hbel
  have Hg := Lib.hid gl
  have Hs := Lib.hid sl
  clear ax ay hbel gl sl
  go_enter Tryz.func49, Tryz.ntmps49
  go_wp2_with fail
  refine hC.out.mono ?_
  clear hC
  rintro e w2 ⟨ib, p, rfl, hib, hibs, hit, hrow, hp, hb2⟩
  have Hit := Lib.hid hit
  have Hb2 := Lib.hid hb2
  have Hp := Lib.hid hp
  have Hrow := Lib.hid hrow
  clear hit hb2 hp hrow
  go_wp2_with fail
  have hat := at_alloc w2 (.cells #[] 20)
  have hb3 := below_alloc1 w2 (.cells #[] 20)
  have hr0 : (w2.alloc (.cells #[] 20)).ownsRow w2.heap.size 20 1 (.slice (some ⟨w2.heap.size, 0, none⟩) 0 0) 0 [] := ⟨rfl, .inr ⟨w2.heap.size, 0, #[], rfl, Nat.le_refl _, hat, Nat.le_refl _, Nat.zero_le _, rfl, rfl⟩⟩
  generalize w2.alloc _ = w3 at *
  go_loopw [26, 9, 10] (fun v rs last wr => UniqI w l f f' w2 v rs last wr) (fun v _ _ _ => l.length - (intOf v).toNat)
  case atStart => exact ⟨0, by go_num, Nat.zero_le _, hr0, ⟨_, _, _, rfl⟩, fun h => by omega, fun _ => rfl, hb3⟩
  case round =>
    obtain ⟨k, rfl, hk, hrs, ⟨ra, rn, rc, rfl⟩, hlast, hfirst, hb⟩ := hrel
    have hs := hb.size
    by_cases hlt : k < l.length
    · have u1 : (k : Int) < (l.length : Int) := by omega
      have u3 : (0 : Int) ≤ (k : Int) := by omega
      have hpk := Hp.out.1 k hlt
      have y1 := (Hrow.out.of_block (hb.block ib hibs)).cell hlt
      obtain ⟨_, h2, h3⟩ := Hit.out (ordR l k) hpk
      have y2 := (item_cells ((hb.block _ h2).trans h3)).1
      have y3 := (item_cells ((hb.block _ h2).trans h3)).2
      have q1 := (Hax.out.rep _ hpk).form
      have hql := uqG_len (eqV l) (ordR l) k
      have hls : 0 < k → (uqG (eqV l) (ordR l) k).2 < l.length := fun h => uqG_last Hp.out k h (by omega)
      have hN : (k = 0 ∨ ¬ cmpV (atV l (uqG (eqV l) (ordR l) k).2) (atV l (ordR l k)) = 0) → uqG (eqV l) (ordR l) (k + 1) = ((uqG (eqV l) (ordR l) k).1 ++ [ordR l k], ordR l k) := fun h => by
        rw [uqG, if_pos]
        rcases h with h | h
        · exact .inl h
        · exact .inr (decide_eq_false h)
      have hO : ¬ k = 0 → cmpV (atV l (uqG (eqV l) (ordR l) k).2) (atV l (ordR l k)) = 0 → uqG (eqV l) (ordR l) (k + 1) = uqG (eqV l) (ordR l) k := fun h0 h => by
        rw [uqG, if_neg]
        rintro (h1 | h1)
        · exact h0 h1
        · exact absurd h (of_decide_eq_false h1)
      have hK : 0 < k → CmpAt w0 B (f' (uqG (eqV l) (ordR l) k).2) (f' (ordR l k)) (cmpV (atV l (uqG (eqV l) (ordR l) k).2) (atV l (ordR l k))) := fun h => by
        have hl := hls h
        rw [atV_get hl, atV_get hpk]
        exact compare_any (Hg.out _ (List.getElem_mem hl)) (Hs.out _ (List.getElem_mem hl)) (Hg.out _ (List.getElem_mem hpk)) (Hs.out _ (List.getElem_mem hpk)) w0 B _ _ _ _ (Hay.out.rep _ hl) (fun q hq => Hay.out.low _ q hl hq) (Hay.out.rep _ hpk) (fun q hq => Hay.out.low _ q hpk hq)
      generalize uqG (eqV l) (ordR l) k = un at *
      generalize cmpV (atV l un.2) (atV l (ordR l k)) = cc at *
      have HK := Lib.hid hK
      have HN := Lib.hid hN
      have HO := Lib.hid hO
      have Hrs := Lib.hid hrs
      have Hla := Lib.hid hlast
      have Hb := Lib.hid hb
      have hbB : Below B w0 wr := Hbel.out.trans ((Hb2.out.mono hB).trans (hb.mono (by have := Hb2.out.size; omega)))
      have HbB := Lib.hid hbB
      have H2 := Lib.hid h2
      clear hls h3 hK hN hO hrs hb hbB h2
      generalize hvx : f (ordR l k) = vx at *
      generalize hvy : f' (ordR l k) = vy at *
      have Hvx := Lib.hid hvx
      have Hvy := Lib.hid hvy
      clear hvx hvy
      have hpl : p (ordR l k) < wr.heap.size := by have := H2.out; have := Hb.out.size; omega
      by_cases hk0 : k = 0
      · subst hk0
        have hl0 := hfirst rfl
        subst hl0
        clear hlast hfirst HK HO
        rcases q1 with rfl | ⟨t1, x1, rfl⟩
        · have hbn := below_alloc1 wr (.cells #[.nilIface] 20)
          have hown := kept_row0 Hrs.out (below_grown hbn none)
          have hnews := cells_new wr [.nilIface] 20
          have hsn := hbn.size
          have hbs := Below.size Hb.out
          have Hnx := Lib.hid fun v' w5 ho hg => UniqI.push (w := w) (v' := v') (w5 := w5) Hvx.out Hvy.out hlt (HN.out (.inl rfl)) Hrs.out Hb.out H2.out y3 ho hg
          go_upto_region 10 with fail
          go_region_law (refine step_append_own rfl (.tmp 42) (.tmp 47) 49 rfl w2.heap.size 20 i0 _ 1 16 Tryz.underlying49 hi hz0 hz1 hz2 rfl (by decide) (.slice (some ra) rn rc) _ _ rfl hown _ 1 1 _ rfl rfl hnews (by intro u hu; simp at hu; subst hu; rfl) (by unfold maxLen; omega) (by omega) (by show w2.heap.size ≤ (World.alloc _ _).heap.size; omega) ?_; intro v' w5 hown5 hg5; obtain ⟨y5, hU⟩ := Hnx.out v' w5 hown5 ⟨hg5.os, hg5.tape, hg5.output, hg5.size, fun k h hr => hg5.block k h hr⟩; have HU := Lib.hid hU; clear hU)
          all_goals
            go_wp2_with fail
            exact ⟨by first | exact HU.out | exact HU.out.drew, by simp [intOf]; omega⟩
        · have hbn := below_alloc1 wr (.cells #[.iface t1 x1] 20)
          have hown := kept_row0 Hrs.out (below_grown hbn none)
          have hnews := cells_new wr [.iface t1 x1] 20
          have hsn := hbn.size
          have hbs := Below.size Hb.out
          have Hnx := Lib.hid fun v' w5 ho hg => UniqI.push (w := w) (v' := v') (w5 := w5) Hvx.out Hvy.out hlt (HN.out (.inl rfl)) Hrs.out Hb.out H2.out y3 ho hg
          go_upto_region 10 with fail
          go_region_law (refine step_append_own rfl (.tmp 42) (.tmp 47) 49 rfl w2.heap.size 20 i0 _ 1 16 Tryz.underlying49 hi hz0 hz1 hz2 rfl (by decide) (.slice (some ra) rn rc) _ _ rfl hown _ 1 1 _ rfl rfl hnews (by intro u hu; simp at hu; subst hu; rfl) (by unfold maxLen; omega) (by omega) (by show w2.heap.size ≤ (World.alloc _ _).heap.size; omega) ?_; intro v' w5 hown5 hg5; obtain ⟨y5, hU⟩ := Hnx.out v' w5 hown5 ⟨hg5.os, hg5.tape, hg5.output, hg5.size, fun k h hr => hg5.block k h hr⟩; have HU := Lib.hid hU; clear hU)
          all_goals
            go_wp2_with fail
            exact ⟨by first | exact HU.out | exact HU.out.drew, by simp [intOf]; omega⟩
      · have hl1 := hlast (by omega)
        have HC := Lib.hid (HK.out (by omega) wr HbB.out (by have := Hb2.out.size; have := Hb.out.size; omega))
        subst hl1
        clear hfirst HK hlast
        have u5 : ((k : Int) == 0) = false := by
          have : (k : Int) ≠ 0 := by omega
          simpa using this
        by_cases hcc : cc = 0
        · have hO := HO.out hk0 hcc
          have HO := Lib.hid hO
          clear hO
          go_wp2_with fail
          refine HC.out.mono ?_
          clear HC
          rintro e w4 ⟨rfl, hb4⟩
          rw [hcc]
          have Hfin : Hid (UniqI w l f f' w2 (.int .i64 ((k : Int) + 1)) (.slice (some ra) rn rc) (f' un.2) w4) := Lib.hid
            ⟨k + 1, by go_num, hlt, by rw [HO.out]; exact kept_row0 Hrs.out (below_grown hb4 none), ⟨_, _, _, rfl⟩, fun _ => by rw [HO.out], fun h => by omega, Hb.out.trans (hb4.mono Hb.out.size)⟩
          clear hb4
          go_wp2_with fail
          exact ⟨Hfin.out, by simp [intOf]; omega⟩
        · have hne : (cc != 0) = true := by simpa using hcc
          have hne2 : (cc == 0) = false := by simpa using hcc
          rcases q1 with rfl | ⟨t1, x1, rfl⟩
          · go_wp2_with fail
            refine HC.out.mono ?_
            clear HC
            rintro e w4 ⟨rfl, hb4⟩
            have hs4 := hb4.size
            have y3' := (hb4.cell (p := ⟨p (ordR l k), 1, none⟩) hpl).trans y3
            have y2' := (hb4.cell (p := ⟨p (ordR l k), 0, none⟩) hpl).trans y2
            have hpl4 : p (ordR l k) < w4.heap.size := by omega
            have Hrs4 := Lib.hid (kept_row0 Hrs.out (below_grown hb4 none))
            have Hb4 := Lib.hid (Hb.out.trans (hb4.mono Hb.out.size))
            clear hb4 y1 y2 y3
            have hbn := below_alloc1 w4 (.cells #[.nilIface] 20)
            have hown := kept_row0 Hrs4.out (below_grown hbn none)
            have hnews := cells_new w4 [.nilIface] 20
            have hsn := hbn.size
            have hbs := Below.size Hb4.out
            have Hnx := Lib.hid fun v' w5 ho hg => UniqI.push (w := w) (v' := v') (w5 := w5) Hvx.out Hvy.out hlt (HN.out (.inr hcc)) Hrs4.out Hb4.out H2.out y3' ho hg
            go_upto_region 10 with fail
            go_region_law (refine step_append_own rfl (.tmp 42) (.tmp 47) 49 rfl w2.heap.size 20 i0 _ 1 16 Tryz.underlying49 hi hz0 hz1 hz2 rfl (by decide) (.slice (some ra) rn rc) _ _ rfl hown _ 1 1 _ rfl rfl hnews (by intro u hu; simp at hu; subst hu; rfl) (by unfold maxLen; omega) (by omega) (by show w2.heap.size ≤ (World.alloc _ _).heap.size; omega) ?_; intro v' w5 hown5 hg5; obtain ⟨y5, hU⟩ := Hnx.out v' w5 hown5 ⟨hg5.os, hg5.tape, hg5.output, hg5.size, fun k h hr => hg5.block k h hr⟩; have HU := Lib.hid hU; clear hU)
            all_goals
              go_wp2_with fail
              exact ⟨by first | exact HU.out | exact HU.out.drew, by simp [intOf]; omega⟩
          · go_wp2_with fail
            refine HC.out.mono ?_
            clear HC
            rintro e w4 ⟨rfl, hb4⟩
            have hs4 := hb4.size
            have y3' := (hb4.cell (p := ⟨p (ordR l k), 1, none⟩) hpl).trans y3
            have y2' := (hb4.cell (p := ⟨p (ordR l k), 0, none⟩) hpl).trans y2
            have hpl4 : p (ordR l k) < w4.heap.size := by omega
            have Hrs4 := Lib.hid (kept_row0 Hrs.out (below_grown hb4 none))
            have Hb4 := Lib.hid (Hb.out.trans (hb4.mono Hb.out.size))
            clear hb4 y1 y2 y3
            have hbn := below_alloc1 w4 (.cells #[.iface t1 x1] 20)
            have hown := kept_row0 Hrs4.out (below_grown hbn none)
            have hnews := cells_new w4 [.iface t1 x1] 20
            have hsn := hbn.size
            have hbs := Below.size Hb4.out
            have Hnx := Lib.hid fun v' w5 ho hg => UniqI.push (w := w) (v' := v') (w5 := w5) Hvx.out Hvy.out hlt (HN.out (.inr hcc)) Hrs4.out Hb4.out H2.out y3' ho hg
            go_upto_region 10 with fail
            go_region_law (refine step_append_own rfl (.tmp 42) (.tmp 47) 49 rfl w2.heap.size 20 i0 _ 1 16 Tryz.underlying49 hi hz0 hz1 hz2 rfl (by decide) (.slice (some ra) rn rc) _ _ rfl hown _ 1 1 _ rfl rfl hnews (by intro u hu; simp at hu; subst hu; rfl) (by unfold maxLen; omega) (by omega) (by show w2.heap.size ≤ (World.alloc _ _).heap.size; omega) ?_; intro v' w5 hown5 hg5; obtain ⟨y5, hU⟩ := Hnx.out v' w5 hown5 ⟨hg5.os, hg5.tape, hg5.output, hg5.size, fun k h hr => hg5.block k h hr⟩; have HU := Lib.hid hU; clear hU)
            all_goals
              go_wp2_with fail
              exact ⟨by first | exact HU.out | exact HU.out.drew, by simp [intOf]; omega⟩
    · have u1 : ¬ (k : Int) < (l.length : Int) := by omega
      obtain rfl : k = l.length := by omega
      have hbw : Below w.heap.size w wr := Hb2.out.trans (hb.mono Hb2.out.size)
      have hq : Places l.length (uniqQ l) := uqG_places Hp.out _ _ (Nat.le_refl _)
      have hrs' : wr.ownsRow w2.heap.size 20 1 (.slice (some ra) rn rc) (uniqQ l).length ((uniqQ l).map f) := hrs
      have Hfin : Hid (JR w (.fine (pickV l (uniqQ l))) (.iface 49 (.slice (some ra) rn rc)) wr) := Lib.hid (uniq_jr Hax.out Hbel.out hB hq hbw Hb2.out.size hrs')
      clear hrs hrs' hb hbw
      go_wp2_with fail
      go_ret
      exact ⟨_, rfl, Hfin.out⟩
end Go.Proofs.YtpaebanmaboaiaaGreatDoor

namespace Go.Proofs.YtpaebanmaboaiaaGreatDoor
section
variable {lt : Nat → Nat → Bool} {n : Nat}
theorem perm_insJ {a : Nat} : ∀ (j : Nat) (r : Row), PermN n r → j < n → PermN n (insJ lt a j r)
  | 0, _, h, _ => h
  | j + 1, r, h, hj => by
    rw [insJ]
    split
    · exact perm_insJ j _ (h.swp hj (by omega)) (by omega)
    · exact h
theorem perm_insI {a b : Nat} (hb : b ≤ n) (i : Nat) (r : Row) (h : PermN n r) : PermN n (insI lt a b i r) := by
  by_cases hi : i < b
  · rw [insI.eq_def, if_pos hi]
    exact perm_insI hb (i + 1) _ (perm_insJ i r h (by omega))
  · rw [insI.eq_def, if_neg hi]
    exact h
termination_by b - i
theorem perm_shUp {i : Nat} (hi : i ≤ n) (k : Nat) (r : Row) (h : PermN n r) : PermN n (shUp i k r) := by
  by_cases hk : k + 1 < i
  · rw [shUp_go hk]
    exact perm_shUp hi (k + 1) _ (h.swp (by omega) (by omega))
  · rw [shUp_end hk]
    exact h
termination_by i - k
theorem perm_shDn {i : Nat} : ∀ (k : Nat) (r : Row), PermN n r → k < n → PermN n (shDn i k r)
  | 0, _, h, _ => h
  | k + 1, r, h, hk => by
    rw [shDn]
    split
    · exact perm_shDn k _ (h.swp hk (by omega)) (by omega)
    · exact h
theorem perm_swR {a b k : Nat} (ha : a + k ≤ n) (hb : b + k ≤ n) (i : Nat) (r : Row) (h : PermN n r) : PermN n (swR a b k i r) := by
  by_cases hi : i < k
  · rw [swR_go hi]
    exact perm_swR ha hb (i + 1) _ (h.swp (by omega) (by omega))
  · rw [swR_end hi]
    exact h
termination_by k - i
theorem perm_rotR {m : Nat} (i j : Nat) (r : Row) (hi0 : 0 < i) (hj0 : 0 < j) (hi : i ≤ m) (hj : m + j ≤ n) (h : PermN n r) : PermN n (rotR m i j r) := by
  by_cases e : i = j
  · subst e
    rw [rotR_end]
    exact perm_swR (by omega) (by omega) 0 _ h
  · by_cases hg : j < i
    · rw [rotR_gt hj0 hg]
      exact perm_rotR (i - j) j _ (by omega) hj0 (by omega) hj (perm_swR (by omega) (by omega) 0 _ h)
    · rw [rotR_lt hi0 (by omega)]
      exact perm_rotR i (j - i) _ hi0 (by omega) hi (by omega) (perm_swR (by omega) (by omega) 0 _ h)
termination_by i + j
theorem perm_symM : ∀ (f a m b : Nat) (r : Row), PermN n r → a < m → m < b → b ≤ n → PermN n (symM lt f a m b r)
  | 0, _, _, _, _, h, _, _, _ => h
  | f + 1, a, m, b, r, h, ha, hb, hn => by
    by_cases h1 : m = a + 1
    · subst h1
      rw [symM_up]
      have := bsW_in (fun h => lt (r h) (r a)) (a + 1) b (by omega)
      exact perm_shUp (by omega) _ _ h
    · by_cases h2 : b = m + 1
      · subst h2
        rw [symM_dn h1]
        exact perm_shDn _ _ h (by omega)
      · obtain ⟨s1, s2, s3, s4, s5⟩ := stW_in (lt := lt) (a := a) (m := m) (b := b) r ha hb h1 h2
        have p1 : PermN n (sy1 lt a m b r) := by
          unfold sy1
          split
          · exact perm_rotR _ _ _ (by omega) (by omega) (by omega) (by omega) h
          · exact h
        have p2 : PermN n (sy2 lt f a m b r) := by
          unfold sy2
          split
          · rename_i hc
            exact perm_symM f _ _ _ _ p1 hc.1 hc.2 (by omega)
          · exact p1
        rw [symM_mid h1 h2]
        split
        · rename_i hc
          exact perm_symM f _ _ _ _ p2 hc.1 hc.2 hn
        · exact p2
theorem perm_stb1 (a : Nat) (r : Row) (h : PermN n r) : PermN n (stb1 lt n a r) := by
  by_cases ha : a + 20 ≤ n
  · rw [stb1_go ha]
    exact perm_stb1 (a + 20) _ (perm_insI ha _ _ h)
  · rw [stb1_end ha]
    exact perm_insI (Nat.le_refl _) _ _ h
termination_by n - a
theorem perm_mrgI {bs : Nat} (hb : 0 < bs) (a : Nat) (r : Row) (h : PermN n r) : PermN n (mrgI lt n bs a r) := by
  by_cases ha : a + 2 * bs ≤ n
  · rw [mrgI_go ha hb]
    exact perm_mrgI hb (a + 2 * bs) _ (perm_symM _ _ _ _ _ h (by omega) (by omega) ha)
  · by_cases h2 : a + bs < n
    · rw [mrgI_last ha h2]
      exact perm_symM _ _ _ _ _ h (by omega) h2 (Nat.le_refl _)
    · rw [mrgI_end ha h2]
      exact h
termination_by n - a
theorem perm_stb2 (bs : Nat) (r : Row) (hb : 0 < bs) (h : PermN n r) : PermN n (stb2 lt n bs r) := by
  by_cases ha : bs < n
  · rw [stb2_go hb ha]
    exact perm_stb2 (2 * bs) _ (by omega) (perm_mrgI hb 0 _ h)
  · rw [stb2_end ha]
    exact h
termination_by n - bs
theorem perm_stable (r : Row) (h : PermN n r) : PermN n (stable lt n r) := perm_stb2 20 _ (by decide) (perm_stb1 0 r h)
end
theorem ordR_perm (l : List V) : PermN l.length (ordR l) := perm_stable _ (permN_id _)
theorem sortQ_places (l : List V) : Places l.length (sortQ l) := places_of (ordR_perm l)
theorem uniqQ_places (l : List V) : Places l.length (uniqQ l) := uqG_places (ordR_perm l) _ _ (Nat.le_refl _)
end Go.Proofs.YtpaebanmaboaiaaGreatDoor
