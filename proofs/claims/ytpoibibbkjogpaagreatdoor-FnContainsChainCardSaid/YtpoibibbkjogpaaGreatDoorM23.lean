/- Callback of gojq.funcContains at maps: each element of the second is in the first one's element of that key. -/
/- Plain: the kind of a tree of Go's, and the numbers in it. -/
/- Contract of gojq.funcContains: a value contains what is left of it. -/
/- Contract of impl.Contains where the second is what is left of the first. -/
/- For the laws on contains: what a region that deletes some parts of a value leaves; yes. -/
/- laws.yes. -/
import Derived.Test.YtpoibibbkjogpaaGreatDoorM22
import Derived.Test.YtpoibibbkjogpaaGreatDoorM19
import Derived.Sort.KeysCollected
import Derived.Maps.RangeWalk
import Derived.Test.YtpoibibbkjogpaaGreatDoorM03
import Derived.Test.YtpoibibbkjogpaaGreatDoorM01
import Derived.Test.YtpoibibbkjogpaaGreatDoorM02
import Derived.Test.YtpoibibbkjogpaaGreatDoorM09
import Derived.Test.YtpoibibbkjogpaaGreatDoorM16
import Derived.Test.YtpoibibbkjogpaaGreatDoorM20
import Derived.Test.YtpoibibbkjogpaaGreatDoorM21
namespace Go.Proofs.YtpoibibbkjogpaaGreatDoor
open Go Go.RowKit Go.Maps Go.Deep Go.WideMaps

theorem entries_at {m : List (ByteArray × J)} {E : Nat → Value} (ha : Apart m) {x : List UInt8} {c : Value} (h : ∀ z, (DataW.map (entries m E)).atKey (.string x) z = .held c) : ∃ i, ∃ hi : i < m.length, encStr x = .string m[i].1 ∧ E i = c := by
  by_cases hx : ∃ i, ∃ hi : i < m.length, m[i].1.data.toList = x
  · obtain ⟨i, hi, rfl⟩ := hx
    have := h .nil
    rw [atKey_at ha hi] at this
    injection this with this
    exact ⟨i, hi, by simp [encStr], this⟩
  · have := h .nil
    have hk := atKey_miss (m := m) (E := E) (k := ⟨x.toArray⟩) (fun p hp e => by
      obtain ⟨i, hi, rfl⟩ := List.mem_iff_getElem.1 hp
      exact hx ⟨i, hi, by rw [e]⟩) .nil
    have e : (⟨x.toArray⟩ : ByteArray).data.toList = x := rfl
    rw [e] at hk
    rw [hk] at this
    cases this

theorem neq_err (t : TypeId) (v : Value) (ht : t ≠ 4) (w : World) : (binOp .neq 20 (.iface t v) (.iface 4 (.bool true))).run Tryz.prog w = .ok (.bool true) w := by
  have h : (Op.equalIn 10000 20 (.iface t v) (.iface 4 (.bool true))).run Tryz.prog w = .ok false w := by
    rw [show (10000 : Nat) = 9999 + 1 from rfl, Op.equalIn]
    simp [run_underlying Tryz.underlying20, Result.andThen, ht]
  show (Sem.run Tryz.prog ((Op.equalIn 10000 20 (.iface t v) (.iface 4 (.bool true))) >>= fun b => pure (Value.bool (!b))) w) = _
  simp [h, Result.andThen]

def MapsIn (m m' : List (ByteArray × J)) (P : Nat → Nat → Prop) : Prop := m'.length ≤ m.length ∧ ∀ j (hj : j < m'.length), ∃ i, ∃ hi : i < m.length, m[i].1 = m'[j].1 ∧ P i j
def ContLoop (w : World) (r n : Nat) (m : List (ByteArray × J)) (E : Nat → Value) (wr : World) : Prop :=
  ∃ left cnt, wr.ranges Tryz.prog 9 heldR r w.heap.size n (.map (entries m E)) left cnt ∧ Below w.heap.size w wr

set_option maxHeartbeats 4000000 in
set_option maxRecDepth 100000 in
theorem cont_maps (w0 : World) (B : Nat) (m m' : List (ByteArray × J)) (r r' : Nat) (E E' : Nat → Value) (hm : MapAt w0 r m E) (hm' : MapAt w0 r' m' E') (hr : r < B) (hr' : r' < B) (ha : Apart m) (ha' : Apart m') (hs : ∀ p ∈ m, p.1.size ≤ 140737488351232) (hs' : ∀ p ∈ m', p.1.size ≤ 140737488351232)
    (of1 : ∀ i, i < m.length → IsI (E i)) (of2 : ∀ i, i < m'.length → IsI (E' i)) (P : Nat → Nat → Prop)
    (hC : ∀ i j, i < m.length → j < m'.length → ContC w0 B (E i) (E' j) (P i j)) (w : World) (hbel : Below B w0 w) (hB : B ≤ w.heap.size) :
    Calls Tryz.prog 56 #[.map (some r), .map (some r')] w (Ret (ContR w (MapsIn m m' P))) := by
  have Hm := Lib.hid hm; clear hm
  have Hbel := Lib.hid hbel
  have hmw : MapAt w r m E := Hm.out.carry (hbel.block r hr)
  have hmw' : MapAt w r' m' E' := hm'.carry (hbel.block r' hr')
  have hln := hmw.len
  have hln' := hmw'.len
  obtain ⟨n', hnn', hown'⟩ := hmw'
  have Hown' := Lib.hid hown'
  have HC := Lib.hid hC; clear hC
  have Ho := Lib.hid of1; clear of1
  have Ho' := Lib.hid of2; clear of2
  have Ha := Lib.hid ha; clear ha
  have Ha' := Lib.hid ha'; clear ha'
  have Hs := Lib.hid hs; clear hs
  have Hs' := Lib.hid hs'; clear hs'
  clear hmw hown' hm' hbel
  by_cases hlen : (m.length : Int) < (m'.length : Int)
  · have Hno : Hid (¬ MapsIn m m' P) := Lib.hid fun h => by have := h.1; omega
    go_enter Tryz.func56, Tryz.ntmps56
    go_wp2_with fail
    go_ret
    exact ⟨_, rfl, Below.refl _ _, .inl ⟨_, rfl⟩, fun h => absurd h Hno.out⟩
  go_enter Tryz.func56, Tryz.ntmps56
  go_wp2_with (first
    | (at_range; refine wpList_range_own _ rfl _ 62 rfl 9 20 law_str Tryz.underlying62 heldR r' n' (.map (entries m' E')) rfl Hown'.out ?_; intro w9 hrg0 hg0 hs0)
    | go_in)
  try go_frame
  go_loopw [5] (fun _ wr => ContLoop w r' n' m' E' wr) (fun _ wr => wr.rangeLeft r' w.heap.size)
  case atStart => exact ⟨_, _, hrg0, (Below.refl _ _).grown hg0 (by simp) (by simp)⟩
  case round =>
    obtain ⟨left, cnt, hrg, hb⟩ := hrel
    go_wp2_with (first
      | (at_next; refine wpList_next_ranges _ rfl _ rfl 9 law_str heldR encStr id (fun key kl h => by obtain ⟨x, hx, _⟩ := Maps.keyOf_str Tryz.underlying9 h; exact ⟨x, hx⟩) (fun _ _ h => held_val h) r' w.heap.size n' _ _ _ rfl hrg ?_ ?_)
      | go_in)
    · intro hc0 hl0
      have Hb := Lib.hid hb
      clear hb hrg hl0 hc0
      go_wp2_with fail
      go_ret
      exact ⟨_, rfl, Hb.out, .inl ⟨_, rfl⟩, fun _ => rfl⟩
    · intro x c kl y y2 w1 cnt1 hkey hlk hy hat hrg1 hlt hg1 hs1 hen
      obtain ⟨x', ex, rfl, _⟩ := Maps.keyOf_str Tryz.underlying9 hkey
      obtain rfl := encStr_inj ex
      obtain ⟨j, hj, ek, rfl⟩ := entries_at Ha'.out (fun z => (hat z).trans (heldR_inv hy))
      have hwlt := hb.size
      have hb1 : Below w.heap.size w w1 := hb.grown hg1 hb.size (fun k hk => by cases hk; exact Nat.le_refl _)
      have hb01 : Below B w0 w1 := Hbel.out.trans (hb1.mono hB)
      have hsz : m'[j].1.size ≤ 140737488351232 := Hs'.out _ (List.getElem_mem hj)
      have hm1 : MapAt w1 r m E := Hm.out.carry (hb01.block r hr)
      have hw1s : B ≤ w1.heap.size := by omega
      have Hb1 := Lib.hid hb1
      have Hlt : Hid (wr.rangeLeft r' w.heap.size = cnt) := Lib.hid hrg.left_eq
      have fo2 := Ho'.out j hj
      have kr' : r' < w1.heap.size := by omega
      have kr : w.heap.size < w1.heap.size := hrg1.lt
      by_cases hin : ∃ i, ∃ hi : i < m.length, m[i].1 = m'[j].1
      · obtain ⟨i, hi, hk⟩ := hin
        have q1 := hm1.getOk Ha.out hi (Hs.out _ (List.getElem_mem hi))
        rw [hk] at q1
        have HI := Lib.hid (HC.out i j hi hj w1 hb01 hw1s)
        have fo1 := Ho.out i hi
        have Hin : Hid (MapsIn m m' P → P i j) := Lib.hid fun h => by
          obtain ⟨i2, hi2, e, hp⟩ := h.2 j hj
          have := Ha.out i2 i hi2 hi (e.trans hk.symm)
          rw [← this]
          exact hp
        clear hg1 hb1 hb01 hm1 hrg hb hkey hlk hy hat hk
        rw [ek] at hen ⊢
        clear ek
        generalize m'[j].1 = k at *
        generalize E' j = v2 at *
        generalize E i = v1 at *
        rcases fo1 with rfl | ⟨t1, v1, rfl⟩ <;> rcases fo2 with rfl | ⟨t2, v2, rfl⟩
        all_goals
          go_wp2_with fail
          refine HI.out.mono ?_
          rintro e w2 ⟨u, rfl, hb3, hform, hP⟩
          have HP := Lib.hid hP
          have hrg2 := ranges_carry hrg1 (hb3.block r' kr') (hb3.block _ kr)
          have Hrg2 := Lib.hid hrg2
          have Hb2 := Lib.hid (Hb1.out.trans (hb3.mono (Nat.le_of_lt kr)))
          clear HI hP hrg1 hrg2 hb3 q1 hen
          rcases hform with ⟨b, rfl⟩ | herr
          · cases b with
            | true =>
              have q1 := neq_true true w2
              go_wp2_with fail
              go_roundw
              case rel => exact ⟨_, _, Hrg2.out, Hb2.out⟩
              case measure => rw [Hrg2.out.left_eq, Hlt.out]; exact hlt
            | false =>
              have q1 := neq_true false w2
              go_wp2_with fail
              go_ret
              exact ⟨_, rfl, Hb2.out, .inl ⟨_, rfl⟩, fun h => by
                have := HP.out (Hin.out h)
                cases this⟩
          · obtain ⟨te, ae, rfl⟩ := herr.form
            have hne : te ≠ 4 := by cases herr <;> decide
            have q1 := neq_err te (.pointer (some ae)) hne w2
            clear herr
            go_wp2_with fail
            go_ret
            exact ⟨_, rfl, Hb2.out, .inl ⟨_, rfl⟩, fun h => by
              have := HP.out (Hin.out h)
              injection this with h1 h2
              cases h2⟩
      · have q1 := hm1.missOk (k := m'[j].1) (fun p hp e => by
          obtain ⟨i, hi, rfl⟩ := List.mem_iff_getElem.1 hp
          exact hin ⟨i, hi, e⟩) hsz
        have Hno : Hid (¬ MapsIn m m' P) := Lib.hid fun h => by
          obtain ⟨i2, hi2, e, _⟩ := h.2 j hj
          exact hin ⟨i2, hi2, e⟩
        clear hg1 hb1 hb01 hm1 hrg hb hkey hlk hy hat hin
        rw [ek] at hen ⊢
        clear ek
        generalize m'[j].1 = k at *
        generalize E' j = v2 at *
        rcases fo2 with rfl | ⟨t2, v2, rfl⟩
        all_goals
          go_wp2_with fail
          go_ret
          exact ⟨_, rfl, Hb1.out, .inl ⟨_, rfl⟩, fun h => absurd h Hno.out⟩

end Go.Proofs.YtpoibibbkjogpaaGreatDoor

namespace Go.Proofs.YtpoibibbkjogpaaGreatDoor
open Go Go.RowKit

def kindJ : J → Int
  | .null => 0
  | .bool b => if b then 2 else 1
  | .int _ => 3
  | .flt _ => 3
  | .str _ => 4
  | .arr _ => 5
  | .obj _ => 6
  | .hole => 0

theorem kindJ_toJ {k h : Int} {t : ByteArray} {l : List V} {ks : List ByteArray} {vs : List V} (hk : 0 ≤ k ∧ k ≤ 6) : kindJ (toJ (.mk k h t l ks vs)) = k := by
  rcases (show k = 0 ∨ k = 1 ∨ k = 2 ∨ k = 3 ∨ k = 4 ∨ k = 5 ∨ k = 6 by omega) with rfl | rfl | rfl | rfl | rfl | rfl | rfl
  all_goals
    unfold toJ
    try simp [kindJ]
  by_cases o : h.tmod 2 = 0 <;> simp [o]
theorem toJ_whole (v : V) : toJ v ≠ .hole := by
  obtain ⟨k, h, t, l, ks, vs⟩ := v
  unfold toJ
  repeat' split
  all_goals simp
theorem num_hb {h : Int} (o : h.tmod 2 = 0) : floatOfInt .f64 (h.tdiv 2) = hb h := by
  have e : 2 * h.tdiv 2 = h := by have := Int.mul_tdiv_add_tmod h 2; omega
  have := hb_int (h.tdiv 2)
  rw [e] at this
  exact this
theorem fitsH_half {h : Int} (g : halfB h = true) : FitsH h := by
  obtain ⟨h1, h2, h3⟩ := half_bounds g
  exact ⟨h1, h2, fun o => h3 (fun e => o (by have := Int.mul_tdiv_add_tmod h 2; omega))⟩
theorem num_flt {h : Int} (g : halfB h = true) (o : ¬ h.tmod 2 = 0) : halfBits h = hb h := by
  obtain ⟨h1, h2, h3⟩ := half_bounds g
  exact halfBits_hb (h3 o).1 (h3 o).2 (by rintro rfl; exact o rfl)

end Go.Proofs.YtpoibibbkjogpaaGreatDoor

namespace Go.Proofs.YtpoibibbkjogpaaGreatDoor
open Go Go.RowKit Go.Maps Go.Deep

theorem ContR.weak {w w' : World} {P Q : Prop} {u : Value} (h : ContR w P u w') (hq : Q → P) : ContR w Q u w' := ⟨h.1, h.2.1, fun q => h.2.2 (hq q)⟩
theorem ret_weak {f : Nat} {args : Array Value} {w : World} {P Q : Prop} (h : Calls Tryz.prog f args w (Ret (ContR w P))) (hq : Q → P) : Calls Tryz.prog f args w (Ret (ContR w Q)) :=
  h.mono fun _ _ ⟨u, he, hu⟩ => ⟨u, he, hu.weak hq⟩

theorem plain_eqls {w0 : World} {S S' : Nat → Prop} {j k : J} {x y : Value} (hx : RepJ w0 S j x) (hy : RepJ w0 S' k y) (hj : j ≠ .hole) (hk : k ≠ .hole) (hne : kindJ j ≠ kindJ k ∨ kindJ j < 3) (hb : kindJ j = kindJ k → kindJ j < 3) (hn : ¬ (x = .nilIface ∧ y = .nilIface)) :
    ∃ b, Eqls x y b ∧ (kindJ j = kindJ k → b = true) := by
  have dif : ∀ {t t' : TypeId} {v v' : Value}, t ≠ t' → kindJ j ≠ kindJ k → ∃ b, Eqls (.iface t v) (.iface t' v') b ∧ (kindJ j = kindJ k → b = true) := fun h h2 => ⟨false, ⟨eql_kinds _ _ h⟩, fun e => absurd e h2⟩
  cases hx with
  | null =>
    cases hy with
    | null => exact absurd ⟨rfl, rfl⟩ hn
    | hole => exact absurd rfl hk
    | bool _ b => exact ⟨false, ⟨eql_nil1 _ _⟩, fun e => by cases b <;> simp [kindJ] at e⟩
    | int | flt | str | arr | obj => exact ⟨false, ⟨eql_nil1 _ _⟩, fun e => by simp [kindJ] at e⟩
  | hole => exact absurd rfl hj
  | bool _ b =>
    cases hy with
    | null => exact ⟨false, ⟨eql_nil2 _ _⟩, fun e => by cases b <;> simp [kindJ] at e⟩
    | hole => exact absurd rfl hk
    | bool _ c => exact ⟨b == c, ⟨eql_bools b c⟩, fun e => by cases b <;> cases c <;> simp [kindJ] at e ⊢⟩
    | int | flt | str | arr | obj => exact dif (by decide) (by cases b <;> simp [kindJ])
  | int | flt | str | arr | obj =>
    cases hy with
    | null => exact ⟨false, ⟨eql_nil2 _ _⟩, fun e => by simp [kindJ] at e⟩
    | hole => exact absurd rfl hk
    | bool _ c => exact dif (by decide) (by cases c <;> simp [kindJ])
    | int | flt | str | arr | obj => first | (refine dif (by decide) ?_; simp [kindJ]; done) | (exfalso; simp [kindJ] at hb; done)

set_option maxRecDepth 100000 in
/-- The fallback: two kinds, or plain values. -/
theorem cont_plain {w0 : World} {S S' : Nat → Prop} {j k : J} {x y : Value} (hx : RepJ w0 S j x) (hy : RepJ w0 S' k y) (hj : j ≠ .hole) (hk : k ≠ .hole) (P : Prop) (hP : P → kindJ j = kindJ k) (hne : kindJ j ≠ kindJ k ∨ kindJ j < 3) (w : World) :
    DispA 49 50 53 55 56 57 j k x y (ContR w P) w := by
  have f7 : Calls Tryz.prog 57 #[x, y] w (Ret (ContR w P)) := by
    by_cases hn : x = .nilIface ∧ y = .nilIface
    · obtain ⟨rfl, rfl⟩ := hn
      exact cont_null P w
    · obtain ⟨b, e, hb⟩ := plain_eqls hx hy hj hk hne (fun e => hne.resolve_left (fun h => h e)) hn
      exact cont_else x y hx.form hy.form b e hn P (fun h => hb (hP h)) w
  clear hx hy
  cases j <;> cases k
  all_goals first
    | exact absurd rfl hj
    | exact absurd rfl hk
    | exact f7
    | (exfalso; simp [kindJ] at hne; done)

set_option maxRecDepth 100000 in
theorem contains_disp {w0 : World} {S S' : Nat → Prop} {j k : J} {x y : Value} (hx : RepJ w0 S j x) (hy : RepJ w0 S' k y) (P : Prop) (w : World)
    (h : DispA 49 50 53 55 56 57 j k x y (ContR w P) w) :
    Calls Tryz.prog 36 #[x, y] w (Ret (ContR w P)) := by
  have H := Lib.hid (bin_disp 49 50 51 53 55 56 57
    (enters_of Tryz.func49 (by kernel_rfl) rfl) (enters_of Tryz.func50 (by kernel_rfl) rfl) (enters_of Tryz.func53 (by kernel_rfl) rfl)
    (enters_of Tryz.func55 (by kernel_rfl) rfl) (enters_of Tryz.func56 (by kernel_rfl) rfl) (enters_of Tryz.func57 (by kernel_rfl) rfl) hx hy _ w h)
  clear hx hy h
  go_enter Tryz.func36, Tryz.ntmps36
  go_wp2_with fail
  refine H.out.mono ?_
  rintro e w2 ⟨v, rfl, hv⟩
  have hb := hv.1
  have ff : v = .nilIface ∨ ∃ t y, v = .iface t y := by
    rcases hv.2.1 with ⟨b, rfl⟩ | he
    · exact .inr ⟨_, _, rfl⟩
    · obtain ⟨t, a, rfl⟩ := he.form; exact .inr ⟨_, _, rfl⟩
  have Hv := Lib.hid hv
  clear hv hb
  rcases ff with rfl | ⟨tv, v, rfl⟩
  all_goals
    go_wp2_with fail
    go_ret
    exact ⟨_, rfl, Hv.out⟩

set_option maxHeartbeats 2000000 in
set_option maxRecDepth 100000 in
theorem contains_any {a : V} (ga : Good a) : ∀ (_ : Small a) {b : V} (_ : Good b) (_ : Small b) (w0 : World) (B : Nat) (S S' : Nat → Prop) (x y : Value), RepJ w0 S (toJ a) x → (∀ k, S k → k < B) → RepJ w0 S' (toJ b) y → (∀ k, S' k → k < B) → ContC w0 B x y (Rest a b) := by
  induction ga with
  | @mk k h t l ks vs shape half valid list rise vkeys vals ihl ihv =>
  intro sm b gb sm' w0 B S S' x y hx hS hy hS' w hbel hB
  obtain ⟨k', h', t', l', ks', vs'⟩ := b
  obtain ⟨shape', half', _, list', rise', _, vals'⟩ := gb.all
  obtain ⟨p1, p2, p3, p4, p5, p6, p7, p8⟩ := shape_plain shape
  obtain ⟨q1, q2, q3, q4, q5, q6, q7, q8⟩ := shape_plain shape'
  refine contains_disp hx hy _ w ?_
  have hkx := kindJ_toJ (h := h) (t := t) (l := l) (ks := ks) (vs := vs) ⟨p1, p2⟩
  have hky := kindJ_toJ (h := h') (t := t') (l := l') (ks := ks') (vs := vs') ⟨q1, q2⟩
  have hkk : Rest (.mk k h t l ks vs) (.mk k' h' t' l' ks' vs') → k = k' := fun r => by cases r; rfl
  by_cases hp : k ≠ k' ∨ k < 3
  · exact cont_plain hx hy (toJ_whole _) (toJ_whole _) _ (fun r => by rw [hkx, hky]; exact hkk r) (by rw [hkx, hky]; exact hp) w
  have ek : k = k' := by omega
  have hk3 : 3 ≤ k := by omega
  subst ek
  clear hkx hky hkk hp
  cases sm with
  | mk hl hks hvs sl sv =>
  cases sm' with
  | mk hl' hks' hvs' sl' sv' =>
  rcases (show k = 3 ∨ k = 4 ∨ k = 5 ∨ k = 6 by omega) with rfl | rfl | rfl | rfl
  · have hh : Rest (.mk 3 h t l ks vs) (.mk 3 h' t' l' ks' vs') → h = h' := fun r => by cases r; rfl
    have hI := hb_isH (fitsH_half half)
    have hI' := hb_isH (fitsH_half half')
    have cf := cont_flts (hb h) (hb h') _ (order_hb hI hI') (Rest (.mk 3 h t l ks vs) (.mk 3 h' t' l' ks' vs')) (fun r => by rw [hh r]; simp) w
    clear hx hy
    unfold toJ
    simp only [show ¬ ((3 : Int) = 0) by decide, show ¬ ((3 : Int) = 1) by decide, show ¬ ((3 : Int) = 2) by decide, if_false, if_true]
    by_cases o : h.tmod 2 = 0 <;> by_cases o' : h'.tmod 2 = 0
    · rw [if_pos o, if_pos o']
      intro _ _
      exact ret_weak (cont_ints (h.tdiv 2) (h'.tdiv 2) w) fun r => by rw [hh r]
    · rw [if_pos o, if_neg o', num_flt half' o']
      show Calls _ _ #[.float .f64 (floatOfInt .f64 (h.tdiv 2)), _] _ _
      rw [num_hb o]
      exact cf
    · rw [if_neg o, if_pos o', num_flt half o]
      show Calls _ _ #[_, .float .f64 (floatOfInt .f64 (h'.tdiv 2))] _ _
      rw [num_hb o']
      exact cf
    · rw [if_neg o, if_neg o', num_flt half o, num_flt half' o']
      exact cf
  · have hh : Rest (.mk 4 h t l ks vs) (.mk 4 h' t' l' ks' vs') → t = t' := fun r => by cases r; rfl
    rw [toJ_4] at hx hy
    rw [toJ_4, toJ_4]
    cases hx with
    | str _ _ z1 =>
    cases hy with
    | str _ _ z2 => exact ret_weak (cont_strs t t' w z1 z2 (in_any t t' w z1 z2)) hh
  · rw [toJ_5] at hx hy
    rw [toJ_5, toJ_5]
    generalize hm : toJL l = m at hx ⊢
    generalize hm' : toJL l' = m' at hy ⊢
    have hml : m.length = l.length := by rw [← hm]; exact toJL_len l
    have hml' : m'.length = l'.length := by rw [← hm']; exact toJL_len l'
    cases hx with
    | @arr _ _ a1 c1 f1 b1 o1 N1 F1 hlm1 hc1 ca1 own1 sub1 dis1 ra1 =>
    cases hy with
    | @arr _ _ a2 c2 f2 b2 o2 N2 F2 hlm2 hc2 ca2 own2 sub2 dis2 ra2 =>
    rintro _ _ _ _ _ _ e1 e2
    cases e1
    cases e2
    have hR1 : ∀ i (hi : i < l.length), RepJ w0 (F1 i) (toJ l[i]) (f1 (o1 + i)) := fun i hi => by
      have := ra1 i (by omega)
      subst hm
      rw [toJL_get l i hi] at this
      exact this
    have hR2 : ∀ i (hi : i < l'.length), RepJ w0 (F2 i) (toJ l'[i]) (f2 (o2 + i)) := fun i hi => by
      have := ra2 i (by omega)
      subst hm'
      rw [toJL_get l' i hi] at this
      exact this
    rw [hml, hml']
    refine ret_weak (cont_arrs w0 B l.length l'.length a1 a2 c1 c2 (fun i => f1 (o1 + i)) (fun i => f2 (o2 + i)) (fun h0 => ?_) (fun h0 => ?_) (fun i hi => (hR1 i hi).form) (fun i hi => (hR2 i hi).form) (by omega) (by omega)
      (fun i j => ∃ (hi : i < l.length) (hj : j < l'.length), Rest l[i] l'[j]) (fun i j hi hj => ?_) w hbel hB) fun r => ?_
    · obtain ⟨e1, e2, e3, e4⟩ := ca1 (by omega)
      exact ⟨b1, o1, e1, hS b1 e2, fun i hi => e3.cell (by omega)⟩
    · obtain ⟨e1, e2, e3, e4⟩ := ca2 (by omega)
      exact ⟨b2, o2, e1, hS' b2 e2, fun i hi => e3.cell (by omega)⟩
    · exact fun w hb hw => ret_weak (ihl i hi (sl i hi) (list' j hj) (sl' j hj) w0 B (F1 i) (F2 j) _ _ (hR1 i hi) (fun q hq => hS q (sub1 i q (by omega) hq)) (hR2 j hj) (fun q hq => hS' q (sub2 j q (by omega) hq)) w hb hw) fun ⟨_, _, r⟩ => r
    · cases r with
      | mk hl hm =>
      intro j hj
      obtain ⟨i, hi, r⟩ := hl.at j hj
      exact ⟨i, hi, hi, hj, r⟩
  · rw [toJ_6] at hx hy
    rw [toJ_6, toJ_6]
    have ap1 := apart_toJM p8 rise
    have ap2 := apart_toJM q8 rise'
    generalize hm : toJM ks vs = m at hx ap1 ⊢
    generalize hm' : toJM ks' vs' = m' at hy ap2 ⊢
    have hml : m.length = ks.length := by rw [← hm]; exact toJM_len ks vs p8
    have hml' : m'.length = ks'.length := by rw [← hm']; exact toJM_len ks' vs' q8
    cases hx with
    | @obj _ _ r1 E1 F1 hr1 hmm1 hs1 own1 sub1 dis1 rm1 =>
    cases hy with
    | @obj _ _ r2 E2 F2 hr2 hmm2 hs2 own2 sub2 dis2 rm2 =>
    rintro _ _ e1 e2
    cases e1
    cases e2
    have hR1 : ∀ i (hi : i < ks.length), RepJ w0 (F1 i) (toJ (vs[i]'(by omega))) (E1 i) ∧ (m[i]'(by omega)).1 = ks[i] := fun i hi => by
      have := rm1 i (by omega)
      subst hm
      simp only [toJM_get ks vs p8 i hi] at this
      exact ⟨this, by rw [toJM_get ks vs p8 i hi]⟩
    have hR2 : ∀ i (hi : i < ks'.length), RepJ w0 (F2 i) (toJ (vs'[i]'(by omega))) (E2 i) ∧ (m'[i]'(by omega)).1 = ks'[i] := fun i hi => by
      have := rm2 i (by omega)
      subst hm'
      simp only [toJM_get ks' vs' q8 i hi] at this
      exact ⟨this, by rw [toJM_get ks' vs' q8 i hi]⟩
    refine ret_weak (cont_maps w0 B m m' r1 r2 E1 E2 hmm1 hmm2 (hS r1 hr1) (hS' r2 hr2) ap1 ap2 hs1 hs2 (fun i hi => (hR1 i (by omega)).1.form) (fun i hi => (hR2 i (by omega)).1.form)
      (fun i j => ∃ (hi : i < vs.length) (hj : j < vs'.length), Rest vs[i] vs'[j]) (fun i j hi hj => ?_) w hbel hB) fun r => ?_
    · exact fun w hb hw => ret_weak (ihv i (by omega) (sv i (by omega)) (vals' j (by omega)) (sv' j (by omega)) w0 B (F1 i) (F2 j) _ _ (hR1 i (by omega)).1 (fun q hq => hS q (sub1 i q (by omega) hq)) (hR2 j (by omega)).1 (fun q hq => hS' q (sub2 j q (by omega) hq)) w hb hw) fun ⟨_, _, r⟩ => r
    · cases r with
      | mk hl hm =>
      refine ⟨by have := hm.len; omega, fun j hj => ?_⟩
      obtain ⟨i, hi, hi2, e, r⟩ := hm.at j (by omega) (by omega)
      exact ⟨i, by omega, by rw [(hR1 i hi).2, (hR2 j (by omega)).2]; exact e, hi2, by omega, r⟩

end Go.Proofs.YtpoibibbkjogpaaGreatDoor

namespace Go.Proofs.YtpoibibbkjogpaaGreatDoor
open Go Go.RowKit Go.Deep

def trueV : V := .mk 2 0 ⟨#[]⟩ [] [] []
theorem good_trueV : Good trueV := .mk (by simp [shapeB, Lib.toList_data]) (by decide) (by decide) (fun i hi => by simp at hi) (fun i hi => by simp at hi) (fun i hi => by simp at hi) (fun i hi => by simp at hi)
theorem rep_trueV (w : World) (B : Nat) : RepV w B trueV [.int .i64 2, .int .i64 0, .string ⟨#[]⟩, .slice none 0 0, .slice none 0 0, .slice none 0 0] :=
  .mk (l := []) (ks := []) (vs := []) (fun _ => []) (fun _ => []) (by decide) (by decide) (Nat.zero_le _) (by simp) (by simp) (by simp) (fun s hs => by simp at hs) (fun h => by simp at h) (fun i hi => by simp at hi) (fun h => by simp at h) (fun h => by simp at h) (fun i hi => by simp at hi) (Nat.le_refl _)

theorem ContR.form {w w' : World} {P : Prop} {u : Value} (h : ContR w P u w') : IsI u := by
  rcases h.2.1 with ⟨b, rfl⟩ | he
  · exact .inr ⟨_, _, rfl⟩
  · obtain ⟨t, a, rfl⟩ := he.form; exact .inr ⟨_, _, rfl⟩

set_option maxRecDepth 100000 in
theorem zzCont_any {R : Value → World → Prop} {x y : Value} {w : World} (fx : IsI x) (fy : IsI y) (H : Calls Tryz.prog 36 #[x, y] w (Ret R)) (hR : ∀ u w', R u w' → IsI u) : Calls Tryz.prog 26 #[x, y] w (Ret R) := by
  have HH := Lib.hid H
  have HR := Lib.hid hR
  clear H hR
  rcases fx with rfl | ⟨tx, x, rfl⟩ <;> rcases fy with rfl | ⟨ty, y, rfl⟩
  all_goals
    go_enter Tryz.func26, Tryz.ntmps26
    go_wp2_with fail
    refine HH.out.mono ?_
    rintro e w1 ⟨u, rfl, hr⟩
    have fu := HR.out u w1 hr
    have Hr := Lib.hid hr
    clear hr HH
    rcases fu with rfl | ⟨tu, u, rfl⟩
    all_goals
      go_wp2_with fail
      go_ret
      exact ⟨_, rfl, Hr.out⟩

/-- What ZzContains leaves, for impl.result; old memory stands below lo. -/
abbrev ContB2 (lo : Nat) (w : World) (an : Ans) (v : Value) (w' : World) : Prop := (v = .nilIface ∨ ∃ t y, v = .iface t y) ∧ Calls Tryz.prog 22 #[v] w' (ResQ w' an) ∧ Below lo w w'

set_option maxHeartbeats 1000000 in
set_option maxRecDepth 100000 in
theorem implCont_walk {w0 : World} {B : Nat} {a b : V} {ca cb : List Value} (ha : RepV w0 B a ca) (hb : RepV w0 B b cb) (an : Ans)
    (ta : ToGoOK w0 B a ca) (tb : ToGoOK w0 B b cb)
    (hz : ∀ w (lo N : Nat) x y, lo ≤ N → N ≤ w.heap.size → RepJ w (fun k => lo ≤ k ∧ k < N) (toJ a) x → RepJ w (fun k => N ≤ k ∧ k < w.heap.size) (toJ b) y → Calls Tryz.prog 26 #[x, y] w (Ret (ContB2 lo w an)))
    (w : World) (hbel : Below B w0 w) (hB : B ≤ w.heap.size) : Calls Tryz.prog 12 #[.agg ca.toArray, .agg cb.toArray] w (ResQ w an) := by
  have Ta := Lib.hid ta; clear ta
  have Tb := Lib.hid tb; clear tb
  have Hz := Lib.hid hz; clear hz
  have Hbel := Lib.hid hbel; clear hbel
  obtain ⟨k, h, t, la, ka, va, nl, cl, nk, ck, nv, cv, rfl⟩ := ha.shape
  obtain ⟨k', h', t', la', ka', va', nl', cl', nk', ck', nv', cv', rfl⟩ := hb.shape
  clear ha hb
  go_enter Tryz.func12, Tryz.ntmps12
  go_wp2_with fail
  have h0 := at_alloc3 w (.cells #[.int .i64 k, .int .i64 h, .string t, .slice la nl cl, .slice ka nk ck, .slice va nv cv] 26)
    (.cells #[.int .i64 k', .int .i64 h', .string t', .slice la' nl' cl', .slice ka' nk' ck', .slice va' nv' cv'] 26)
    (.cells #[.int .i64 0, .int .i64 0, .string ⟨#[]⟩, .slice none 0 0, .slice none 0 0, .slice none 0 0, .int .i64 0] 31)
  obtain ⟨hbW, hsW, hx1, hx2⟩ := h0
  refine (Ta.out _ (Hbel.out.trans (hbW.mono hB)) (by rw [hsW]; omega)).mono ?_
  generalize ((w.alloc _).alloc _).alloc _ = W at *
  rintro e w1 ⟨x, rfl, jx, hw1⟩
  have hs1 : w.heap.size + 3 ≤ w1.heap.size := by have := hw1.size; omega
  have y1 := (hw1.block (w.heap.size + 1) (by omega)).trans hx1
  have y2 := (hw1.block (w.heap.size + 1 + 1) (by omega)).trans hx2
  have hb1 : Below w.heap.size w w1 := hbW.trans (hw1.mono (by omega))
  obtain ⟨e0, e1, e2, e3, e4, e5⟩ := of_block6 y1
  have fx := jx.form
  have Jx := Lib.hid jx; clear jx
  have Hw1 := Lib.hid hw1; clear hw1
  go_wp2_with fail
  refine (Tb.out _ (Hbel.out.trans (hb1.mono hB)) (by omega)).mono ?_
  rintro e w2 ⟨y, rfl, jy, hw2⟩
  have hs2 : w.heap.size + 3 ≤ w2.heap.size := by have := hw2.size; omega
  have z2 := (hw2.block (w.heap.size + 1 + 1) (by omega)).trans y2
  have hb2 : Below w.heap.size w w2 := hb1.trans (hw2.mono (by omega))
  have jx2 := Jx.out.under hw2 (fun k hk => hk.2)
  have fy := jy.form
  have Z := Lib.hid (Hz.out w2 (w.heap.size + 3) w1.heap.size _ _ hs1 hw2.size (jx2.mono (fun k hk => ⟨by have := hk.1; omega, hk.2⟩)) jy)
  clear jx2 jy Jx
  rcases fx with rfl | ⟨tx, x, rfl⟩ <;> rcases fy with rfl | ⟨ty, y, rfl⟩
  all_goals
    go_wp2_with fail
    refine Z.out.mono ?_
    rintro e w3 ⟨u, rfl, hfu, hu, hw3⟩
    have hw3s := hw3.size
    have hs3 : w.heap.size + 3 ≤ w3.heap.size := by omega
    have z3 := (hw3.block (w.heap.size + 1 + 1) (by omega)).trans z2
    have hb3 : Below w.heap.size w w3 := hb2.trans (hw3.mono (by omega))
    have U := Lib.hid hu
    clear hu
    rcases hfu with rfl | ⟨tu, u, rfl⟩
    all_goals
      go_wp2_with fail
      refine U.out.mono ?_
      rintro e w4 ⟨k, h, t, la, ka, va, nl, cl, nk, ck, nv, cv, n, rfl, hR, hw4⟩
      have hs4 : w.heap.size + 3 ≤ w4.heap.size := by have := hw4.size; omega
      have z4 := (hw4.block (w.heap.size + 1 + 1) (by omega)).trans z3
      obtain ⟨e0, e1, e2, e3, e4, e5, e6⟩ := of_block7 z4
      obtain ⟨f0, f1, f2, f3, f4, f5, f6⟩ := free_block7 z4
      have Hst := Lib.hid (resQ_store (z := w.heap.size + 1 + 1) (by omega) (by omega) hb3 hw4 hR)
      clear hR
      go_wp2_with fail
      refine bodyPost_ret (v := .agg #[.int .i64 k, .int .i64 h, .string t, .slice la nl cl, .slice ka nk ck, .slice va nv cv, .int .i64 n]) ?_ rfl Hst.out
      exact results_cell_row (p := 4) (ty := 31) rfl _ _ (w.heap.size + 1 + 1) 31 _ (0, 0) _ rfl (set_row7 z4 _ _ _ _ _ _ _) Tryz.underlying31 rfl (by kernel_rfl)



/-- impl.Contains at a value and what is left of it: true. -/
theorem implCont_any {w0 : World} {B : Nat} {a b : V} {ca cb : List Value} (ha : RepV w0 B a ca) (hb : RepV w0 B b cb) (ga : Good a) (gb : Good b) (hr : Rest a b)
    (w : World) (hbel : Below B w0 w) (hB : B ≤ w.heap.size) : Calls Tryz.prog 12 #[.agg ca.toArray, .agg cb.toArray] w (ResQ w (.fine trueV)) := by
  refine implCont_walk ha hb (.fine trueV) (toGo_any w0 B a ca ha ga) (toGo_any w0 B b cb hb gb) ?_ w hbel hB
  intro w lo N x y hlo hN jx jy
  have hc := contains_any ga ha.small gb hb.small w w.heap.size _ _ x y jx (fun k hk => by have h2 : lo ≤ k ∧ k < N := hk; omega) jy (fun k hk => by have h2 : N ≤ k ∧ k < w.heap.size := hk; omega) w (Below.refl _ _) (Nat.le_refl _)
  refine (zzCont_any jx.form jy.form hc fun u w' h => h.form).mono ?_
  rintro e w' ⟨u, he, hu⟩
  obtain rfl := hu.2.2 hr
  have hs := hu.1.size
  have hj : RepJ w' (fun _ => False) (toJ trueV) (.iface 4 (.bool true)) := by
    have e : toJ trueV = .bool true := by unfold trueV toJ; simp
    rw [e]
    exact .bool _ _
  have sm : Small trueV := .mk (by simp) (by simp) (by simp) (fun i hi => by simp at hi) (fun i hi => by simp at hi)
  exact ⟨_, he, hj.form, resQ_val (result_val hj.noErr hj.form w' w'.heap.size (fromGo_any good_trueV sm w' w'.heap.size _ _ hj (fun k hk => hk.elim)) w' (Below.refl _ _) (Nat.le_refl _)) (.inl rfl), hu.1.mono (by omega)⟩

end Go.Proofs.YtpoibibbkjogpaaGreatDoor

namespace Go.Proofs.YtpoibibbkjogpaaGreatDoor
open Go Go.RowKit Go.Deep

/-- Paths below v, as an array's row in memory. -/
structure PathsP (w : World) (v : V) (ss : List (List Stp)) (oa : Option Addr) (oc : Nat) : Prop where
  leads : ∀ s ∈ ss, Leads v s
  good : ∀ x ∈ ss.map pathV, Good x
  rep : RepV w w.heap.size (.mk 5 0 ⟨#[]⟩ (ss.map pathV) [] []) [.int .i64 5, .int .i64 0, .string ⟨#[]⟩, .slice oa ss.length oc, .slice none 0 0, .slice none 0 0]
theorem PathsP.carry {w w' : World} {v : V} {ss : List (List Stp)} {oa : Option Addr} {oc : Nat} (h : PathsP w v ss oa oc) (hb : Below w.heap.size w w') : PathsP w' v ss oa oc := ⟨h.leads, h.good, h.rep.carry hb hb.size⟩

/-- The box of a result: what is left of v. -/
def RestAt (X : World) (v : V) (s : Value) (wx : World) : Prop :=
  ∃ (z : Nat) (r : V) (k h : Int) (t : ByteArray) (la ka va : Option Addr) (nl cl nk ck nv cv : Nat), s = .pointer (some ⟨z, 0, none⟩) ∧ X.heap.size ≤ z ∧ wx.heap[z]? = some (.cells #[.int .i64 k, .int .i64 h, .string t, .slice la nl cl, .slice ka nk ck, .slice va nv cv, .int .i64 0] 31) ∧
    Below X.heap.size X wx ∧ Rest v r ∧ RepV wx wx.heap.size r [.int .i64 k, .int .i64 h, .string t, .slice la nl cl, .slice ka nk ck, .slice va nv cv]

/-- What impl.DelPaths hands back, from w0 on. -/
def RestR (w0 : World) (v : V) (k h : Int) (t : ByteArray) (la ka va : Option Addr) (nl cl nk ck nv cv : Nat) (n : Int) (w : World) : Prop :=
  n = 0 ∧ ∃ r, Rest v r ∧ RepS w (FreshS w0.heap.size w.heap.size) r [.int .i64 k, .int .i64 h, .string t, .slice la nl cl, .slice ka nk ck, .slice va nv cv]

theorem RestAt.made {X w0 w : World} {v : V} {k h : Int} {t : ByteArray} {la ka va : Option Addr} {nl cl nk ck nv cv : Nat} {n : Int} (hR : RestR w0 v k h t la ka va nl cl nk ck nv cv n w) (hb : Below X.heap.size X w) :
    RestAt X v (.pointer (some ⟨w.heap.size, 0, none⟩)) (w.alloc (.cells #[.int .i64 k, .int .i64 h, .string t, .slice la nl cl, .slice ka nk ck, .slice va nv cv, .int .i64 n] 31)) := by
  obtain ⟨rfl, r, hr, hS⟩ := hR
  have hbn := below_alloc1 w (.cells #[.int .i64 k, .int .i64 h, .string t, .slice la nl cl, .slice ka nk ck, .slice va nv cv, .int .i64 0] 31)
  exact ⟨_, r, k, h, t, la, ka, va, nl, cl, nk, ck, nv, cv, rfl, hb.size, at_alloc _ _, keep_alloc hb hb.size _, hr, (hS.toV fun q hq => hq.2).carry hbn hbn.size⟩

theorem RestAt.put {X w0 w : World} {v : V} {k h : Int} {t : ByteArray} {la ka va : Option Addr} {nl cl nk ck nv cv : Nat} {n : Int} {z : Nat} {e0 e1 e2 e3 e4 e5 e6 : Value} (hR : RestR w0 v k h t la ka va nl cl nk ck nv cv n w) (hb : Below X.heap.size X w)
    (hz : w.heap[z]? = some (.cells #[e0, e1, e2, e3, e4, e5, e6] 31)) (hzb : X.heap.size ≤ z) (hz2 : z < w0.heap.size) :
    RestAt X v (.pointer (some ⟨z, 0, none⟩)) (((((((w.setCell ⟨z, 0, none⟩ (.int .i64 k)).setCell ⟨z, 1, none⟩ (.int .i64 h)).setCell ⟨z, 2, none⟩ (.string t)).setCell ⟨z, 3, none⟩ (.slice la nl cl)).setCell ⟨z, 4, none⟩ (.slice ka nk ck)).setCell ⟨z, 5, none⟩ (.slice va nv cv)).setCell ⟨z, 6, none⟩ (.int .i64 n)) := by
  obtain ⟨rfl, r, hr, hS⟩ := hR
  refine ⟨z, r, k, h, t, la, ka, va, nl, cl, nk, ck, nv, cv, rfl, hzb, set_row7 hz _ _ _ _ _ _ _, ((((((hb.setCell hzb _).setCell hzb _).setCell hzb _).setCell hzb _).setCell hzb _).setCell hzb _).setCell hzb _, hr, ?_⟩
  refine (hS.turn fun q hq => ⟨set7_other _ _ _ _ _ _ _ _ _ _ ?_, hq⟩).toV fun q hq => ?_
  · unfold FreshS at hq; omega
  · unfold FreshS at hq
    rw [set7_size]
    omega

theorem hz_new {w w' : World} {o : Obj} (h : Below (w.alloc o).heap.size (w.alloc o) w') : w'.heap[w.heap.size]? = some o ∧ w.heap.size < (w.alloc o).heap.size := by
  have hs := size_alloc1 w o
  have h2 := at_alloc w o
  exact ⟨(h.block w.heap.size (by omega)).trans h2, by omega⟩
theorem hz_drew {w w' : World} {o : Obj} (h : Below (w.alloc o).drew.heap.size (w.alloc o).drew w') : w'.heap[w.heap.size]? = some o ∧ w.heap.size < (w.alloc o).drew.heap.size := hz_new (w := w) (o := o) ⟨h.os, h.tape, h.output, h.size, h.block⟩
theorem hz_next {w w' : World} {z : Nat} {o : Obj} (h : Below w.heap.size w w') (hz : w.heap[z]? = some o) : w'.heap[z]? = some o ∧ z < w.heap.size :=
  ⟨(h.block z (Array.getElem?_eq_some_iff.1 hz).1).trans hz, (Array.getElem?_eq_some_iff.1 hz).1⟩

theorem below_set7 {a w : World} {B b : Nat} (h : Below B a w) (hb : B ≤ b) (v0 v1 v2 v3 v4 v5 v6 : Value) :
    Below B a (((((((w.setCell ⟨b, 0, none⟩ v0).setCell ⟨b, 1, none⟩ v1).setCell ⟨b, 2, none⟩ v2).setCell ⟨b, 3, none⟩ v3).setCell ⟨b, 4, none⟩ v4).setCell ⟨b, 5, none⟩ v5).setCell ⟨b, 6, none⟩ v6) :=
  ((((((h.setCell hb _).setCell hb _).setCell hb _).setCell hb _).setCell hb _).setCell hb _).setCell hb _

theorem below_of6 {a b c d e f : Prop} {B : Nat} {w w' : World} (h : a ∧ b ∧ c ∧ d ∧ e ∧ f ∧ Below B w w') : Below B w w' := h.2.2.2.2.2.2

theorem below_of19 {a b c d e f a1 b1 c1 d1 e1 f1 g1 a2 b2 c2 d2 e2 f2 : Prop} {B : Nat} {w w' : World} (h : a ∧ b ∧ c ∧ d ∧ e ∧ f ∧ a1 ∧ b1 ∧ c1 ∧ d1 ∧ e1 ∧ f1 ∧ g1 ∧ a2 ∧ b2 ∧ c2 ∧ d2 ∧ e2 ∧ f2 ∧ Below B w w') : Below B w w' := h.2.2.2.2.2.2.2.2.2.2.2.2.2.2.2.2.2.2.2

/-- Cells that hold what is left of v. -/
def LeftOf (Z : World) (v : V) (cs : List Value) : Prop := ∃ b, RepV Z Z.heap.size b cs ∧ Good b ∧ Rest v b

theorem del_rest {w : World} {v : V} {cv : List Value} (hv : RepV w w.heap.size v cv) (gv : Good v) {ss : List (List Stp)} {oa : Option Addr} {oc : Nat} (hp : PathsP w v ss oa oc) :
    Calls Tryz.prog 8 #[.agg cv.toArray, .agg #[.int .i64 5, .int .i64 0, .string ⟨#[]⟩, .slice oa ss.length oc, .slice none 0 0, .slice none 0 0]] w fun e w' =>
      ∃ (k h : Int) (t : ByteArray) (la ka va : Option Addr) (nl cl nk ck nv cv : Nat) (n : Int), e = .returned (.agg #[.int .i64 k, .int .i64 h, .string t, .slice la nl cl, .slice ka nk ck, .slice va nv cv, .int .i64 n]) ∧ RestR w v k h t la ka va nl cl nk ck nv cv n w' ∧ Below w.heap.size w w' := by
  obtain ⟨r, hl, hr⟩ := leftBy_ex gv ss hp.leads
  refine (implDel_any hv hp.rep gv hp.good hp.leads hl w (Below.refl _ _) (Nat.le_refl _)).mono ?_
  rintro e w' ⟨k, h, t, la, ka, va, nl, cl, nk, ck, nv, cv, n, he, hR, hb⟩
  obtain ⟨rfl, hS⟩ := hR.1 r rfl
  exact ⟨k, h, t, la, ka, va, nl, cl, nk, ck, nv, cv, 0, he, ⟨rfl, r, hr, hS⟩, hb⟩

end Go.Proofs.YtpoibibbkjogpaaGreatDoor

namespace Go.Proofs.YtpoibibbkjogpaaGreatDoor
open Go Go.RowKit Go.Deep

set_option maxRecDepth 100000 in
theorem sbool_any (w : World) : Calls Tryz.prog 25 #[.bool true] w fun e w' =>
    e = .returned (.agg #[.int .i64 2, .int .i64 0, .string ⟨#[]⟩, .slice none 0 0, .slice none 0 0, .slice none 0 0]) ∧ Below w.heap.size w w' := by
  go_enter Tryz.func25, Tryz.ntmps25
  go_wp2_with fail
  refine bodyPost_ret (v := .agg #[.int .i64 2, .int .i64 0, .string ⟨#[]⟩, .slice none 0 0, .slice none 0 0, .slice none 0 0]) ?_ rfl ⟨rfl, below_alloc1 w _⟩
  exact results_cell_row (p := 2) (ty := 26) rfl _ _ w.heap.size 26 _ (0, 0) _ rfl (at_alloc w _) Tryz.underlying26 rfl (by kernel_rfl)

theorem below_of7 {a b c d e f g : Prop} {B : Nat} {w w' : World} (h : a ∧ b ∧ c ∧ d ∧ e ∧ f ∧ g ∧ Below B w w') : Below B w w' := h.2.2.2.2.2.2.2

set_option maxHeartbeats 1000000 in
set_option maxRecDepth 100000 in
theorem yes_any {w : World} {k h n : Int} {t : ByteArray} {la ka va : Option Addr} {nl cl nk ck nv cv : Nat} (hR : Got w (.fine trueV) k h t la ka va nl cl nk ck nv cv n) :
    Calls Tryz.prog 11 #[.agg #[.int .i64 k, .int .i64 h, .string t, .slice la nl cl, .slice ka nk ck, .slice va nv cv, .int .i64 n]] w (Yes w) := by
  have HR := Lib.hid fun (w' : World) (hb : Below w.heap.size w w') => (⟨fun x e => ⟨(hR.1 x e).1, (hR.1 x e).2.carry hb hb.size⟩, hR.2⟩ : Got w' (.fine trueV) k h t la ka va nl cl nk ck nv cv n)
  clear hR
  go_enter Tryz.func11, Tryz.ntmps11
  go_upto_region 1 with fail
  have hbX := below_alloc1 w (.cells #[.int .i64 k, .int .i64 h, .string t, .slice la nl cl, .slice ka nk ck, .slice va nv cv, .int .i64 n] 31)
  have hsX := size_alloc1 w (.cells #[.int .i64 k, .int .i64 h, .string t, .slice la nl cl, .slice ka nk ck, .slice va nv cv, .int .i64 n] 31)
  have hxX := at_alloc w (.cells #[.int .i64 k, .int .i64 h, .string t, .slice la nl cl, .slice ka nk ck, .slice va nv cv, .int .i64 n] 31)
  generalize w.alloc _ = X at *
  have hold : ∀ w', Below X.heap.size X w' → (fun w' : World => w'.cell? ⟨w.heap.size, 0, none⟩ = some (.int .i64 k) ∧ w'.cell? ⟨w.heap.size, 1, none⟩ = some (.int .i64 h) ∧ w'.cell? ⟨w.heap.size, 2, none⟩ = some (.string t) ∧ w'.cell? ⟨w.heap.size, 3, none⟩ = some (.slice la nl cl) ∧ w'.cell? ⟨w.heap.size, 4, none⟩ = some (.slice ka nk ck) ∧ w'.cell? ⟨w.heap.size, 5, none⟩ = some (.slice va nv cv) ∧ w'.cell? ⟨w.heap.size, 6, none⟩ = some (.int .i64 n) ∧ Below X.heap.size X w') w' := by
    intro w' hw
    obtain ⟨c0, c1, c2, c3, c4, c5, c6⟩ := of_block7 ((hw.block w.heap.size (by omega)).trans hxX)
    exact ⟨c0, c1, c2, c3, c4, c5, c6, hw⟩
  have Hold := Lib.hid hold
  have Bo : Hid (∀ w', Below X.heap.size X w' → Calls Tryz.prog 25 #[.bool true] w' fun e w'' => e = .returned (.agg #[.int .i64 2, .int .i64 0, .string ⟨#[]⟩, .slice none 0 0, .slice none 0 0, .slice none 0 0]) ∧ Below X.heap.size X w'') :=
    Lib.hid fun w' hb => (sbool_any w').mono fun e w'' h => ⟨h.1, hb.trans (h.2.mono hb.size)⟩
  have Gi : Hid (∀ w', Below X.heap.size X w' → Calls Tryz.prog 13 #[.agg #[.int .i64 k, .int .i64 h, .string t, .slice la nl cl, .slice ka nk ck, .slice va nv cv, .int .i64 n], .agg #[.int .i64 2, .int .i64 0, .string ⟨#[]⟩, .slice none 0 0, .slice none 0 0, .slice none 0 0]] w' fun e w'' => e = .returned (.bool true) ∧ Below X.heap.size X w'') :=
    Lib.hid fun w' hb => (given_any good_trueV (HR.out w' (hbX.trans (hb.mono hbX.size))) (rep_trueV _ _)).mono fun e w'' h => ⟨h.1, hb.trans (h.2.mono hb.size)⟩
  have HbX := Lib.hid hbX
  have hwd : Below X.heap.size X X.drew := Below.drew (Below.refl _ _)
  clear hold hbX hxX hsX HR
  go_region_held3 (fun w' : World => w'.cell? ⟨w.heap.size, 0, none⟩ = some (.int .i64 k) ∧ w'.cell? ⟨w.heap.size, 1, none⟩ = some (.int .i64 h) ∧ w'.cell? ⟨w.heap.size, 2, none⟩ = some (.string t) ∧ w'.cell? ⟨w.heap.size, 3, none⟩ = some (.slice la nl cl) ∧ w'.cell? ⟨w.heap.size, 4, none⟩ = some (.slice ka nk ck) ∧ w'.cell? ⟨w.heap.size, 5, none⟩ = some (.slice va nv cv) ∧ w'.cell? ⟨w.heap.size, 6, none⟩ = some (.int .i64 n) ∧ Below X.heap.size X w')
    (with_reducible refine Hold.out _ ?_; with_reducible assumption)
    (first
      | (go_at_call 25; refine (Bo.out _ (below_of7 (by assumption))).mono ?_; rintro e w6 ⟨rfl, hw6⟩)
      | (go_at_call 13; refine (Gi.out _ (below_of7 (by assumption))).mono ?_; rintro e w7 ⟨rfl, hw7⟩))
  all_goals
    go_wp2_with fail
    go_ret
    exact ⟨rfl, HbX.out.trans (Below.mono (by assumption) HbX.out.size)⟩

end Go.Proofs.YtpoibibbkjogpaaGreatDoor
