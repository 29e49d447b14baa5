/- Contract of gojq.updateObject over that of update. -/
/- Contract of gojq.updateArrayIndex over that of update. -/
/- Contracts of gojq.updateArrayIndex and update. -/
/- A range over a map whose round stores at a key that is there: which entries are still to come does not change. (The library has the round that deletes and the one that stores elsewhere.) -/
import Derived.Test.YtpoibibbkjogpaaGreatDoorM16
import Derived.Maps.RangeWalk
import Derived.Maps.Keyed
namespace Go.Proofs.YtpoibibbkjogpaaGreatDoor
open Go Go.RowKit Go.Maps Go.Deep Go.WideMaps

theorem pair_all {α : Type} {R : α → α → Prop} (hs : ∀ a b, R a b → R b a) {l : List α} (h : l.Pairwise R) {a b : α} (ha : a ∈ l) (hb : b ∈ l) (hne : a ≠ b) : R a b := by
  obtain ⟨i, hi, rfl⟩ := List.mem_iff_getElem.1 ha
  obtain ⟨j, hj, rfl⟩ := List.mem_iff_getElem.1 hb
  have h2 := List.pairwise_iff_getElem.1 h
  rcases Nat.lt_trichotomy i j with c | c | c
  · exact h2 i j hi hj c
  · subst c; exact absurd rfl hne
  · exact hs _ _ (h2 j i hj hi c)

theorem setO_upd {w w' : World} {S T Fa : Nat → Prop} {o : Option J} {k : ByteArray} {t : List (ByteArray × Part)} {e : Ending} (h : SetO w Fa T o k t e w') (hk : k.size ≤ 140737488351232) (htl : t.length + 1 ≤ 140737488351232)
    (hx : ∀ x ∈ t, x.1.size ≤ 140737488351232 ∧ (∀ q, x.2.f q → S q) ∧ RepJ w x.2.f x.2.j x.2.v) (hp : t.Pairwise Off) (hFa : ∀ q, Fa q → S q) (hFo : ∀ y ∈ t, y.1 ≠ k → ∀ q, Fa q → y.2.f q → False)
    (hd : ∀ q, S q → T q → False) (hS : ∀ q, S q → q < w.heap.size) (hT : ∀ q, T q → q < w.heap.size) : UpdR w S T (o.map fun z => .obj (putK (jOf t) k z)) e w' := by
  rcases h with ⟨rfl, er, he, rfl, hb⟩ | ⟨z, u, w1, bd, rfl, rfl, hr, hb1, hb2, hbd, hown⟩
  · exact updR_none hb he
  · have hs1 := hb1.size
    have hs2 := hb2.size
    have hb := hb1.trans (hb2.mono hs1)
    have hlt := hown.lt
    rw [entT_put t k ⟨z, u, NewS Fa T w w1⟩] at hown
    have hm : MapE w' bd (putK t k ⟨z, u, NewS Fa T w w1⟩) := MapE.tight hown (by have := putK_len t k (⟨z, u, NewS Fa T w w1⟩ : Part); omega)
    have hbdw : w.heap.size ≤ bd := by omega
    refine updR_some hb ?_
    show RepJ w' (NewS S T w w') (.obj (putK (jOf t) k z)) _
    have e : putK (jOf t) k z = jOf (putK t k ⟨z, u, NewS Fa T w w1⟩) := (jOf_put t k ⟨z, u, NewS Fa T w w1⟩).symm
    rw [e]
    refine obj_close (.inr (.inr ⟨hbdw, hlt⟩)) hm (fun x hxm => ?_) (putK_pair hp fun y hy hne => ?_)
    · rcases mem_putK.1 hxm with rfl | ⟨hxm, hne⟩
      · refine ⟨hk, fun hq => ?_, fun q hq => ?_, hr.carry fun q hq => hb2.block q ?_⟩
        · rcases hq with hq | hq | hq
          · have := hS _ (hFa _ hq); omega
          · have := hT _ hq; omega
          · omega
        · rcases hq with hq | hq | hq
          · exact .inl (hFa _ hq)
          · exact .inr (.inl hq)
          · exact .inr (.inr ⟨hq.1, by omega⟩)
        · rcases hq with hq | hq | hq
          · have := hS _ (hFa _ hq); omega
          · have := hT _ hq; omega
          · omega
      · obtain ⟨h1, h2, h3⟩ := hx x hxm
        exact ⟨h1, fun hq => by have := hS _ (h2 _ hq); omega, fun q hq => .inl (h2 q hq), h3.carry fun q hq => hb.block q (hS _ (h2 _ hq))⟩
    · have h : Off (k, (⟨z, u, NewS Fa T w w1⟩ : Part)) y := fun q h1 h2 => by
        have h3 := (hx y hy).2.1 q h2
        rcases h1 with h1 | h1 | h1
        · exact hFo y hy hne q h1 h2
        · exact hd q h3 h1
        · have := hS _ h3; omega
      exact ⟨h, h.symm⟩

theorem updObj_nil {am : Option Nat} {k : ByteArray} {p : List Stp} {n : J} {y pv : Value} {S T : Nat → Prop} {w : World} (hk : k.size ≤ 140737488351232) (hy : RepJ w T n y) (hd : ∀ q, S q → T q → False) (hS : ∀ q, S q → q < w.heap.size) (hT : ∀ q, T q → q < w.heap.size) (hp : StpsAt w pv p) (IH : UpdOK am p n y) :
    Calls Tryz.prog 90 #[.map none, .string k, pv, y, .map am] w (UpdR w S T (updJ .null (.key k :: p) n)) := by
  have hf := hole_form hy
  have hu := IH .null .nilIface pv (fun _ => False) T w .null (fine_null p n) (.null _) hy (fun _ h => h.elim) (fun _ h => h.elim) hT hp
  have hlk := look_none hk w
  obtain ⟨pa, pc, epv, _⟩ := hp
  rcases hf with ⟨hh, rfl⟩ | ⟨hh, hy2⟩
  · have e : updJ .null (.key k :: p) n = some .null := by simp [updJ, hh]
    rw [e]
    have q0 := eql_hole w
    have q1 := eqm_nil w
    clear hu
    subst epv
    go_enter Tryz.func90, Tryz.ntmps90
    go_wp2_with fail
    go_ret2
    exact updR_some (Below.refl _ _) (.null _)
  · have e : updJ .null (.key k :: p) n = (updJ .null p n).map fun u => .obj (putK (jOf []) k u) := by simp [updJ, hh, jOf, putK, insK]
    rw [e]
    refine (updObj_walk (S := fun _ => False) (t := []) hk (.inl rfl) ⟨_, _, _, epv⟩ (ok := false) (hy2.imp_right fun ⟨t, z, e, h⟩ => ⟨t, z, e, fun _ => h⟩) hlk hu (fun ty w' _ => by kernel_rfl) (by decide) ?_).mono fun e w' h =>
      setO_upd h hk (by decide) (fun x hx => by cases hx) List.Pairwise.nil (fun q h => h.elim) (fun y hy => by cases hy) hd hS hT
    intro w' bd hb hbd ho
    refine (copy_none bd w').mono ?_
    rintro e w'' ⟨rfl, rfl⟩
    exact ⟨rfl, ho.alloc _, World.grownBy_alloc _ _ _⟩

theorem slim_obj {m : List (ByteArray × J)} (h : Slim (.obj m)) : m.length ≤ 2000000000000 ∧ ∀ p ∈ m, Slim p.2 := by
  cases h with
  | obj hl h => exact ⟨hl, h⟩
theorem slim_arr {l : List J} (h : Slim (.arr l)) : l.length ≤ 2000000000000 ∧ ∀ x ∈ l, Slim x := by
  cases h with
  | arr hl h => exact ⟨hl, h⟩

theorem updObj_map {am : Option Nat} {k : ByteArray} {p : List Stp} {n : J} {m : List (ByteArray × J)} {r : Nat} {y pv : Value} {S T : Nat → Prop} {w : World} (hk : k.size ≤ 140737488351232) (hfi : Fine (.obj m) (.key k :: p) n) (hsl : Slim (.obj m)) (hm : RepJ w S (.obj m) (.iface 62 (.map (some r)))) (hy : RepJ w T n y)
    (hd : ∀ q, S q → T q → False) (hS : ∀ q, S q → q < w.heap.size) (hT : ∀ q, T q → q < w.heap.size) (hp : StpsAt w pv p) (IH : UpdOK am p n y) :
    Calls Tryz.prog 90 #[.map (some r), .string k, pv, y, .map am] w (UpdR w S T (updJ (.obj m) (.key k :: p) n)) := by
  have hf := hole_form hy
  have hm0 := hm
  obtain ⟨r', t, er, hr, rfl, hE, hx, hpw⟩ := obj_open hm
  obtain rfl : r = r' := by injection er with _ e; injection e with e; injection e
  obtain ⟨hl, hsl⟩ := slim_obj hsl
  have hlen : (jOf t).length = t.length := by simp [jOf]
  have hrw : r < w.heap.size := hE.lt
  obtain ⟨pa, pc, epv, _⟩ := id hp
  have hlen2 : ∀ ty w', Below w.heap.size w w' → (Builtin.len_ #[62] ty #[.map (some r)]).run Tryz.prog w' = .ok (.int .i64 t.length) w' := fun ty w' hb => by
    have := (MapE.at.1 (hE.carry (hb.block r hrw))).len ty
    rwa [hlen] at this
  have hcp : ∀ w' bd, Below w.heap.size w w' → w.heap.size ≤ bd → w'.ownsMap Tryz.prog 9 heldR bd 0 (.map []) → Calls Tryz.prog 122 #[.map (some bd), .map (some r)] w' fun e w'' => e = .returned (.tuple #[]) ∧ w''.ownsMap Tryz.prog 9 heldR bd t.length (.map (entT t)) ∧ w'.grownBy w'' (some bd) :=
    fun w' bd hb hbd ho => copy_any bd t r w' ho (hE.carry (hb.block r hrw)) (by omega)
  cases hg : getK t k with
  | some a =>
    have hmem := getK_mem hg
    obtain ⟨h1, h2, h3, h4⟩ := hx _ hmem
    have e : updJ (.obj (jOf t)) (.key k :: p) n = (updJ a.j p n).map fun u => .obj (putK (jOf t) k u) := by simp [updJ, getK_jOf, hg]
    rw [e]
    have hu := IH a.j a.v pv a.f T w (hsl (k, a.j) (List.mem_map.2 ⟨_, hmem, rfl⟩)) (hfi a.j (by rw [getK_jOf, hg]; rfl)) h4 hy (fun q h => hd q (h3 q h)) (fun q h => hS q (h3 q h)) hT hp
    refine (updObj_walk (S := a.f) (t := t) hk h4.form ⟨_, _, _, epv⟩ (ok := true) ?_ (hE.look_some hk hg) hu hlen2 (by omega) hcp).mono fun e w' h =>
      setO_upd h hk (by omega) (fun x hxm => ⟨(hx x hxm).1, (hx x hxm).2.2.1, (hx x hxm).2.2.2⟩) hpw h3 (fun y hym hne q h5 h6 => pair_all (fun a b => Off.symm) hpw hmem hym (fun e => hne (by rw [← e])) q h5 h6) hd hS hT
    rcases hy.form with h | ⟨t, z, e⟩
    · exact .inl h
    · exact .inr ⟨t, z, e, fun h => by cases h⟩
  | none =>
    rcases hf with ⟨hh, rfl⟩ | ⟨hh, hy2⟩
    · have e : updJ (.obj (jOf t)) (.key k :: p) n = some (.obj (jOf t)) := by simp [updJ, getK_jOf, hg, hh]
      rw [e]
      have q0 := eql_hole w
      have q1 := eqm_some r w
      have hlk := hE.look_none hk hg
      have Hm := Lib.hid hm0
      clear hm0 hlen2 hcp hx hpw hE
      subst epv
      go_enter Tryz.func90, Tryz.ntmps90
      go_wp2_with fail
      go_ret2
      exact updR_some (Below.refl _ _) (Hm.out.mono fun q h => .inl h)
    · have e : updJ (.obj (jOf t)) (.key k :: p) n = (updJ .null p n).map fun u => .obj (putK (jOf t) k u) := by simp [updJ, getK_jOf, hg, hh]
      rw [e]
      have hu := IH .null .nilIface pv (fun _ => False) T w .null (fine_null p n) (.null _) hy (fun _ h => h.elim) (fun _ h => h.elim) hT hp
      exact (updObj_walk (S := fun _ => False) (t := t) hk (.inl rfl) ⟨_, _, _, epv⟩ (ok := false) (hy2.imp_right fun ⟨t, z, e, h⟩ => ⟨t, z, e, fun _ => h⟩) (hE.look_none hk hg) hu hlen2 (by omega) hcp).mono fun e w' h =>
        setO_upd h hk (by omega) (fun x hxm => ⟨(hx x hxm).1, (hx x hxm).2.2.1, (hx x hxm).2.2.2⟩) hpw (fun q h => h.elim) (fun y hym hne q h5 h6 => h5.elim) hd hS hT

end Go.Proofs.YtpoibibbkjogpaaGreatDoor

namespace Go.Proofs.YtpoibibbkjogpaaGreatDoor
open Go Go.RowKit Go.Maps Go.Deep Go.WideMaps

theorem cur_of {w : World} {n : Nat} {t : TypeId} : (w.alloc (.cells (madeCells #[.nilIface] n) t)).heap[w.heap.size]? = some (.cells (List.replicate n Value.nilIface).toArray t) := by
  obtain ⟨c, hb, hs, hc⟩ := World.rowIs_made w .nilIface n t
  rw [hb]
  congr 2
  apply Array.ext
  · simp [hs]
  · intro i h1 h2
    have := hc i (by omega)
    rw [Array.getElem?_eq_getElem h1] at this
    simpa using this

theorem clamp_pad (i n : Nat) : clampI i (-1) n = ((if i < n then i else n : Nat) : Int) := by
  unfold clampI
  simp only
  rw [if_neg (show ¬ (i : Int) < 0 by omega), if_neg (show ¬ (i : Int) < -1 by omega)]
  by_cases h : i < n
  · rw [if_pos h, if_pos (by omega)]
  · rw [if_neg h, if_neg (by omega)]

def valAt (t : List Part) (j : Nat) : Value := (t[j]?.map (·.v)).getD .nilIface
theorem splice_row {w : World} {bd C : Nat} {ty : TypeId} {t : List Part} (h : w.heap[bd]? = some (.cells (splice (List.replicate C Value.nilIface) 0 (t.map (·.v))).toArray ty)) (ht : t.length ≤ C) : w.rowIs bd ty C (valAt t) := by
  refine ⟨_, h, ?_, fun i hi => ?_⟩
  · simp [splice]
    omega
  · unfold valAt
    simp only [splice, List.take_zero, List.nil_append, List.getElem?_toArray]
    by_cases hit : i < t.length
    · rw [List.getElem?_append_left (by simpa using hit)]
      simp [hit]
    · have hi2 : i - t.length < C - t.length := by omega
      rw [List.getElem?_append_right (by simpa using Nat.le_of_not_lt hit)]
      simp [hit, hi2]

/-- 'copy' of an array's elements into a new row. -/
theorem copy_run {w w3 : World} {G C L c : Nat} {t : List Part} {a : Option Addr} (hcur : w.heap[G]? = some (.cells (List.replicate C Value.nilIface).toArray 20)) (hL : t.length ≤ L) (hLC : L ≤ C)
    (hsrc : 0 < t.length → ∃ b o, a = some ⟨b, o, none⟩ ∧ ∀ i (hi : i < t.length), w.cell? ⟨b, o + i, none⟩ = some t[i].v) (h1 : ∀ x ∈ t, x.v.oneCell' = true) (hb : Below w3.heap.size w3 w) (hG : w3.heap.size ≤ G) :
    ∃ w', (∀ ty, (Builtin.copy_ #[59, 59] ty #[.slice (some ⟨G, 0, none⟩) L C, .slice a t.length c]).run Tryz.prog w = .ok (.int .i64 t.length) w') ∧ w'.rowIs G 20 C (valAt t) ∧ Below w3.heap.size w3 w' := by
  have hsz : (Tryz.prog.info? 20).map (·.size) = some 1 := by kernel_rfl
  by_cases h0 : t.length = 0
  · obtain rfl : t = [] := List.eq_nil_of_length_eq_zero h0
    refine ⟨w, fun ty => run_copy_none w 59 59 ty 20 (some ⟨G, 0, none⟩) a L C 0 c Tryz.underlying59 hsz (by simp), ?_, hb⟩
    exact splice_row (t := []) (by simpa [splice] using hcur) (Nat.zero_le _)
  · obtain ⟨b, o, rfl, hcel⟩ := hsrc (by omega)
    have hone : ∀ v ∈ t.map (·.v), v.oneCell' = true := by
      intro v hv
      obtain ⟨x, hx, rfl⟩ := List.mem_map.1 hv
      exact h1 x hx
    have hs : ∀ j v, (t.map (·.v))[j]? = some v → w.cell? ((⟨b, o, none⟩ : Addr).add j) = some v := by
      intro j v hj
      obtain ⟨hjl, rfl⟩ := List.getElem?_eq_some_iff.1 hj
      have hjl' : j < t.length := by simpa using hjl
      have e2 : (⟨b, o, none⟩ : Addr).add j = ⟨b, o + j, none⟩ := by unfold Addr.add; split <;> simp_all
      rw [e2, List.getElem_map]
      exact hcel j hjl'
    have hr := fun ty => run_copy_row (P := Tryz.prog) w 59 59 ty 20 G 0 L C ⟨b, o, none⟩ t.length c _ 20 (t.map (·.v)) Tryz.underlying59 hsz hcur (by rw [List.length_map]; exact (Nat.min_eq_left hL).symm) hs (by simp; omega) hone
    refine ⟨_, fun ty => (hr ty).trans (by rw [List.length_map]; rfl), splice_row (t := t) ?_ (by omega), below_setRow hb hG _⟩
    have h := setRow_heap w G _ (splice (List.replicate C Value.nilIface) 0 (t.map (·.v))).toArray _ _ hcur
    simpa [splice] using h

/-- What updateArrayIndex hands back where it sets. -/
def SetA (w : World) (S T : Nat → Prop) (o : Option J) (i c : Nat) (t : List Part) (e : Ending) (w' : World) : Prop :=
  (o = none ∧ ∃ er, ErrV er ∧ e = .returned (.tuple #[.nilIface, er]) ∧ Below w.heap.size w w') ∨
  ∃ z u w1 bd f, o = some z ∧ e = .returned (.tuple #[.iface 59 (.slice (some ⟨bd, 0, none⟩) (max t.length (i + 1)) (max (max t.length (i + 1)) c)), .nilIface]) ∧ RepJ w1 (NewS S T w w1) z u ∧ Below w.heap.size w w1 ∧ Below w1.heap.size w1 w' ∧ w1.heap.size ≤ bd ∧
    w'.rowIs bd 20 (max (max t.length (i + 1)) c) f ∧ ∀ j, j < max t.length (i + 1) → f j = if j = i then u else valAt t j

set_option maxHeartbeats 4000000 in
set_option maxRecDepth 100000 in
theorem updArr_walk {am : Option Nat} {i : Nat} {pv y : Value} {a : Option Addr} {c : Nat} {t : List Part} {o : Option J} {S T : Nat → Prop} {w : World} (hi : i ≤ 1000) (fx : IsI (valAt t i)) (fp : ∃ a n c, pv = .slice a n c) (fy : NoHole (decide (i < t.length)) y)
    (htl : t.length ≤ 2000000000000) (hc : t.length ≤ c) (hcb : c ≤ capMax) (h1 : ∀ x ∈ t, x.v.oneCell' = true) (hcel : 0 < t.length → ∃ b o, a = some ⟨b, o, none⟩ ∧ b < w.heap.size ∧ ∀ i (hi : i < t.length), w.cell? ⟨b, o + i, none⟩ = some t[i].v)
    (hu : Calls Tryz.prog 65 #[valAt t i, pv, y, .map am] w (UpdR w S T o)) :
    Calls Tryz.prog 91 #[.slice a t.length c, .int .i64 i, pv, y, .map am] w (SetA w S T o i c t) := by
  have Hu := Lib.hid hu
  have Hcel := Lib.hid hcel
  have H1 := Lib.hid h1
  clear hu hcel h1
  obtain ⟨pa, pn, pc, rfl⟩ := fp
  have q1 := eql_nil w
  have hcl := clamp_any i (-1) t.length (by omega) (by omega) w
  rw [clamp_pad] at hcl
  have Hcl := Lib.hid hcl
  clear hcl
  have hlc : max t.length (i + 1) ≤ capMax := by unfold capMax; omega
  by_cases hit : i < t.length
  · obtain ⟨b, ao, rfl, hb, hce⟩ := Hcel.out (by omega)
    have hci := hce i hit
    have ev : valAt t i = t[i].v := by unfold valAt; simp [hit]
    rw [ev] at fx Hu
    rw [if_pos hit] at Hcl
    generalize t[i].v = x at *
    have u1 : (i : Int) < (t.length : Int) := by omega
    have u2 : (0 : Int) ≤ (i : Int) := by omega
    have e1 : max t.length (i + 1) = t.length := by omega
    have Hce := Lib.hid hce
    clear hce Hcel
    obtain ⟨C, hC⟩ : ∃ C, C = max t.length c := ⟨_, rfl⟩
    have HC := Lib.hid hC
    clear hC
    rcases fy with rfl | ⟨ty, y, rfl, _⟩ <;> rcases fx with rfl | ⟨tx, x, rfl⟩
    all_goals
      go_enter Tryz.func91, Tryz.ntmps91
      go_wp2_with fail
      refine Hcl.out.mono ?_
      rintro e w1 ⟨rfl, rfl⟩
      go_wp2_with fail
      refine Hu.out.mono ?_
      rintro e w2 ⟨u, er, rfl, fu, fe, hb1, hsome, hnone⟩
      cases ho : o with
      | none =>
        have he := hnone ho
        obtain ⟨te, ae, rfl⟩ := he.form
        have He := Lib.hid he
        have Hb := Lib.hid hb1
        clear hnone hsome fe he hb1 Hu q1 hci
        rcases fu with rfl | ⟨tu, u, rfl⟩
        all_goals
          go_wp2_with fail
          go_ret2
          exact .inl ⟨ho, _, He.out, rfl, Hb.out⟩
      | some z =>
        obtain ⟨rfl, hr⟩ := hsome z ho
        have Hr := Lib.hid hr
        have Hb := Lib.hid hb1
        have u3 : ¬ ((i : Int) ≥ (t.length : Int)) := by omega
        clear hnone hsome fe hr Hu q1 hci
        rcases fu with rfl | ⟨tu, u, rfl⟩
        all_goals
          go_wp2_with fail
          refine (allocated_any _ _ _).mono ?_
          rintro e w3 ⟨rfl, rfl⟩
          go_wp2_with fail
          have mk := makeArray_any (.map am) t.length c (by omega) hcb w3
          rw [← HC.out] at mk
          refine mk.mono ?_
          rintro e w4 ⟨rfl, rfl⟩
          have hcur := cur_of (w := w3) (n := C) (t := 20)
          have hb4 : Below w3.heap.size w3 (w3.alloc (.cells (madeCells #[.nilIface] C) 20)) := below_alloc1 _ _
          have hle : t.length ≤ C := by rw [HC.out]; omega
          have hic : i < C := by rw [HC.out]; omega
          obtain ⟨w5, hcpy, row5, hb5⟩ := copy_run (c := c) hcur (Nat.le_refl _) hle (fun _ => ⟨b, ao, rfl, fun j hj => ((Hb.out.trans (hb4.mono Hb.out.size)).cell (p := ⟨b, ao + j, none⟩) hb).trans (Hce.out j hj)⟩) H1.out hb4 (Nat.le_refl _)
          have hcpy := hcpy 3
          generalize w3.alloc _ = w4 at *
          have y1 := row5.cell hic
          have f1 := row5.frozen i
          have Row := Lib.hid row5
          have Hb5 := Lib.hid hb5
          clear row5 hb5 hb4 hcur hb1
          go_wp2_with fail
          go_ret2
          exact .inr ⟨z, _, w3, _, _, ho, by rw [e1, ← HC.out]; rfl, Hr.out, Hb.out, Hb5.out.setCell (Nat.le_refl _) _, Nat.le_refl _, by rw [e1, ← HC.out]; exact Row.out.set i _, fun j hj => rfl⟩
  · have ev : valAt t i = .nilIface := by unfold valAt; simp [hit]
    rw [ev] at fx Hu
    rw [if_neg hit] at Hcl
    have u4 : decide ((536870912 : Int) ≤ (i : Int)) = false := by simp; omega
    have e1 : max t.length (i + 1) = i + 1 := by omega
    obtain ⟨C, hC⟩ : ∃ C, C = max (i + 1) c := ⟨_, rfl⟩
    have HC := Lib.hid hC
    have hdec : decide (i < t.length) = false := by simpa using hit
    rw [hdec] at fy
    clear hC fx
    rcases fy with rfl | ⟨ty, y, rfl, hty⟩
    all_goals
      try have q2 := eql_other ty y (hty rfl) w
      try clear hty
      go_enter Tryz.func91, Tryz.ntmps91
      go_wp2_with fail
      refine Hcl.out.mono ?_
      rintro e w1 ⟨rfl, rfl⟩
      go_wp2_with fail
      refine Hu.out.mono ?_
      rintro e w2 ⟨u, er, rfl, fu, fe, hb1, hsome, hnone⟩
      cases ho : o with
      | none =>
        have he := hnone ho
        obtain ⟨te, ae, rfl⟩ := he.form
        have He := Lib.hid he
        have Hb := Lib.hid hb1
        clear hnone hsome fe he hb1 Hu q1
        rcases fu with rfl | ⟨tu, u, rfl⟩
        all_goals
          go_wp2_with fail
          go_ret2
          exact .inl ⟨ho, _, He.out, rfl, Hb.out⟩
      | some z =>
        obtain ⟨rfl, hr⟩ := hsome z ho
        have Hr := Lib.hid hr
        have Hb := Lib.hid hb1
        have u3 : ((i : Int) ≥ (t.length : Int)) := by omega
        clear hnone hsome fe hr Hu q1
        rcases fu with rfl | ⟨tu, u, rfl⟩
        all_goals
          go_wp2_with fail
          refine (allocated_any _ _ _).mono ?_
          rintro e w3 ⟨rfl, rfl⟩
          go_wp2_with fail
          have mk := makeArray_any (.map am) (i + 1) c (by omega) hcb w3
          rw [← HC.out] at mk
          refine mk.mono ?_
          rintro e w4 ⟨rfl, rfl⟩
          have hcur := cur_of (w := w3) (n := C) (t := 20)
          have hb4 : Below w3.heap.size w3 (w3.alloc (.cells (madeCells #[.nilIface] C) 20)) := below_alloc1 _ _
          have hle : i + 1 ≤ C := by rw [HC.out]; omega
          have hic : i < C := by rw [HC.out]; omega
          obtain ⟨w5, hcpy, row5, hb5⟩ := copy_run (c := c) (a := a) hcur (show t.length ≤ i + 1 by omega) hle (fun h0 => by
            obtain ⟨b, ao, e, hb, hce⟩ := Hcel.out h0
            exact ⟨b, ao, e, fun j hj => ((Hb.out.trans (hb4.mono Hb.out.size)).cell (p := ⟨b, ao + j, none⟩) hb).trans (hce j hj)⟩) H1.out hb4 (Nat.le_refl _)
          have hcpy := hcpy 3
          generalize w3.alloc _ = w4 at *
          have y1 := row5.cell hic
          have f1 := row5.frozen i
          have Row := Lib.hid row5
          have Hb5 := Lib.hid hb5
          clear row5 hb5 hb4 hcur hb1
          go_wp2_with fail
          go_ret2
          exact .inr ⟨z, _, w3, _, _, ho, by rw [e1, ← HC.out]; rfl, Hr.out, Hb.out, Hb5.out.setCell (Nat.le_refl _) _, Nat.le_refl _, by rw [e1, ← HC.out]; exact Row.out.set i _, fun j hj => rfl⟩

end Go.Proofs.YtpoibibbkjogpaaGreatDoor

namespace Go.Proofs.YtpoibibbkjogpaaGreatDoor
open Go Go.RowKit Go.Maps Go.Deep Go.WideMaps

def nullP : Part := ⟨.null, .nilIface, fun _ => False⟩
def padP (t : List Part) (i : Nat) (a : Part) : List Part := (t ++ List.replicate (i + 1 - t.length) nullP).set i a
theorem padP_len (t : List Part) (i : Nat) (a : Part) : (padP t i a).length = max t.length (i + 1) := by
  unfold padP; simp; omega
theorem padP_j (t : List Part) (i : Nat) (a : Part) : (padP t i a).map (·.j) = padJ (t.map (·.j)) i a.j := by
  unfold padP padJ
  rw [List.map_set, List.map_append, List.map_replicate, List.length_map]
  rfl
theorem padP_get (t : List Part) (i : Nat) (a : Part) (j : Nat) (hj : j < (padP t i a).length) : (padP t i a)[j] = if i = j then a else (t[j]?).getD nullP := by
  unfold padP at hj ⊢
  rw [List.getElem_set]
  split
  · rfl
  · by_cases h : j < t.length
    · rw [List.getElem_append_left h]; simp [h]
    · rw [List.getElem_append_right (by omega)]; simp [h]
theorem padP_mem {t : List Part} {i : Nat} {a x : Part} (h : x ∈ padP t i a) : x = a ∨ x ∈ t ∨ x = nullP := by
  obtain ⟨j, hj, rfl⟩ := List.mem_iff_getElem.1 h
  rw [padP_get]
  split
  · exact .inl rfl
  · by_cases h : j < t.length
    · exact .inr (.inl (by simp [h]))
    · exact .inr (.inr (by simp [h]))

def OffP (x y : Part) : Prop := ∀ k, x.f k → y.f k → False
theorem padP_pair {t : List Part} {i : Nat} {a : Part} (hp : t.Pairwise OffP) (ha : ∀ j (hj : j < t.length), j ≠ i → OffP t[j] a) : (padP t i a).Pairwise OffP := by
  rw [List.pairwise_iff_getElem]
  intro p q hp1 hq1 hpq
  rw [padP_get, padP_get]
  by_cases e1 : i = p
  · subst e1
    rw [if_pos rfl, if_neg (by omega)]
    by_cases hq : q < t.length
    · simp only [List.getElem?_eq_getElem hq, Option.getD_some]
      exact fun k h1 h2 => ha q hq (by omega) k h2 h1
    · intro k h1 h2
      simp [hq, nullP] at h2
  · rw [if_neg e1]
    by_cases hp2 : p < t.length
    · simp only [List.getElem?_eq_getElem hp2, Option.getD_some]
      by_cases e2 : i = q
      · rw [if_pos e2]; exact ha p hp2 (by omega)
      · rw [if_neg e2]
        by_cases hq : q < t.length
        · simp only [List.getElem?_eq_getElem hq, Option.getD_some]
          exact List.pairwise_iff_getElem.1 hp p q hp2 hq hpq
        · intro k h1 h2
          simp [hq, nullP] at h2
    · intro k h1 h2
      simp [hp2, nullP] at h1

theorem setA_upd {w w' : World} {S T Fa : Nat → Prop} {o : Option J} {i c : Nat} {t : List Part} {e : Ending} (h : SetA w Fa T o i c t e w') (hi : i ≤ 1000) (htl : t.length ≤ 2000000000000) (hcb : c ≤ capMax)
    (hx : ∀ x ∈ t, (∀ q, x.f q → S q) ∧ RepJ w x.f x.j x.v) (hp : t.Pairwise OffP) (hFa : ∀ q, Fa q → S q) (hFo : ∀ j (hj : j < t.length), j ≠ i → ∀ q, Fa q → t[j].f q → False)
    (hd : ∀ q, S q → T q → False) (hS : ∀ q, S q → q < w.heap.size) (hT : ∀ q, T q → q < w.heap.size) : UpdR w S T (o.map fun z => .arr (padJ (t.map (·.j)) i z)) e w' := by
  rcases h with ⟨rfl, er, he, rfl, hb⟩ | ⟨z, u, w1, bd, f, rfl, rfl, hr, hb1, hb2, hbd, hrow, hf⟩
  · exact updR_none hb he
  · have hs1 := hb1.size
    have hs2 := hb2.size
    have hb := hb1.trans (hb2.mono hs1)
    have hlt := hrow.lt
    have hbdw : w.heap.size ≤ bd := by omega
    have hlen := padP_len t i ⟨z, u, NewS Fa T w w1⟩
    refine updR_some hb ?_
    have hj := padP_j t i ⟨z, u, NewS Fa T w w1⟩
    simp only at hj
    show RepJ w' (NewS S T w w') (.arr (padJ (t.map (·.j)) i z)) _
    rw [← hj, ← hlen]
    have hcap : max (max t.length (i + 1)) c ≤ capMax := by unfold capMax at hcb ⊢; omega
    refine arr_close (f := f) (N := max (max t.length (i + 1)) c) (by rw [hlen]; omega) (by rw [hlen]; omega) (by rw [hlen]; exact hcap) (.inr (.inr ⟨hbdw, hlt⟩)) hrow (by rw [hlen]; omega) (fun j hj => ?_) (fun x hxm => ?_) (padP_pair hp fun j hj hne q h1 h2 => ?_)
    · rw [hf j (by rw [← hlen]; exact hj), padP_get]
      by_cases e : i = j
      · rw [if_pos e, if_pos e.symm]
      · rw [if_neg e, if_neg (Ne.symm e)]
        unfold valAt
        by_cases h : j < t.length
        · simp [h]
        · simp [h, nullP]
    · rcases padP_mem hxm with rfl | hxm | rfl
      · refine ⟨fun hq => ?_, fun q hq => ?_, hr.carry fun q hq => hb2.block q ?_⟩
        · rcases hq with hq | hq | hq
          · have := hS _ (hFa _ hq); omega
          · have := hT _ hq; omega
          · omega
        · rcases hq with hq | hq | hq
          · exact .inl (hFa _ hq)
          · exact .inr (.inl hq)
          · exact .inr (.inr ⟨hq.1, by omega⟩)
        · rcases hq with hq | hq | hq
          · have := hS _ (hFa _ hq); omega
          · have := hT _ hq; omega
          · omega
      · obtain ⟨h2, h3⟩ := hx x hxm
        exact ⟨fun hq => by have := hS _ (h2 _ hq); omega, fun q hq => .inl (h2 q hq), h3.carry fun q hq => hb.block q (hS _ (h2 _ hq))⟩
      · exact ⟨fun h => h, fun q h => h.elim, .null _⟩
    · have h3 := (hx _ (List.getElem_mem hj)).1 q h1
      rcases h2 with h2 | h2 | h2
      · exact hFo j hj hne q h2 h1
      · exact hd q h3 h2
      · have := hS _ h3; omega

theorem rep_one {w : World} {S : Nat → Prop} {j : J} {v : Value} (h : RepJ w S j v) : v.oneCell' = true := by
  cases h <;> rfl

theorem updArr_nil {am : Option Nat} {i : Nat} {p : List Stp} {n : J} {y pv : Value} {S T : Nat → Prop} {w : World} (hi : i ≤ 1000) (hy : RepJ w T n y) (hd : ∀ q, S q → T q → False) (hS : ∀ q, S q → q < w.heap.size) (hT : ∀ q, T q → q < w.heap.size) (hp : StpsAt w pv p) (IH : UpdOK am p n y) :
    Calls Tryz.prog 91 #[.slice none 0 0, .int .i64 i, pv, y, .map am] w (UpdR w S T (updJ .null (.idx i :: p) n)) := by
  have hf := hole_form hy
  have hu := IH .null .nilIface pv (fun _ => False) T w .null (fine_null p n) (.null _) hy (fun _ h => h.elim) (fun _ h => h.elim) hT hp
  obtain ⟨pa, pc, epv, _⟩ := hp
  rcases hf with ⟨hh, rfl⟩ | ⟨hh, hy2⟩
  · have e : updJ .null (.idx i :: p) n = some .null := by simp [updJ, hh]
    rw [e]
    have q0 := eql_hole w
    have q1 := eqs_nil 0 0 w
    have hcl := clamp_any i (-1) 0 (by omega) (by omega) w
    have ec := clamp_pad i 0
    simp only [Nat.not_lt_zero, if_false] at ec
    rw [show ((0 : Nat) : Int) = 0 from rfl] at ec
    rw [ec] at hcl
    clear hu
    subst epv
    go_enter Tryz.func91, Tryz.ntmps91
    go_wp2_with fail
    refine hcl.mono ?_
    rintro e w1 ⟨rfl, rfl⟩
    go_wp2_with fail
    go_ret2
    exact updR_some (Below.refl _ _) (.null _)
  · have e : updJ .null (.idx i :: p) n = (updJ .null p n).map fun u => .arr (padJ (([] : List Part).map (·.j)) i u) := by simp [updJ, hh]
    rw [e]
    exact (updArr_walk (S := fun _ => False) (t := []) (a := none) (c := 0) hi (.inl (by simp [valAt])) ⟨_, _, _, epv⟩ (hy2.imp_right fun ⟨t, z, e, h⟩ => ⟨t, z, e, fun _ => h⟩) (by decide) (Nat.le_refl _) (Nat.zero_le _) (fun x hx => by cases hx) (fun h => by simp at h) (by simpa [valAt] using hu)).mono fun e w' h =>
      setA_upd h hi (by decide) (Nat.zero_le _) (fun x hx => by cases hx) List.Pairwise.nil (fun q h => h.elim) (fun j hj => by simp at hj) hd hS hT

set_option maxRecDepth 100000 in
theorem updArr_past {i : Nat} {L : Nat} {l : List J} {a : Addr} {S T : Nat → Prop} {w : World} (hi : i ≤ 1000) (hL : L ≤ 2000000000000) (hit : ¬ i < L) (c : Nat) (pa : Option Addr) (pn pc : Nat) (am : Option Nat) (hm : RepJ w S (.arr l) (.iface 59 (.slice (some a) L c))) :
    Calls Tryz.prog 91 #[.slice (some a) L c, .int .i64 i, .slice pa pn pc, .iface 108 (.agg #[]), .map am] w (UpdR w S T (some (.arr l))) := by
  have q0 := eql_hole w
  have q1 := eqs_some a L c w
  have hcl := clamp_any i (-1) L (by omega) (by omega) w
  have ec := clamp_pad i L
  rw [if_neg hit] at ec
  rw [ec] at hcl
  have Hm := Lib.hid hm
  have u1 : ¬ ((L : Int) < 0) := by omega
  have u2 : ¬ ((L : Int) < (L : Int)) := by omega
  clear hm
  go_enter Tryz.func91, Tryz.ntmps91
  go_wp2_with fail
  refine hcl.mono ?_
  rintro e w1 ⟨rfl, rfl⟩
  go_wp2_with fail
  go_ret2
  exact updR_some (Below.refl _ _) (Hm.out.mono fun q h => .inl h)

theorem updArr_list {am : Option Nat} {i : Nat} {p : List Stp} {n : J} {l : List J} {a : Option Addr} {k c : Nat} {y pv : Value} {S T : Nat → Prop} {w : World} (hi : i ≤ 1000) (hfi : Fine (.arr l) (.idx i :: p) n) (hsl : Slim (.arr l)) (hm : RepJ w S (.arr l) (.iface 59 (.slice a k c))) (hy : RepJ w T n y)
    (hd : ∀ q, S q → T q → False) (hS : ∀ q, S q → q < w.heap.size) (hT : ∀ q, T q → q < w.heap.size) (hp : StpsAt w pv p) (IH : UpdOK am p n y) :
    Calls Tryz.prog 91 #[.slice a k c, .int .i64 i, pv, y, .map am] w (UpdR w S T (updJ (.arr l) (.idx i :: p) n)) := by
  have hf := hole_form hy
  obtain ⟨a', c', t, er, rfl, h16, hc, ⟨hcb, hnn⟩, hcel, hx, hpw⟩ := arr_open hm
  obtain ⟨rfl, rfl, rfl⟩ : a = a' ∧ k = t.length ∧ c = c' := by injection er with _ e; injection e with e1 e2 e3; exact ⟨e1, e2, e3⟩
  obtain ⟨hl, hsl⟩ := slim_arr hsl
  rw [List.length_map] at hl
  obtain ⟨pa, pc, epv, _⟩ := id hp
  have hcel2 : 0 < t.length → ∃ b o, a = some ⟨b, o, none⟩ ∧ b < w.heap.size ∧ ∀ i (hi : i < t.length), w.cell? ⟨b, o + i, none⟩ = some t[i].v := fun h0 => by
    obtain ⟨b, o, e, hb, hc, _⟩ := hcel h0
    exact ⟨b, o, e, hS _ hb, hc⟩
  have h1 : ∀ x ∈ t, x.v.oneCell' = true := fun x hxm => rep_one (hx x hxm).2
  by_cases hit : i < t.length
  · obtain ⟨h2, h3⟩ := hx _ (List.getElem_mem hit)
    have ev : valAt t i = t[i].v := by unfold valAt; simp [hit]
    have e : updJ (.arr (t.map (·.j))) (.idx i :: p) n = (updJ t[i].j p n).map fun u => .arr (padJ (t.map (·.j)) i u) := by simp [updJ, hit]
    rw [e]
    have hu := IH t[i].j t[i].v pv t[i].f T w (hsl _ (List.mem_map.2 ⟨_, List.getElem_mem hit, rfl⟩)) (hfi _ (by simp [hit])) h3 hy (fun q h => hd q (h2 q h)) (fun q h => hS q (h2 q h)) hT hp
    rw [← ev] at hu
    refine (updArr_walk (S := t[i].f) hi (by rw [ev]; exact h3.form) ⟨_, _, _, epv⟩ ?_ hl hc hcb h1 hcel2 hu).mono fun e w' h =>
      setA_upd h hi hl hcb hx hpw h2 (fun j hj hne q h5 h6 => ?_) hd hS hT
    · rcases hy.form with h | ⟨t', z, e⟩
      · exact .inl h
      · exact .inr ⟨t', z, e, fun h => by simp [hit] at h⟩
    · have hpg := List.pairwise_iff_getElem.1 hpw
      rcases Nat.lt_or_ge j i with h | h
      · exact hpg j i hj hit h q h6 h5
      · exact hpg i j hit hj (by omega) q h5 h6
  · rcases hf with ⟨hh, rfl⟩ | ⟨hh, hy2⟩
    · have e : updJ (.arr (t.map (·.j))) (.idx i :: p) n = some (.arr (t.map (·.j))) := by simp [updJ, hit, hh]
      rw [e]
      obtain ⟨ad, rfl⟩ := Option.ne_none_iff_exists'.1 hnn
      have Hm := Lib.hid hm
      clear hm hcel hcel2 hx hpw h1 hy
      subst epv
      exact updArr_past hi hl hit c pa p.length pc am Hm.out
    · have e : updJ (.arr (t.map (·.j))) (.idx i :: p) n = (updJ .null p n).map fun u => .arr (padJ (t.map (·.j)) i u) := by simp [updJ, hit, hh]
      rw [e]
      have hu := IH .null .nilIface pv (fun _ => False) T w .null (fine_null p n) (.null _) hy (fun _ h => h.elim) (fun _ h => h.elim) hT hp
      have ev : valAt t i = .nilIface := by unfold valAt; simp [hit]
      rw [← ev] at hu
      exact (updArr_walk (S := fun _ => False) hi (by rw [ev]; exact .inl rfl) ⟨_, _, _, epv⟩ (hy2.imp_right fun ⟨t, z, e, h⟩ => ⟨t, z, e, fun _ => h⟩) hl hc hcb h1 hcel2 hu).mono fun e w' h =>
        setA_upd h hi hl hcb hx hpw (fun q h => h.elim) (fun j hj hne q h5 h6 => h5.elim) hd hS hT

end Go.Proofs.YtpoibibbkjogpaaGreatDoor

namespace Go.Proofs.YtpoibibbkjogpaaGreatDoor
open Go Go.RowKit Go.Maps Go.ChangeMaps Go.MapKept Go.WideShapes
open Go.WideElems (Fit rd rg pl rd_key rd_val rg_of rd_mk rd_stay other_key)

section
variable {H : Type} {P : Program} {k : TypeId} {R : Value → Option (DataW H × List MemPlace)} {w : World} {b r n : Nat} {D : DataW H} {left : Lit → Bool} {cnt : Nat}

theorem turned_grown {w w' : World} {b : Nat} (h : w.mapTurned w' b) : w.grownBy w' (some b) := by
  obtain ⟨es, clock, es', clock', hb, rfl⟩ := h
  exact ⟨rfl, rfl, rfl, by simp [setBlock], fun i _ hi => heap_setBlock_other hb _ (fun e => hi (by rw [e]))⟩

theorem ranges_restore {t e : TypeId} (h : w.ranges P k R b r n D left cnt) (K : Keyed P k) (ht : P.underlying t = some (.map k e)) (hn : n < maxLen) {key val : Value} {kl : Lit} {d : DataW H} {ps : List MemPlace}
    (hkey : keyOf P k key = some kl) (hat : Maps.has D kl = true) (hv : R val = some (d, ps)) :
    ∃ w', (Instr.mapUpdate t (.map (some b)) key val).run P w = .ok () w' ∧ w'.ranges P k R b r n (D.put kl d) left cnt ∧ w.grownBy w' (some b) := by
  have hne := h.ne
  obtain ⟨es, clock, since, seen, c0, hb, F, hs, rfl, hr, hold, rfl, hl1, hl2, hsc, hsk⟩ := h
  rcases K.find w hkey es.toList F.keys with ⟨h1, h2⟩ | ⟨j, e0, h1, h2, h3⟩
  · exfalso
    unfold Maps.has at hat
    obtain ⟨p, hp, hs2⟩ := List.any_eq_true.1 hat
    obtain ⟨x, hx, rfl⟩ := List.mem_map.1 (mem_sorted.1 hp)
    obtain ⟨y, hy⟩ := F.reads x hx
    have e1 := WideAt.sameKey_eq hs2
    rw [rg_of hy] at e1
    exact h2 x hx (K.inj (e1 ▸ rd_key hy) hkey)
  · have hj : es[j]? = some e0 := by simpa using h2
    have hjl : j < es.toList.length := (List.getElem?_eq_some_iff.1 h2).1
    have hkeyf : ∀ e', es[j]? = some e' → ({ e' with key := key, val := val } : MapEntry).key = e'.key := fun e' he' => by rw [hj] at he'; cases he'; exact h3.symm
    have hlist : (es.modify j (fun e' => { e' with key := key, val := val })).toList = es.toList.set j { e0 with key := key, val := val } := by rw [Array.toList_modify, modify_eq_set _ _ _ _ h2]
    have hrun : (Instr.mapUpdate t (.map (some b)) key val).run P w = .ok () (setBlock w b (.map (es.modify j (fun e' => { e' with key := key, val := val })) clock)) := by
      simp [Instr.mapUpdate, run_underlying ht, MapKept.run_getObj_map hb, K.check w false hkey, h1, hj, h3, K.stays w hkey, MapKept.run_setObj_map _ hb, Result.andThen, setBlock]
    obtain ⟨es', clock', hrun', F', hput, _, _, hwho⟩ := Maps.fit_store (R' := R) K ht hb F (Nat.lt_of_le_of_lt hs hn) (fun _ _ _ _ hz => hz) hkey hv
    have he : setBlock w b (.map es' clock') = setBlock w b (.map (es.modify j (fun e' => { e' with key := key, val := val })) clock) := by
      rw [hrun] at hrun'
      injection hrun' with _ h
      exact h.symm
    have hblk : some (Obj.map es' clock') = some (Obj.map (es.modify j (fun e' => { e' with key := key, val := val })) clock) := by
      rw [← heap_setBlock_same hb (.map es' clock'), he, heap_setBlock_same hb]
    obtain ⟨rfl, rfl⟩ : es' = es.modify j (fun e' => { e' with key := key, val := val }) ∧ clock' = clock := by
      injection hblk with h
      injection h with h1 h2
      exact ⟨h1, h2⟩
    have he0 : e0 ∈ es.toList := List.mem_of_getElem? h2
    have hrg0 : (rg P k R e0).1 = kl := by
      obtain ⟨y, hy⟩ := F.reads e0 he0
      have m1 := rd_key hy
      rw [h3, hkey] at m1
      rw [rg_of hy]
      exact (Option.some.inj m1).symm
    have hrg1 : (rg P k R { e0 with key := key, val := val }).1 = kl := by rw [rg_of (rd_mk (born := e0.born) hkey hv)]
    have hmem : ∀ x, x ∈ (es.modify j (fun e' => { e' with key := key, val := val })).toList → x = { e0 with key := key, val := val } ∨ x ∈ es.toList := by
      intro x hx
      rw [hlist] at hx
      rcases List.mem_or_eq_of_mem_set hx with h | h
      · exact .inr h
      · exact .inl h
    have hborn : (es.modify j (fun e' => { e' with key := key, val := val })).toList.map (·.born) = es.toList.map (·.born) := by
      rw [hlist, List.map_set]
      apply List.ext_getElem (by simp)
      intro i h1' h2'
      rw [List.getElem_set]
      split
      · rename_i e1
        subst e1
        have : es.toList[j] = e0 := (List.getElem?_eq_some_iff.1 h2).2
        simp [this]
      · rfl
    have hcnt : (leftOf (es.modify j (fun e' => { e' with key := key, val := val })) seen).size = (leftOf es seen).size := by
      have e1 : ∀ a : Array MapEntry, (leftOf a seen).size = ((a.toList.map (·.born)).filter fun z => !seen.contains z).length := fun a => by
        unfold leftOf
        rw [← Array.length_toList, Array.toList_filter, List.filter_map, List.length_map]
        rfl
      rw [e1, e1, hborn]
    refine ⟨_, hrun, ⟨_, _, since, seen, c0, heap_setBlock_same hb _, F', by simpa using hs, by rw [DataW.put_eq, hput], (heap_setBlock_other hb _ hne).trans hr, fun x hx => ?_, hcnt, fun x hx => ?_, fun z hz => ?_, hsc, hsk⟩, ⟨rfl, rfl, rfl, by simp [setBlock], fun i _ hi => heap_setBlock_other hb _ (fun e => hi (by rw [e]))⟩⟩
    · rcases hmem x hx with rfl | hx
      · exact hold e0 he0
      · exact hold x hx
    · rcases hmem x hx with rfl | hx
      · rw [hrg1, ← hrg0]
        exact hl1 e0 he0
      · exact hl1 x hx
    · obtain ⟨x, hx, rfl⟩ := hl2 z hz
      obtain ⟨i, hi, rfl⟩ := List.mem_iff_getElem.1 hx
      by_cases e1 : j = i
      · subst e1
        have e2 : es.toList[j] = e0 := (List.getElem?_eq_some_iff.1 h2).2
        refine ⟨{ e0 with key := key, val := val }, ?_, by rw [e2, hrg0, hrg1]⟩
        rw [hlist]
        exact List.mem_of_getElem? (by rw [List.getElem?_set_self hjl])
      · refine ⟨es.toList[i], ?_, rfl⟩
        rw [hlist]
        exact List.mem_of_getElem? (i := i) (by rw [List.getElem?_set_ne e1]; exact List.getElem?_eq_getElem hi)

/-- 'm[k] = v' at a key that is there, in the round. -/
theorem wpList_restore_ranges {ops : Array Oper} {rest : List Oper} {o : Oper} {a : Act} {Q : Exit → Act → World → Prop} (hg : o.guard = none) (m x v : Operand) (t : TypeId) (hop : o.op = Op.mapUpdate t m x v)
    (k e : TypeId) (K : Keyed P k) (ht : P.underlying t = some (.map k e)) (R : Value → Option (DataW H × List MemPlace)) (b r n : Nat) (D : DataW H) (left : Lit → Bool) (cnt : Nat)
    (hm : a.eval m = .map (some b)) (h : w.ranges P k R b r n D left cnt) (hn : n < maxLen) (key val : Value) (kl : Lit) (hx : a.eval x = key) (hv : a.eval v = val) (hkey : keyOf P k key = some kl) (hat : Maps.has D kl = true)
    (d : DataW H) (ps : List MemPlace) (hval : R val = some (d, ps))
    (hK : ∀ w', w'.ranges P k R b r n (D.put kl d) left cnt → w.grownBy w' (some b) → wpList P ops Q rest (a.put o.dst undef) w') :
    wpList P ops Q (o :: rest) a w := by
  refine wpList_plain hg fun K' hK' => ?_
  obtain ⟨w', hrun, r1, r2⟩ := ranges_restore h K ht hn hkey hat hval
  unfold Oper.wp
  simp [execOp, hop, hm, hx, hv, hrun, Result.andThen]
  exact hK' _ _ (hK w' r1 r2)
end

end Go.Proofs.YtpoibibbkjogpaaGreatDoor
