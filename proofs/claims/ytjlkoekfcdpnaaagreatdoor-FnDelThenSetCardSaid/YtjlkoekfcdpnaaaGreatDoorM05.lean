/- Contracts of gojq.updateObject and updateArrayIndex over that of update. -/
/- Contract of gojq.updateObject over that of update. -/
/- Contract of gojq.updateArrayIndex over that of update. -/
import Derived.Test.YtjlkoekfcdpnaaaGreatDoorM04
namespace Go.Proofs.YtjlkoekfcdpnaaaGreatDoor
open Go Go.RowKit Go.Maps Go.Deep Go.WideMaps
def stpVal : Stp → Value
  | .key k => .iface 9 (.string k)
  | .idx n => .iface 3 (.int .i64 n)
def Stp.small : Stp → Prop
  | .key k => k.size ≤ 140737488351232
  | .idx n => n ≤ 1000
/-- A path as gojq has it: what stands from place o on. -/
def StpsAt (w : World) (pv : Value) (p : List Stp) : Prop :=
  ∃ a c, pv = .slice a p.length c ∧ p.length ≤ c ∧ c ≤ 140737488355328 ∧ (0 < p.length → ∃ b o, a = some ⟨b, o, none⟩ ∧ b < w.heap.size ∧ ∀ i (hi : i < p.length), w.cell? ⟨b, o + i, none⟩ = some (stpVal p[i]))
theorem StpsAt.below {w w' : World} {pv : Value} {p : List Stp} (h : StpsAt w pv p) (hb : Below w.heap.size w w') : StpsAt w' pv p := by
  obtain ⟨a, c, e, hc, hc2, hcel⟩ := h
  refine ⟨a, c, e, hc, hc2, fun h0 => ?_⟩
  obtain ⟨b, o, e, hb2, hc3⟩ := hcel h0
  exact ⟨b, o, e, Nat.lt_of_lt_of_le hb2 hb.size, fun i hi => (hb.cell hb2).trans (hc3 i hi)⟩
/-- No array and no object is too large. -/
inductive Slim : J → Prop
  | null : Slim .null
  | bool (b : Bool) : Slim (.bool b)
  | int (n : Int) : Slim (.int n)
  | flt (x : Nat) : Slim (.flt x)
  | str (s : ByteArray) : Slim (.str s)
  | hole : Slim .hole
  | arr {l : List J} (hl : l.length ≤ 2000000000000) (h : ∀ x ∈ l, Slim x) : Slim (.arr l)
  | obj {m : List (ByteArray × J)} (hl : m.length ≤ 2000000000000) (h : ∀ p ∈ m, Slim p.2) : Slim (.obj m)
def NewS (S T : Nat → Prop) (w w' : World) (k : Nat) : Prop := S k ∨ T k ∨ (w.heap.size ≤ k ∧ k < w'.heap.size)
def UpdR (w : World) (S T : Nat → Prop) (o : Option J) (e : Ending) (w' : World) : Prop :=
  ∃ u er, e = .returned (.tuple #[u, er]) ∧ (u = .nilIface ∨ ∃ t y, u = .iface t y) ∧ (er = .nilIface ∨ ∃ t y, er = .iface t y) ∧ Below w.heap.size w w' ∧ (∀ z, o = some z → er = .nilIface ∧ RepJ w' (NewS S T w w') z u) ∧ (o = none → ErrV er)
theorem updR_some {w w' : World} {S T : Nat → Prop} {z : J} {u : Value} (hb : Below w.heap.size w w') (h : RepJ w' (NewS S T w w') z u) : UpdR w S T (some z) (.returned (.tuple #[u, .nilIface])) w' :=
  ⟨u, _, rfl, h.form, .inl rfl, hb, fun z' e => by cases e; exact ⟨rfl, h⟩, nofun⟩
theorem updR_none {w w' : World} {S T : Nat → Prop} {er : Value} (hb : Below w.heap.size w w') (h : ErrV er) : UpdR w S T none (.returned (.tuple #[.nilIface, er])) w' :=
  ⟨_, er, rfl, .inl rfl, by obtain ⟨t, a, e⟩ := h.form; exact .inr ⟨_, _, e⟩, hb, nofun, fun _ => h⟩
/-- What update does at the rest p of a path. -/
def UpdOK (am : Option Nat) (p : List Stp) (n : J) (y : Value) : Prop :=
  ∀ (v : J) (x pv : Value) (S T : Nat → Prop) (w : World), Slim v → Fine v p n → RepJ w S v x → RepJ w T n y → (∀ k, S k → T k → False) → (∀ k, S k → k < w.heap.size) → (∀ k, T k → k < w.heap.size) → StpsAt w pv p →
    Calls Tryz.prog 44 #[x, pv, y, .map am] w (UpdR w S T (updJ v p n))
/-- Is it the hole? -/
theorem hole_form {w : World} {T : Nat → Prop} {n : J} {y : Value} (h : RepJ w T n y) :
    (isHole n = true ∧ y = .iface 85 (.agg #[])) ∨ (isHole n = false ∧ (y = .nilIface ∨ ∃ t z, y = .iface t z ∧ t ≠ 85)) := by
  cases h with
  | null => exact .inr ⟨rfl, .inl rfl⟩
  | hole => exact .inl ⟨rfl, rfl⟩
  | bool => exact .inr ⟨rfl, .inr ⟨_, _, rfl, by decide⟩⟩
  | int => exact .inr ⟨rfl, .inr ⟨_, _, rfl, by decide⟩⟩
  | flt => exact .inr ⟨rfl, .inr ⟨_, _, rfl, by decide⟩⟩
  | str => exact .inr ⟨rfl, .inr ⟨_, _, rfl, by decide⟩⟩
  | arr => exact .inr ⟨rfl, .inr ⟨_, _, rfl, by decide⟩⟩
  | obj => exact .inr ⟨rfl, .inr ⟨_, _, rfl, by decide⟩⟩
theorem look_none {k : ByteArray} (hk : k.size ≤ 140737488351232) (w : World) : (Instr.lookup 53 (.map none) (.string k) true).run Tryz.prog w = .ok (.tuple #[.nilIface, .bool false]) w := by
  have := Maps.look_nil (w := w) true law_str Tryz.underlying53 (zero_any _) (keyOf_string_mk (s := k) Tryz.underlying9 (by unfold maxLen; omega))
  simpa using this
theorem jOf_apart {t : List (ByteArray × Part)} (h : RisesK t) : Apart (jOf t) := by
  have h2 : (jOf t).Pairwise fun p q => p.1 ≠ q.1 := by
    unfold jOf
    rw [List.pairwise_map]
    exact rises_irrefl h
  have h3 := List.pairwise_iff_getElem.1 h2
  intro i j hi hj e
  rcases Nat.lt_trichotomy i j with c | c | c
  · exact absurd e (h3 i j hi hj c)
  · exact c
  · exact absurd e.symm (h3 j i hj hi c)
theorem MapE.look_some {w : World} {r : Nat} {t : List (ByteArray × Part)} (h : MapE w r t) {k : ByteArray} (hk : k.size ≤ 140737488351232) {a : Part} (hg : getK t k = some a) :
    (Instr.lookup 53 (.map (some r)) (.string k) true).run Tryz.prog w = .ok (.tuple #[a.v, .bool true]) w := by
  obtain ⟨i, hi, he⟩ := List.mem_iff_getElem.1 (getK_mem hg)
  have hlen : (jOf t).length = t.length := by simp [jOf]
  have hj : (jOf t)[i]'(by rw [hlen]; exact hi) = (k, a.j) := by simp [jOf, he]
  have := (MapE.at.1 h).getOk (jOf_apart h.rises) (i := i) (by rw [hlen]; exact hi) (by rw [hj]; exact hk)
  rw [hj] at this
  simpa [hi, he] using this
theorem MapE.look_none {w : World} {r : Nat} {t : List (ByteArray × Part)} (h : MapE w r t) {k : ByteArray} (hk : k.size ≤ 140737488351232) (hg : getK t k = none) :
    (Instr.lookup 53 (.map (some r)) (.string k) true).run Tryz.prog w = .ok (.tuple #[.nilIface, .bool false]) w := by
  refine (MapE.at.1 h).missOk (fun p hp => ?_) hk
  obtain ⟨q, hq, rfl⟩ := List.mem_map.1 hp
  exact getK_none hg q hq
theorem eql_hole (w : World) : (binOp .eql 20 (.iface 85 (.agg #[])) (.iface 85 (.agg #[]))).run Tryz.prog w = .ok (.bool true) w := by kernel_rfl
theorem eql_nil (w : World) : (binOp .eql 20 .nilIface (.iface 85 (.agg #[]))).run Tryz.prog w = .ok (.bool false) w := by kernel_rfl
theorem eql_other (t : TypeId) (v : Value) (ht : t ≠ 85) (w : World) : (binOp .eql 20 (.iface t v) (.iface 85 (.agg #[]))).run Tryz.prog w = .ok (.bool false) w := by
  have h : (Op.equalIn 10000 20 (.iface t v) (.iface 85 (.agg #[]))).run Tryz.prog w = .ok false w := by
    rw [show (10000 : Nat) = 9999 + 1 from rfl, Op.equalIn]
    simp [run_underlying Tryz.underlying20, Result.andThen, ht]
  show (Sem.run Tryz.prog ((Op.equalIn 10000 20 (.iface t v) (.iface 85 (.agg #[]))) >>= fun b => pure (Value.bool b)) w) = _
  simp [h, Result.andThen]
theorem eqm_nil (w : World) : (binOp .eql 53 (.map none) (.map none)).run Tryz.prog w = .ok (.bool true) w := by kernel_rfl
theorem eqm_some (r : Nat) (w : World) : (binOp .eql 53 (.map (some r)) (.map none)).run Tryz.prog w = .ok (.bool false) w := by kernel_rfl
theorem eqs_nil (n c : Nat) (w : World) : (binOp .eql 50 (.slice none n c) (.slice none 0 0)).run Tryz.prog w = .ok (.bool true) w := by kernel_rfl
theorem eqs_some (a : Addr) (n c : Nat) (w : World) : (binOp .eql 50 (.slice (some a) n c) (.slice none 0 0)).run Tryz.prog w = .ok (.bool false) w := by kernel_rfl
def IsI (x : Value) : Prop := x = .nilIface ∨ ∃ t y, x = .iface t y
/-- Where the hole is told from the others, y is none. -/
def NoHole (ok : Bool) (y : Value) : Prop := y = .nilIface ∨ ∃ t z, y = .iface t z ∧ (ok = false → t ≠ 85)
/-- What updateObject hands back where it sets. -/
def SetO (w : World) (S T : Nat → Prop) (o : Option J) (k : ByteArray) (t : List (ByteArray × Part)) (e : Ending) (w' : World) : Prop :=
  (o = none ∧ ∃ er, ErrV er ∧ e = .returned (.tuple #[.nilIface, er]) ∧ Below w.heap.size w w') ∨
  ∃ z u w1 bd, o = some z ∧ e = .returned (.tuple #[.iface 53 (.map (some bd)), .nilIface]) ∧ RepJ w1 (NewS S T w w1) z u ∧ Below w.heap.size w w1 ∧ Below w1.heap.size w1 w' ∧ w1.heap.size ≤ bd ∧
    w'.ownsMap Tryz.prog 9 heldR bd (t.length + 1) ((DataW.map (entT t)).put (keyL k) (.held u))
set_option maxHeartbeats 4000000 in
set_option maxRecDepth 100000 in
theorem updObj_walk {am : Option Nat} {k : ByteArray} {pv y x : Value} {mv : Option Nat} {ok : Bool} {t : List (ByteArray × Part)} {o : Option J} {S T : Nat → Prop} {w : World} (hk : k.size ≤ 140737488351232) (fx : IsI x) (fp : ∃ a n c, pv = .slice a n c) (fy : NoHole ok y)
    (hlk : (Instr.lookup 53 (.map mv) (.string k) true).run Tryz.prog w = .ok (.tuple #[x, .bool ok]) w) (hu : Calls Tryz.prog 44 #[x, pv, y, .map am] w (UpdR w S T o))
    (hlen : ∀ ty w', Below w.heap.size w w' → (Builtin.len_ #[53] ty #[.map mv]).run Tryz.prog w' = .ok (.int .i64 t.length) w') (htl : t.length ≤ 140737488351232)
    (hcp : ∀ w' bd, Below w.heap.size w w' → w.heap.size ≤ bd → w'.ownsMap Tryz.prog 9 heldR bd 0 (.map []) → Calls Tryz.prog 82 #[.map (some bd), .map mv] w' fun e w'' => e = .returned (.tuple #[]) ∧ w''.ownsMap Tryz.prog 9 heldR bd t.length (.map (entT t)) ∧ w'.grownBy w'' (some bd)) :
    Calls Tryz.prog 61 #[.map mv, .string k, pv, y, .map am] w (SetO w S T o k t) := by
  have Hu := Lib.hid hu
  have Hlen := Lib.hid hlen
  have Hcp := Lib.hid hcp
  clear hu hlen hcp
  obtain ⟨pa, pn, pc, rfl⟩ := fp
  have q1 := eql_nil w
  have hkey : keyOf Tryz.prog 9 (.string k) = some (.string k.data.toList) := keyOf_string_mk Tryz.underlying9 (by unfold maxLen; omega)
  have h63 : t.length < maxLen := by unfold maxLen; omega
  rcases fy with rfl | ⟨ty, y, rfl, hty⟩ <;> rcases fx with rfl | ⟨tx, x, rfl⟩ <;> cases ok
  all_goals
    try have q2 := eql_other ty y (hty rfl) w
    try clear hty
    go_enter Tryz.func61, Tryz.ntmps61
    go_wp2_with fail
    refine Hu.out.mono ?_
    rintro e w1 ⟨u, er, rfl, fu, fe, hb1, hsome, hnone⟩
    cases ho : o with
    | none =>
      have he := hnone ho
      obtain ⟨te, ae, rfl⟩ := he.form
      have He := Lib.hid he
      have Hb := Lib.hid hb1
      clear hnone hsome fe he hb1 hlk Hu q1
      rcases fu with rfl | ⟨tu, u, rfl⟩
      all_goals
        go_wp2_with fail
        go_ret2
        exact .inl ⟨ho, _, He.out, rfl, Hb.out⟩
    | some z =>
      obtain ⟨rfl, hr⟩ := hsome z ho
      have Hr := Lib.hid hr
      have Hb := Lib.hid hb1
      have hlen1 := Hlen.out 3 w1 hb1
      have hlt : (t.length : Int) + 1 ≤ 9223372036854775807 := by omega
      have hs1 := hb1.size
      clear hnone hsome fe hr hlk Hu q1
      rcases fu with rfl | ⟨tu, u, rfl⟩
      all_goals
        go_wp2_with fail
        refine (allocated_any _ _ _).mono ?_
        rintro e w2 ⟨rfl, rfl⟩
        go_wp2_with fail
        refine (makeObject_any _ _ _).mono ?_
        rintro e w3 ⟨rfl, rfl⟩
        have hb3 : Below w2.heap.size w2 (w2.alloc (.map #[] 0)) := below_alloc1 _ _
        have hmade : (w2.alloc (.map #[] 0)).ownsMap Tryz.prog 9 heldR w2.heap.size 0 (.map []) := World.ownsMap_made w2 _ _ _
        have Cp := Lib.hid (Hcp.out _ _ (Hb.out.trans (hb3.mono hs1)) hs1 hmade)
        clear hmade
        generalize w2.alloc (.map #[] 0) = w3 at *
        go_wp2_with fail
        refine Cp.out.mono ?_
        rintro e w4 ⟨rfl, hown4, hg4⟩
        have hb4 : Below w2.heap.size w2 w4 := hb3.grown hg4 hb3.size (fun q hq => by cases hq; exact Nat.le_refl _)
        clear Cp hb3 hg4
        go_wp2_with (at_mapUpdate; refine wpList_mapUpdate_own _ rfl _ _ _ 53 rfl 9 20 law_str Tryz.underlying53 heldR w2.heap.size t.length _ rfl hown4 h63 _ _ _ rfl rfl hkey (.held _) [] rfl ?_; intro w5 hown5 hg5)
        have hb5 : Below w2.heap.size w2 w5 := hb4.grown hg5 hb4.size (fun q hq => by cases hq; exact Nat.le_refl _)
        have Hfin := Lib.hid hown5
        have Hb5 := Lib.hid hb5
        clear hown5 hb5 hown4 hg5 hb4
        go_wp2_with fail
        go_ret2
        exact .inr ⟨z, _, w2, _, ho, rfl, Hr.out, Hb.out, Hb5.out, Nat.le_refl _, Hfin.out⟩
end Go.Proofs.YtjlkoekfcdpnaaaGreatDoor

namespace Go.Proofs.YtjlkoekfcdpnaaaGreatDoor
open Go Go.RowKit Go.Maps Go.Deep Go.WideMaps
theorem pair_all {α : Type} {R : α → α → Prop} (hs : ∀ a b, R a b → R b a) {l : List α} (h : l.Pairwise R) {a b : α} (ha : a ∈ l) (hb : b ∈ l) (hne : a ≠ b) : R a b := by
  obtain ⟨i, hi, rfl⟩ := List.mem_iff_getElem.1 ha
  obtain ⟨j, hj, rfl⟩ := List.mem_iff_getElem.1 hb
  have h2 := List.pairwise_iff_getElem.1 h
  rcases Nat.lt_trichotomy i j with c | c | c
  · exact h2 i j hi hj c
  · subst c; exact absurd rfl hne
  · exact hs _ _ (h2 j i hj hi c)
theorem setO_upd {w w' : World} {S T Fa : Nat → Prop} {o : Option J} {k : ByteArray} {t : List (ByteArray × Part)} {e : Ending} (h : SetO w Fa T o k t e w') (hk : k.size ≤ 140737488351232) (htl : t.length + 1 ≤ 140737488351232)
    (hx : ∀ x ∈ t, x.1.size ≤ 140737488351232 ∧ (∀ q, x.2.f q → S q) ∧ RepJ w x.2.f x.2.j x.2.v) (hp : t.Pairwise Off) (hFa : ∀ q, Fa q → S q) (hFo : ∀ y ∈ t, y.1 ≠ k → ∀ q, Fa q → y.2.f q → False)
    (hd : ∀ q, S q → T q → False) (hS : ∀ q, S q → q < w.heap.size) (hT : ∀ q, T q → q < w.heap.size) : UpdR w S T (o.map fun z => .obj (putK (jOf t) k z)) e w' := by
  rcases h with ⟨rfl, er, he, rfl, hb⟩ | ⟨z, u, w1, bd, rfl, rfl, hr, hb1, hb2, hbd, hown⟩
  · exact updR_none hb he
  · have hs1 := hb1.size
    have hs2 := hb2.size
    have hb := hb1.trans (hb2.mono hs1)
    have hlt := hown.lt
    rw [entT_put t k ⟨z, u, NewS Fa T w w1⟩] at hown
    have hm : MapE w' bd (putK t k ⟨z, u, NewS Fa T w w1⟩) := MapE.tight hown (by have := putK_len t k (⟨z, u, NewS Fa T w w1⟩ : Part); omega)
    have hbdw : w.heap.size ≤ bd := by omega
    refine updR_some hb ?_
    show RepJ w' (NewS S T w w') (.obj (putK (jOf t) k z)) _
    have e : putK (jOf t) k z = jOf (putK t k ⟨z, u, NewS Fa T w w1⟩) := (jOf_put t k ⟨z, u, NewS Fa T w w1⟩).symm
    rw [e]
    refine obj_close (.inr (.inr ⟨hbdw, hlt⟩)) hm (fun x hxm => ?_) (putK_pair hp fun y hy hne => ?_)
    · rcases mem_putK.1 hxm with rfl | ⟨hxm, hne⟩
      · refine ⟨hk, fun hq => ?_, fun q hq => ?_, hr.carry fun q hq => hb2.block q ?_⟩
        · rcases hq with hq | hq | hq
          · have := hS _ (hFa _ hq); omega
          · have := hT _ hq; omega
          · omega
        · rcases hq with hq | hq | hq
          · exact .inl (hFa _ hq)
          · exact .inr (.inl hq)
          · exact .inr (.inr ⟨hq.1, by omega⟩)
        · rcases hq with hq | hq | hq
          · have := hS _ (hFa _ hq); omega
          · have := hT _ hq; omega
          · omega
      · obtain ⟨h1, h2, h3⟩ := hx x hxm
        exact ⟨h1, fun hq => by have := hS _ (h2 _ hq); omega, fun q hq => .inl (h2 q hq), h3.carry fun q hq => hb.block q (hS _ (h2 _ hq))⟩
    · have h : Off (k, (⟨z, u, NewS Fa T w w1⟩ : Part)) y := fun q h1 h2 => by
        have h3 := (hx y hy).2.1 q h2
        rcases h1 with h1 | h1 | h1
        · exact hFo y hy hne q h1 h2
        · exact hd q h3 h1
        · have := hS _ h3; omega
      exact ⟨h, h.symm⟩
theorem updObj_nil {am : Option Nat} {k : ByteArray} {p : List Stp} {n : J} {y pv : Value} {S T : Nat → Prop} {w : World} (hk : k.size ≤ 140737488351232) (hy : RepJ w T n y) (hd : ∀ q, S q → T q → False) (hS : ∀ q, S q → q < w.heap.size) (hT : ∀ q, T q → q < w.heap.size) (hp : StpsAt w pv p) (IH : UpdOK am p n y) :
    Calls Tryz.prog 61 #[.map none, .string k, pv, y, .map am] w (UpdR w S T (updJ .null (.key k :: p) n)) := by
  have hf := hole_form hy
  have hu := IH .null .nilIface pv (fun _ => False) T w .null (fine_null p n) (.null _) hy (fun _ h => h.elim) (fun _ h => h.elim) hT hp
  have hlk := look_none hk w
  obtain ⟨pa, pc, epv, _⟩ := hp
  rcases hf with ⟨hh, rfl⟩ | ⟨hh, hy2⟩
  · have e : updJ .null (.key k :: p) n = some .null := by simp [updJ, hh]
    rw [e]
    have q0 := eql_hole w
    have q1 := eqm_nil w
    clear hu
    subst epv
    go_enter Tryz.func61, Tryz.ntmps61
    go_wp2_with fail
    go_ret2
    exact updR_some (Below.refl _ _) (.null _)
  · have e : updJ .null (.key k :: p) n = (updJ .null p n).map fun u => .obj (putK (jOf []) k u) := by simp [updJ, hh, jOf, putK, insK]
    rw [e]
    refine (updObj_walk (S := fun _ => False) (t := []) hk (.inl rfl) ⟨_, _, _, epv⟩ (ok := false) (hy2.imp_right fun ⟨t, z, e, h⟩ => ⟨t, z, e, fun _ => h⟩) hlk hu (fun ty w' _ => by kernel_rfl) (by decide) ?_).mono fun e w' h =>
      setO_upd h hk (by decide) (fun x hx => by cases hx) List.Pairwise.nil (fun q h => h.elim) (fun y hy => by cases hy) hd hS hT
    intro w' bd hb hbd ho
    refine (copy_none bd w').mono ?_
    rintro e w'' ⟨rfl, rfl⟩
    exact ⟨rfl, ho.alloc _, World.grownBy_alloc _ _ _⟩
theorem slim_obj {m : List (ByteArray × J)} (h : Slim (.obj m)) : m.length ≤ 2000000000000 ∧ ∀ p ∈ m, Slim p.2 := by
  cases h with
  | obj hl h => exact ⟨hl, h⟩
theorem slim_arr {l : List J} (h : Slim (.arr l)) : l.length ≤ 2000000000000 ∧ ∀ x ∈ l, Slim x := by
  cases h with
  | arr hl h => exact ⟨hl, h⟩
theorem updObj_map {am : Option Nat} {k : ByteArray} {p : List Stp} {n : J} {m : List (ByteArray × J)} {r : Nat} {y pv : Value} {S T : Nat → Prop} {w : World} (hk : k.size ≤ 140737488351232) (hfi : Fine (.obj m) (.key k :: p) n) (hsl : Slim (.obj m)) (hm : RepJ w S (.obj m) (.iface 53 (.map (some r)))) (hy : RepJ w T n y)
    (hd : ∀ q, S q → T q → False) (hS : ∀ q, S q → q < w.heap.size) (hT : ∀ q, T q → q < w.heap.size) (hp : StpsAt w pv p) (IH : UpdOK am p n y) :
    Calls Tryz.prog 61 #[.map (some r), .string k, pv, y, .map am] w (UpdR w S T (updJ (.obj m) (.key k :: p) n)) := by
  have hf := hole_form hy
  have hm0 := hm
  obtain ⟨r', t, er, hr, rfl, hE, hx, hpw⟩ := obj_open hm
  obtain rfl : r = r' := by injection er with _ e; injection e with e; injection e
  obtain ⟨hl, hsl⟩ := slim_obj hsl
  have hlen : (jOf t).length = t.length := by simp [jOf]
  have hrw : r < w.heap.size := hE.lt
  obtain ⟨pa, pc, epv, _⟩ := id hp
  have hlen2 : ∀ ty w', Below w.heap.size w w' → (Builtin.len_ #[53] ty #[.map (some r)]).run Tryz.prog w' = .ok (.int .i64 t.length) w' := fun ty w' hb => by
    have := (MapE.at.1 (hE.carry (hb.block r hrw))).len ty
    rwa [hlen] at this
  have hcp : ∀ w' bd, Below w.heap.size w w' → w.heap.size ≤ bd → w'.ownsMap Tryz.prog 9 heldR bd 0 (.map []) → Calls Tryz.prog 82 #[.map (some bd), .map (some r)] w' fun e w'' => e = .returned (.tuple #[]) ∧ w''.ownsMap Tryz.prog 9 heldR bd t.length (.map (entT t)) ∧ w'.grownBy w'' (some bd) :=
    fun w' bd hb hbd ho => copy_any bd t r w' ho (hE.carry (hb.block r hrw)) (by omega)
  cases hg : getK t k with
  | some a =>
    have hmem := getK_mem hg
    obtain ⟨h1, h2, h3, h4⟩ := hx _ hmem
    have e : updJ (.obj (jOf t)) (.key k :: p) n = (updJ a.j p n).map fun u => .obj (putK (jOf t) k u) := by simp [updJ, getK_jOf, hg]
    rw [e]
    have hu := IH a.j a.v pv a.f T w (hsl (k, a.j) (List.mem_map.2 ⟨_, hmem, rfl⟩)) (hfi a.j (by rw [getK_jOf, hg]; rfl)) h4 hy (fun q h => hd q (h3 q h)) (fun q h => hS q (h3 q h)) hT hp
    refine (updObj_walk (S := a.f) (t := t) hk h4.form ⟨_, _, _, epv⟩ (ok := true) ?_ (hE.look_some hk hg) hu hlen2 (by omega) hcp).mono fun e w' h =>
      setO_upd h hk (by omega) (fun x hxm => ⟨(hx x hxm).1, (hx x hxm).2.2.1, (hx x hxm).2.2.2⟩) hpw h3 (fun y hym hne q h5 h6 => pair_all (fun a b => Off.symm) hpw hmem hym (fun e => hne (by rw [← e])) q h5 h6) hd hS hT
    rcases hy.form with h | ⟨t, z, e⟩
    · exact .inl h
    · exact .inr ⟨t, z, e, fun h => by cases h⟩
  | none =>
    rcases hf with ⟨hh, rfl⟩ | ⟨hh, hy2⟩
    · have e : updJ (.obj (jOf t)) (.key k :: p) n = some (.obj (jOf t)) := by simp [updJ, getK_jOf, hg, hh]
      rw [e]
      have q0 := eql_hole w
      have q1 := eqm_some r w
      have hlk := hE.look_none hk hg
      have Hm := Lib.hid hm0
      clear hm0 hlen2 hcp hx hpw hE
      subst epv
      go_enter Tryz.func61, Tryz.ntmps61
      go_wp2_with fail
      go_ret2
      exact updR_some (Below.refl _ _) (Hm.out.mono fun q h => .inl h)
    · have e : updJ (.obj (jOf t)) (.key k :: p) n = (updJ .null p n).map fun u => .obj (putK (jOf t) k u) := by simp [updJ, getK_jOf, hg, hh]
      rw [e]
      have hu := IH .null .nilIface pv (fun _ => False) T w .null (fine_null p n) (.null _) hy (fun _ h => h.elim) (fun _ h => h.elim) hT hp
      exact (updObj_walk (S := fun _ => False) (t := t) hk (.inl rfl) ⟨_, _, _, epv⟩ (ok := false) (hy2.imp_right fun ⟨t, z, e, h⟩ => ⟨t, z, e, fun _ => h⟩) (hE.look_none hk hg) hu hlen2 (by omega) hcp).mono fun e w' h =>
        setO_upd h hk (by omega) (fun x hxm => ⟨(hx x hxm).1, (hx x hxm).2.2.1, (hx x hxm).2.2.2⟩) hpw (fun q h => h.elim) (fun y hym hne q h5 h6 => h5.elim) hd hS hT
end Go.Proofs.YtjlkoekfcdpnaaaGreatDoor

namespace Go.Proofs.YtjlkoekfcdpnaaaGreatDoor
open Go Go.RowKit Go.Maps Go.Deep Go.WideMaps
theorem cur_of {w : World} {n : Nat} {t : TypeId} : (w.alloc (.cells (madeCells #[.nilIface] n) t)).heap[w.heap.size]? = some (.cells (List.replicate n Value.nilIface).toArray t) := by
  obtain ⟨c, hb, hs, hc⟩ := World.rowIs_made w .nilIface n t
  rw [hb]
  congr 2
  apply Array.ext
  · simp [hs]
  · intro i h1 h2
    have := hc i (by omega)
    rw [Array.getElem?_eq_getElem h1] at this
    simpa using this
theorem clamp_pad (i n : Nat) : clampI i (-1) n = ((if i < n then i else n : Nat) : Int) := by
  unfold clampI
  simp only
  rw [if_neg (show ¬ (i : Int) < 0 by omega), if_neg (show ¬ (i : Int) < -1 by omega)]
  by_cases h : i < n
  · rw [if_pos h, if_pos (by omega)]
  · rw [if_neg h, if_neg (by omega)]
def valAt (t : List Part) (j : Nat) : Value := (t[j]?.map (·.v)).getD .nilIface
theorem splice_row {w : World} {bd C : Nat} {ty : TypeId} {t : List Part} (h : w.heap[bd]? = some (.cells (splice (List.replicate C Value.nilIface) 0 (t.map (·.v))).toArray ty)) (ht : t.length ≤ C) : w.rowIs bd ty C (valAt t) := by
  refine ⟨_, h, ?_, fun i hi => ?_⟩
  · simp [splice]
    omega
  · unfold valAt
    simp only [splice, List.take_zero, List.nil_append, List.getElem?_toArray]
    by_cases hit : i < t.length
    · rw [List.getElem?_append_left (by simpa using hit)]
      simp [hit]
    · have hi2 : i - t.length < C - t.length := by omega
      rw [List.getElem?_append_right (by simpa using Nat.le_of_not_lt hit)]
      simp [hit, hi2]
/-- 'copy' of an array's elements into a new row. -/
theorem copy_run {w w3 : World} {G C L c : Nat} {t : List Part} {a : Option Addr} (hcur : w.heap[G]? = some (.cells (List.replicate C Value.nilIface).toArray 20)) (hL : t.length ≤ L) (hLC : L ≤ C)
    (hsrc : 0 < t.length → ∃ b o, a = some ⟨b, o, none⟩ ∧ ∀ i (hi : i < t.length), w.cell? ⟨b, o + i, none⟩ = some t[i].v) (h1 : ∀ x ∈ t, x.v.oneCell' = true) (hb : Below w3.heap.size w3 w) (hG : w3.heap.size ≤ G) :
    ∃ w', (∀ ty, (Builtin.copy_ #[50, 50] ty #[.slice (some ⟨G, 0, none⟩) L C, .slice a t.length c]).run Tryz.prog w = .ok (.int .i64 t.length) w') ∧ w'.rowIs G 20 C (valAt t) ∧ Below w3.heap.size w3 w' := by
  have hsz : (Tryz.prog.info? 20).map (·.size) = some 1 := by kernel_rfl
  by_cases h0 : t.length = 0
  · obtain rfl : t = [] := List.eq_nil_of_length_eq_zero h0
    refine ⟨w, fun ty => run_copy_none w 50 50 ty 20 (some ⟨G, 0, none⟩) a L C 0 c Tryz.underlying50 hsz (by simp), ?_, hb⟩
    exact splice_row (t := []) (by simpa [splice] using hcur) (Nat.zero_le _)
  · obtain ⟨b, o, rfl, hcel⟩ := hsrc (by omega)
    have hone : ∀ v ∈ t.map (·.v), v.oneCell' = true := by
      intro v hv
      obtain ⟨x, hx, rfl⟩ := List.mem_map.1 hv
      exact h1 x hx
    have hs : ∀ j v, (t.map (·.v))[j]? = some v → w.cell? ((⟨b, o, none⟩ : Addr).add j) = some v := by
      intro j v hj
      obtain ⟨hjl, rfl⟩ := List.getElem?_eq_some_iff.1 hj
      have hjl' : j < t.length := by simpa using hjl
      have e2 : (⟨b, o, none⟩ : Addr).add j = ⟨b, o + j, none⟩ := by unfold Addr.add; split <;> simp_all
      rw [e2, List.getElem_map]
      exact hcel j hjl'
    have hr := fun ty => run_copy_row (P := Tryz.prog) w 50 50 ty 20 G 0 L C ⟨b, o, none⟩ t.length c _ 20 (t.map (·.v)) Tryz.underlying50 hsz hcur (by rw [List.length_map]; exact (Nat.min_eq_left hL).symm) hs (by simp; omega) hone
    refine ⟨_, fun ty => (hr ty).trans (by rw [List.length_map]; rfl), splice_row (t := t) ?_ (by omega), below_setRow hb hG _⟩
    have h := setRow_heap w G _ (splice (List.replicate C Value.nilIface) 0 (t.map (·.v))).toArray _ _ hcur
    simpa [splice] using h
/-- What updateArrayIndex hands back where it sets. -/
def SetA (w : World) (S T : Nat → Prop) (o : Option J) (i c : Nat) (t : List Part) (e : Ending) (w' : World) : Prop :=
  (o = none ∧ ∃ er, ErrV er ∧ e = .returned (.tuple #[.nilIface, er]) ∧ Below w.heap.size w w') ∨
  ∃ z u w1 bd f, o = some z ∧ e = .returned (.tuple #[.iface 50 (.slice (some ⟨bd, 0, none⟩) (max t.length (i + 1)) (max (max t.length (i + 1)) c)), .nilIface]) ∧ RepJ w1 (NewS S T w w1) z u ∧ Below w.heap.size w w1 ∧ Below w1.heap.size w1 w' ∧ w1.heap.size ≤ bd ∧
    w'.rowIs bd 20 (max (max t.length (i + 1)) c) f ∧ ∀ j, j < max t.length (i + 1) → f j = if j = i then u else valAt t j
set_option maxHeartbeats 4000000 in
set_option maxRecDepth 100000 in
theorem updArr_walk {am : Option Nat} {i : Nat} {pv y : Value} {a : Option Addr} {c : Nat} {t : List Part} {o : Option J} {S T : Nat → Prop} {w : World} (hi : i ≤ 1000) (fx : IsI (valAt t i)) (fp : ∃ a n c, pv = .slice a n c) (fy : NoHole (decide (i < t.length)) y)
    (htl : t.length ≤ 2000000000000) (hc : t.length ≤ c) (hcb : c ≤ capMax) (h1 : ∀ x ∈ t, x.v.oneCell' = true) (hcel : 0 < t.length → ∃ b o, a = some ⟨b, o, none⟩ ∧ b < w.heap.size ∧ ∀ i (hi : i < t.length), w.cell? ⟨b, o + i, none⟩ = some t[i].v)
    (hu : Calls Tryz.prog 44 #[valAt t i, pv, y, .map am] w (UpdR w S T o)) :
    Calls Tryz.prog 62 #[.slice a t.length c, .int .i64 i, pv, y, .map am] w (SetA w S T o i c t) := by
  have Hu := Lib.hid hu
  have Hcel := Lib.hid hcel
  have H1 := Lib.hid h1
  clear hu hcel h1
  obtain ⟨pa, pn, pc, rfl⟩ := fp
  have q1 := eql_nil w
  have hcl := clamp_any i (-1) t.length (by omega) (by omega) w
  rw [clamp_pad] at hcl
  have Hcl := Lib.hid hcl
  clear hcl
  have hlc : max t.length (i + 1) ≤ capMax := by unfold capMax; omega
  by_cases hit : i < t.length
  · obtain ⟨b, ao, rfl, hb, hce⟩ := Hcel.out (by omega)
    have hci := hce i hit
    have ev : valAt t i = t[i].v := by unfold valAt; simp [hit]
    rw [ev] at fx Hu
    rw [if_pos hit] at Hcl
    generalize t[i].v = x at *
    have u1 : (i : Int) < (t.length : Int) := by omega
    have u2 : (0 : Int) ≤ (i : Int) := by omega
    have e1 : max t.length (i + 1) = t.length := by omega
    have Hce := Lib.hid hce
    clear hce Hcel
    obtain ⟨C, hC⟩ : ∃ C, C = max t.length c := ⟨_, rfl⟩
    have HC := Lib.hid hC
    clear hC
    rcases fy with rfl | ⟨ty, y, rfl, _⟩ <;> rcases fx with rfl | ⟨tx, x, rfl⟩
    all_goals
      go_enter Tryz.func62, Tryz.ntmps62
      go_wp2_with fail
      refine Hcl.out.mono ?_
      rintro e w1 ⟨rfl, rfl⟩
      go_wp2_with fail
      refine Hu.out.mono ?_
      rintro e w2 ⟨u, er, rfl, fu, fe, hb1, hsome, hnone⟩
      cases ho : o with
      | none =>
        have he := hnone ho
        obtain ⟨te, ae, rfl⟩ := he.form
        have He := Lib.hid he
        have Hb := Lib.hid hb1
        clear hnone hsome fe he hb1 Hu q1 hci
        rcases fu with rfl | ⟨tu, u, rfl⟩
        all_goals
          go_wp2_with fail
          go_ret2
          exact .inl ⟨ho, _, He.out, rfl, Hb.out⟩
      | some z =>
        obtain ⟨rfl, hr⟩ := hsome z ho
        have Hr := Lib.hid hr
        have Hb := Lib.hid hb1
        have u3 : ¬ ((i : Int) ≥ (t.length : Int)) := by omega
        clear hnone hsome fe hr Hu q1 hci
        rcases fu with rfl | ⟨tu, u, rfl⟩
        all_goals
          go_wp2_with fail
          refine (allocated_any _ _ _).mono ?_
          rintro e w3 ⟨rfl, rfl⟩
          go_wp2_with fail
          have mk := makeArray_any (.map am) t.length c (by omega) hcb w3
          rw [← HC.out] at mk
          refine mk.mono ?_
          rintro e w4 ⟨rfl, rfl⟩
          have hcur := cur_of (w := w3) (n := C) (t := 20)
          have hb4 : Below w3.heap.size w3 (w3.alloc (.cells (madeCells #[.nilIface] C) 20)) := below_alloc1 _ _
          have hle : t.length ≤ C := by rw [HC.out]; omega
          have hic : i < C := by rw [HC.out]; omega
          obtain ⟨w5, hcpy, row5, hb5⟩ := copy_run (c := c) hcur (Nat.le_refl _) hle (fun _ => ⟨b, ao, rfl, fun j hj => ((Hb.out.trans (hb4.mono Hb.out.size)).cell (p := ⟨b, ao + j, none⟩) hb).trans (Hce.out j hj)⟩) H1.out hb4 (Nat.le_refl _)
          have hcpy := hcpy 3
          generalize w3.alloc _ = w4 at *
          have y1 := row5.cell hic
          have f1 := row5.frozen i
          have Row := Lib.hid row5
          have Hb5 := Lib.hid hb5
          clear row5 hb5 hb4 hcur hb1
          go_wp2_with fail
          go_ret2
          exact .inr ⟨z, _, w3, _, _, ho, by rw [e1, ← HC.out]; rfl, Hr.out, Hb.out, Hb5.out.setCell (Nat.le_refl _) _, Nat.le_refl _, by rw [e1, ← HC.out]; exact Row.out.set i _, fun j hj => rfl⟩
  · have ev : valAt t i = .nilIface := by unfold valAt; simp [hit]
    rw [ev] at fx Hu
    rw [if_neg hit] at Hcl
    have u4 : decide ((536870912 : Int) ≤ (i : Int)) = false := by simp; omega
    have e1 : max t.length (i + 1) = i + 1 := by omega
    obtain ⟨C, hC⟩ : ∃ C, C = max (i + 1) c := ⟨_, rfl⟩
    have HC := Lib.hid hC
    have hdec : decide (i < t.length) = false := by simpa using hit
    rw [hdec] at fy
    clear hC fx
    rcases fy with rfl | ⟨ty, y, rfl, hty⟩
    all_goals
      try have q2 := eql_other ty y (hty rfl) w
      try clear hty
      go_enter Tryz.func62, Tryz.ntmps62
      go_wp2_with fail
      refine Hcl.out.mono ?_
      rintro e w1 ⟨rfl, rfl⟩
      go_wp2_with fail
      refine Hu.out.mono ?_
      rintro e w2 ⟨u, er, rfl, fu, fe, hb1, hsome, hnone⟩
      cases ho : o with
      | none =>
        have he := hnone ho
        obtain ⟨te, ae, rfl⟩ := he.form
        have He := Lib.hid he
        have Hb := Lib.hid hb1
        clear hnone hsome fe he hb1 Hu q1
        rcases fu with rfl | ⟨tu, u, rfl⟩
        all_goals
          go_wp2_with fail
          go_ret2
          exact .inl ⟨ho, _, He.out, rfl, Hb.out⟩
      | some z =>
        obtain ⟨rfl, hr⟩ := hsome z ho
        have Hr := Lib.hid hr
        have Hb := Lib.hid hb1
        have u3 : ((i : Int) ≥ (t.length : Int)) := by omega
        clear hnone hsome fe hr Hu q1
        rcases fu with rfl | ⟨tu, u, rfl⟩
        all_goals
          go_wp2_with fail
          refine (allocated_any _ _ _).mono ?_
          rintro e w3 ⟨rfl, rfl⟩
          go_wp2_with fail
          have mk := makeArray_any (.map am) (i + 1) c (by omega) hcb w3
          rw [← HC.out] at mk
          refine mk.mono ?_
          rintro e w4 ⟨rfl, rfl⟩
          have hcur := cur_of (w := w3) (n := C) (t := 20)
          have hb4 : Below w3.heap.size w3 (w3.alloc (.cells (madeCells #[.nilIface] C) 20)) := below_alloc1 _ _
          have hle : i + 1 ≤ C := by rw [HC.out]; omega
          have hic : i < C := by rw [HC.out]; omega
          obtain ⟨w5, hcpy, row5, hb5⟩ := copy_run (c := c) (a := a) hcur (show t.length ≤ i + 1 by omega) hle (fun h0 => by
            obtain ⟨b, ao, e, hb, hce⟩ := Hcel.out h0
            exact ⟨b, ao, e, fun j hj => ((Hb.out.trans (hb4.mono Hb.out.size)).cell (p := ⟨b, ao + j, none⟩) hb).trans (hce j hj)⟩) H1.out hb4 (Nat.le_refl _)
          have hcpy := hcpy 3
          generalize w3.alloc _ = w4 at *
          have y1 := row5.cell hic
          have f1 := row5.frozen i
          have Row := Lib.hid row5
          have Hb5 := Lib.hid hb5
          clear row5 hb5 hb4 hcur hb1
          go_wp2_with fail
          go_ret2
          exact .inr ⟨z, _, w3, _, _, ho, by rw [e1, ← HC.out]; rfl, Hr.out, Hb.out, Hb5.out.setCell (Nat.le_refl _) _, Nat.le_refl _, by rw [e1, ← HC.out]; exact Row.out.set i _, fun j hj => rfl⟩
end Go.Proofs.YtjlkoekfcdpnaaaGreatDoor
