/- Contracts of gojq.updateObject and updateArrayIndex over that of update. -/
/- laws.told at an error, at what the reference leaves open, and at values. -/
/- What impl.result returns for an answer of the reference; what laws.told says of it. -/
/- Contracts of laws.array, laws.fits. -/
/- A path of keys and places in memory; what laws.given and laws.fits answer. -/
import Derived.Test.YtpoibibbkjogpaaGreatDoorM15
import Derived.Test.YtpoibibbkjogpaaGreatDoorM10
import Derived.Test.YtpoibibbkjogpaaGreatDoorM02
import Derived.Test.YtpoibibbkjogpaaGreatDoorM09
import Derived.Test.YtpoibibbkjogpaaGreatDoorM05
import Derived.Test.YtpoibibbkjogpaaGreatDoorM06
namespace Go.Proofs.YtpoibibbkjogpaaGreatDoor
open Go Go.RowKit Go.Maps Go.Deep Go.WideMaps

def stpVal : Stp → Value
  | .key k => .iface 9 (.string k)
  | .idx n => .iface 3 (.int .i64 n)
def Stp.small : Stp → Prop
  | .key k => k.size ≤ 140737488351232
  | .idx n => n ≤ 1000
/-- A path as gojq has it: what stands from place o on. -/
def StpsAt (w : World) (pv : Value) (p : List Stp) : Prop :=
  ∃ a c, pv = .slice a p.length c ∧ p.length ≤ c ∧ c ≤ 140737488355328 ∧ (0 < p.length → ∃ b o, a = some ⟨b, o, none⟩ ∧ b < w.heap.size ∧ ∀ i (hi : i < p.length), w.cell? ⟨b, o + i, none⟩ = some (stpVal p[i]))
theorem StpsAt.below {w w' : World} {pv : Value} {p : List Stp} (h : StpsAt w pv p) (hb : Below w.heap.size w w') : StpsAt w' pv p := by
  obtain ⟨a, c, e, hc, hc2, hcel⟩ := h
  refine ⟨a, c, e, hc, hc2, fun h0 => ?_⟩
  obtain ⟨b, o, e, hb2, hc3⟩ := hcel h0
  exact ⟨b, o, e, Nat.lt_of_lt_of_le hb2 hb.size, fun i hi => (hb.cell hb2).trans (hc3 i hi)⟩

/-- No array and no object is too large. -/
inductive Slim : J → Prop
  | null : Slim .null
  | bool (b : Bool) : Slim (.bool b)
  | int (n : Int) : Slim (.int n)
  | flt (x : Nat) : Slim (.flt x)
  | str (s : ByteArray) : Slim (.str s)
  | hole : Slim .hole
  | arr {l : List J} (hl : l.length ≤ 2000000000000) (h : ∀ x ∈ l, Slim x) : Slim (.arr l)
  | obj {m : List (ByteArray × J)} (hl : m.length ≤ 2000000000000) (h : ∀ p ∈ m, Slim p.2) : Slim (.obj m)

def NewS (S T : Nat → Prop) (w w' : World) (k : Nat) : Prop := S k ∨ T k ∨ (w.heap.size ≤ k ∧ k < w'.heap.size)
def UpdR (w : World) (S T : Nat → Prop) (o : Option J) (e : Ending) (w' : World) : Prop :=
  ∃ u er, e = .returned (.tuple #[u, er]) ∧ (u = .nilIface ∨ ∃ t y, u = .iface t y) ∧ (er = .nilIface ∨ ∃ t y, er = .iface t y) ∧ Below w.heap.size w w' ∧ (∀ z, o = some z → er = .nilIface ∧ RepJ w' (NewS S T w w') z u) ∧ (o = none → ErrV er)
theorem updR_some {w w' : World} {S T : Nat → Prop} {z : J} {u : Value} (hb : Below w.heap.size w w') (h : RepJ w' (NewS S T w w') z u) : UpdR w S T (some z) (.returned (.tuple #[u, .nilIface])) w' :=
  ⟨u, _, rfl, h.form, .inl rfl, hb, fun z' e => by cases e; exact ⟨rfl, h⟩, nofun⟩
theorem updR_none {w w' : World} {S T : Nat → Prop} {er : Value} (hb : Below w.heap.size w w') (h : ErrV er) : UpdR w S T none (.returned (.tuple #[.nilIface, er])) w' :=
  ⟨_, er, rfl, .inl rfl, by obtain ⟨t, a, e⟩ := h.form; exact .inr ⟨_, _, e⟩, hb, nofun, fun _ => h⟩

/-- What update does at the rest p of a path. -/
def UpdOK (am : Option Nat) (p : List Stp) (n : J) (y : Value) : Prop :=
  ∀ (v : J) (x pv : Value) (S T : Nat → Prop) (w : World), Slim v → Fine v p n → RepJ w S v x → RepJ w T n y → (∀ k, S k → T k → False) → (∀ k, S k → k < w.heap.size) → (∀ k, T k → k < w.heap.size) → StpsAt w pv p →
    Calls Tryz.prog 65 #[x, pv, y, .map am] w (UpdR w S T (updJ v p n))

/-- Is it the hole? -/
theorem hole_form {w : World} {T : Nat → Prop} {n : J} {y : Value} (h : RepJ w T n y) :
    (isHole n = true ∧ y = .iface 108 (.agg #[])) ∨ (isHole n = false ∧ (y = .nilIface ∨ ∃ t z, y = .iface t z ∧ t ≠ 108)) := by
  cases h with
  | null => exact .inr ⟨rfl, .inl rfl⟩
  | hole => exact .inl ⟨rfl, rfl⟩
  | bool => exact .inr ⟨rfl, .inr ⟨_, _, rfl, by decide⟩⟩
  | int => exact .inr ⟨rfl, .inr ⟨_, _, rfl, by decide⟩⟩
  | flt => exact .inr ⟨rfl, .inr ⟨_, _, rfl, by decide⟩⟩
  | str => exact .inr ⟨rfl, .inr ⟨_, _, rfl, by decide⟩⟩
  | arr => exact .inr ⟨rfl, .inr ⟨_, _, rfl, by decide⟩⟩
  | obj => exact .inr ⟨rfl, .inr ⟨_, _, rfl, by decide⟩⟩

theorem look_none {k : ByteArray} (hk : k.size ≤ 140737488351232) (w : World) : (Instr.lookup 62 (.map none) (.string k) true).run Tryz.prog w = .ok (.tuple #[.nilIface, .bool false]) w := by
  have := Maps.look_nil (w := w) true law_str Tryz.underlying62 (zero_any _) (keyOf_string_mk (s := k) Tryz.underlying9 (by unfold maxLen; omega))
  simpa using this
theorem jOf_apart {t : List (ByteArray × Part)} (h : RisesK t) : Apart (jOf t) := by
  have h2 : (jOf t).Pairwise fun p q => p.1 ≠ q.1 := by
    unfold jOf
    rw [List.pairwise_map]
    exact rises_irrefl h
  have h3 := List.pairwise_iff_getElem.1 h2
  intro i j hi hj e
  rcases Nat.lt_trichotomy i j with c | c | c
  · exact absurd e (h3 i j hi hj c)
  · exact c
  · exact absurd e.symm (h3 j i hj hi c)
theorem MapE.look_some {w : World} {r : Nat} {t : List (ByteArray × Part)} (h : MapE w r t) {k : ByteArray} (hk : k.size ≤ 140737488351232) {a : Part} (hg : getK t k = some a) :
    (Instr.lookup 62 (.map (some r)) (.string k) true).run Tryz.prog w = .ok (.tuple #[a.v, .bool true]) w := by
  obtain ⟨i, hi, he⟩ := List.mem_iff_getElem.1 (getK_mem hg)
  have hlen : (jOf t).length = t.length := by simp [jOf]
  have hj : (jOf t)[i]'(by rw [hlen]; exact hi) = (k, a.j) := by simp [jOf, he]
  have := (MapE.at.1 h).getOk (jOf_apart h.rises) (i := i) (by rw [hlen]; exact hi) (by rw [hj]; exact hk)
  rw [hj] at this
  simpa [hi, he] using this
theorem MapE.look_none {w : World} {r : Nat} {t : List (ByteArray × Part)} (h : MapE w r t) {k : ByteArray} (hk : k.size ≤ 140737488351232) (hg : getK t k = none) :
    (Instr.lookup 62 (.map (some r)) (.string k) true).run Tryz.prog w = .ok (.tuple #[.nilIface, .bool false]) w := by
  refine (MapE.at.1 h).missOk (fun p hp => ?_) hk
  obtain ⟨q, hq, rfl⟩ := List.mem_map.1 hp
  exact getK_none hg q hq

theorem eql_hole (w : World) : (binOp .eql 20 (.iface 108 (.agg #[])) (.iface 108 (.agg #[]))).run Tryz.prog w = .ok (.bool true) w := by kernel_rfl
theorem eql_nil (w : World) : (binOp .eql 20 .nilIface (.iface 108 (.agg #[]))).run Tryz.prog w = .ok (.bool false) w := by kernel_rfl
theorem eql_other (t : TypeId) (v : Value) (ht : t ≠ 108) (w : World) : (binOp .eql 20 (.iface t v) (.iface 108 (.agg #[]))).run Tryz.prog w = .ok (.bool false) w := by
  have h : (Op.equalIn 10000 20 (.iface t v) (.iface 108 (.agg #[]))).run Tryz.prog w = .ok false w := by
    rw [show (10000 : Nat) = 9999 + 1 from rfl, Op.equalIn]
    simp [run_underlying Tryz.underlying20, Result.andThen, ht]
  show (Sem.run Tryz.prog ((Op.equalIn 10000 20 (.iface t v) (.iface 108 (.agg #[]))) >>= fun b => pure (Value.bool b)) w) = _
  simp [h, Result.andThen]

theorem eqm_nil (w : World) : (binOp .eql 62 (.map none) (.map none)).run Tryz.prog w = .ok (.bool true) w := by kernel_rfl
theorem eqm_some (r : Nat) (w : World) : (binOp .eql 62 (.map (some r)) (.map none)).run Tryz.prog w = .ok (.bool false) w := by kernel_rfl
theorem eqs_nil (n c : Nat) (w : World) : (binOp .eql 59 (.slice none n c) (.slice none 0 0)).run Tryz.prog w = .ok (.bool true) w := by kernel_rfl
theorem eqs_some (a : Addr) (n c : Nat) (w : World) : (binOp .eql 59 (.slice (some a) n c) (.slice none 0 0)).run Tryz.prog w = .ok (.bool false) w := by kernel_rfl

def IsI (x : Value) : Prop := x = .nilIface ∨ ∃ t y, x = .iface t y
/-- Where the hole is told from the others, y is none. -/
def NoHole (ok : Bool) (y : Value) : Prop := y = .nilIface ∨ ∃ t z, y = .iface t z ∧ (ok = false → t ≠ 108)

/-- What updateObject hands back where it sets. -/
def SetO (w : World) (S T : Nat → Prop) (o : Option J) (k : ByteArray) (t : List (ByteArray × Part)) (e : Ending) (w' : World) : Prop :=
  (o = none ∧ ∃ er, ErrV er ∧ e = .returned (.tuple #[.nilIface, er]) ∧ Below w.heap.size w w') ∨
  ∃ z u w1 bd, o = some z ∧ e = .returned (.tuple #[.iface 62 (.map (some bd)), .nilIface]) ∧ RepJ w1 (NewS S T w w1) z u ∧ Below w.heap.size w w1 ∧ Below w1.heap.size w1 w' ∧ w1.heap.size ≤ bd ∧
    w'.ownsMap Tryz.prog 9 heldR bd (t.length + 1) ((DataW.map (entT t)).put (keyL k) (.held u))

set_option maxHeartbeats 4000000 in
set_option maxRecDepth 100000 in
theorem updObj_walk {am : Option Nat} {k : ByteArray} {pv y x : Value} {mv : Option Nat} {ok : Bool} {t : List (ByteArray × Part)} {o : Option J} {S T : Nat → Prop} {w : World} (hk : k.size ≤ 140737488351232) (fx : IsI x) (fp : ∃ a n c, pv = .slice a n c) (fy : NoHole ok y)
    (hlk : (Instr.lookup 62 (.map mv) (.string k) true).run Tryz.prog w = .ok (.tuple #[x, .bool ok]) w) (hu : Calls Tryz.prog 65 #[x, pv, y, .map am] w (UpdR w S T o))
    (hlen : ∀ ty w', Below w.heap.size w w' → (Builtin.len_ #[62] ty #[.map mv]).run Tryz.prog w' = .ok (.int .i64 t.length) w') (htl : t.length ≤ 140737488351232)
    (hcp : ∀ w' bd, Below w.heap.size w w' → w.heap.size ≤ bd → w'.ownsMap Tryz.prog 9 heldR bd 0 (.map []) → Calls Tryz.prog 122 #[.map (some bd), .map mv] w' fun e w'' => e = .returned (.tuple #[]) ∧ w''.ownsMap Tryz.prog 9 heldR bd t.length (.map (entT t)) ∧ w'.grownBy w'' (some bd)) :
    Calls Tryz.prog 90 #[.map mv, .string k, pv, y, .map am] w (SetO w S T o k t) := by
  have Hu := Lib.hid hu
  have Hlen := Lib.hid hlen
  have Hcp := Lib.hid hcp
  clear hu hlen hcp
  obtain ⟨pa, pn, pc, rfl⟩ := fp
  have q1 := eql_nil w
  have hkey : keyOf Tryz.prog 9 (.string k) = some (.string k.data.toList) := keyOf_string_mk Tryz.underlying9 (by unfold maxLen; omega)
  have h63 : t.length < maxLen := by unfold maxLen; omega
  rcases fy with rfl | ⟨ty, y, rfl, hty⟩ <;> rcases fx with rfl | ⟨tx, x, rfl⟩ <;> cases ok
  all_goals
    try have q2 := eql_other ty y (hty rfl) w
    try clear hty
    go_enter Tryz.func90, Tryz.ntmps90
    go_wp2_with fail
    refine Hu.out.mono ?_
    rintro e w1 ⟨u, er, rfl, fu, fe, hb1, hsome, hnone⟩
    cases ho : o with
    | none =>
      have he := hnone ho
      obtain ⟨te, ae, rfl⟩ := he.form
      have He := Lib.hid he
      have Hb := Lib.hid hb1
      clear hnone hsome fe he hb1 hlk Hu q1
      rcases fu with rfl | ⟨tu, u, rfl⟩
      all_goals
        go_wp2_with fail
        go_ret2
        exact .inl ⟨ho, _, He.out, rfl, Hb.out⟩
    | some z =>
      obtain ⟨rfl, hr⟩ := hsome z ho
      have Hr := Lib.hid hr
      have Hb := Lib.hid hb1
      have hlen1 := Hlen.out 3 w1 hb1
      have hlt : (t.length : Int) + 1 ≤ 9223372036854775807 := by omega
      have hs1 := hb1.size
      clear hnone hsome fe hr hlk Hu q1
      rcases fu with rfl | ⟨tu, u, rfl⟩
      all_goals
        go_wp2_with fail
        refine (allocated_any _ _ _).mono ?_
        rintro e w2 ⟨rfl, rfl⟩
        go_wp2_with fail
        refine (makeObject_any _ _ _).mono ?_
        rintro e w3 ⟨rfl, rfl⟩
        have hb3 : Below w2.heap.size w2 (w2.alloc (.map #[] 0)) := below_alloc1 _ _
        have hmade : (w2.alloc (.map #[] 0)).ownsMap Tryz.prog 9 heldR w2.heap.size 0 (.map []) := World.ownsMap_made w2 _ _ _
        have Cp := Lib.hid (Hcp.out _ _ (Hb.out.trans (hb3.mono hs1)) hs1 hmade)
        clear hmade
        generalize w2.alloc (.map #[] 0) = w3 at *
        go_wp2_with fail
        refine Cp.out.mono ?_
        rintro e w4 ⟨rfl, hown4, hg4⟩
        have hb4 : Below w2.heap.size w2 w4 := hb3.grown hg4 hb3.size (fun q hq => by cases hq; exact Nat.le_refl _)
        clear Cp hb3 hg4
        go_wp2_with (at_mapUpdate; refine wpList_mapUpdate_own _ rfl _ _ _ 62 rfl 9 20 law_str Tryz.underlying62 heldR w2.heap.size t.length _ rfl hown4 h63 _ _ _ rfl rfl hkey (.held _) [] rfl ?_; intro w5 hown5 hg5)
        have hb5 : Below w2.heap.size w2 w5 := hb4.grown hg5 hb4.size (fun q hq => by cases hq; exact Nat.le_refl _)
        have Hfin := Lib.hid hown5
        have Hb5 := Lib.hid hb5
        clear hown5 hb5 hown4 hg5 hb4
        go_wp2_with fail
        go_ret2
        exact .inr ⟨z, _, w2, _, ho, rfl, Hr.out, Hb.out, Hb5.out, Nat.le_refl _, Hfin.out⟩

end Go.Proofs.YtpoibibbkjogpaaGreatDoor

namespace Go.Proofs.YtpoibibbkjogpaaGreatDoor
open Go Go.RowKit

def Yes (w : World) (e : Ending) (w' : World) : Prop := e = .returned (.bool true) ∧ Below w.heap.size w w'

set_option maxRecDepth 100000 in
theorem told_raises (k h k' h' : Int) (t t' : ByteArray) (la ka va la' ka' va' : Option Addr) (nl cl nk ck nv cv nl' cl' nk' ck' nv' cv' : Nat) (w : World) :
    Calls Tryz.prog 27 #[.agg #[.int .i64 k, .int .i64 h, .string t, .slice la nl cl, .slice ka nk ck, .slice va nv cv, .int .i64 1], .agg #[.int .i64 k', .int .i64 h', .string t', .slice la' nl' cl', .slice ka' nk' ck', .slice va' nv' cv'], .int .i64 1] w (Yes w) := by
  go_enter Tryz.func27, Tryz.ntmps27
  go_wp2_with fail
  go_ret
  exact ⟨rfl, below_alloc2 _ _ _⟩

set_option maxRecDepth 100000 in
theorem told_silent (k h k' h' n : Int) (t t' : ByteArray) (la ka va la' ka' va' : Option Addr) (nl cl nk ck nv cv nl' cl' nk' ck' nv' cv' : Nat) (w : World) :
    Calls Tryz.prog 27 #[.agg #[.int .i64 k, .int .i64 h, .string t, .slice la nl cl, .slice ka nk ck, .slice va nv cv, .int .i64 n], .agg #[.int .i64 k', .int .i64 h', .string t', .slice la' nl' cl', .slice ka' nk' ck', .slice va' nv' cv'], .int .i64 2] w (Yes w) := by
  go_enter Tryz.func27, Tryz.ntmps27
  go_wp2_with fail
  go_ret
  exact ⟨rfl, below_alloc2 _ _ _⟩

set_option maxRecDepth 100000 in
theorem told_val (w : World) (a b : V) (c0 c1 c2 c3 c4 c5 : Value) (cb : List Value) (ha : RepV w w.heap.size a [c0, c1, c2, c3, c4, c5]) (hb : RepV w w.heap.size b cb) :
    Calls Tryz.prog 27 #[.agg #[c0, c1, c2, c3, c4, c5, .int .i64 0], .agg cb.toArray, .int .i64 0] w (BoolP w (sameB a b)) := by
  have H := Lib.hid (same_any w w.heap.size a b _ _ ha hb)
  obtain ⟨k, h, t, la, ka, va, nl, cl, nk, ck, nv, cv, e⟩ := ha.shape
  obtain ⟨k', h', t', la', ka', va', nl', cl', nk', ck', nv', cv', rfl⟩ := hb.shape
  simp only [List.cons.injEq, and_true] at e
  obtain ⟨rfl, rfl, rfl, rfl, rfl, rfl⟩ := e
  clear ha hb
  have hbW := below_alloc2 w (.cells #[.int .i64 k, .int .i64 h, .string t, .slice la nl cl, .slice ka nk ck, .slice va nv cv, .int .i64 0] 31)
    (.cells #[.int .i64 k', .int .i64 h', .string t', .slice la' nl' cl', .slice ka' nk' ck', .slice va' nv' cv'] 26)
  go_enter Tryz.func27, Tryz.ntmps27
  go_wp2_with fail
  refine (H.out _ hbW (by simp; omega)).mono ?_
  rintro e w2 ⟨rfl, hw⟩
  go_wp2_with fail
  go_ret
  exact ⟨rfl, below_next hbW hw⟩

end Go.Proofs.YtpoibibbkjogpaaGreatDoor

namespace Go.Proofs.YtpoibibbkjogpaaGreatDoor
open Go Go.RowKit Go.Maps Go.Deep

/-- What impl.result returns where the answer is an. -/
def ResQ (w : World) (an : Ans) (e : Ending) (w' : World) : Prop :=
  ∃ (k h : Int) (t : ByteArray) (la ka va : Option Addr) (nl cl nk ck nv cv : Nat) (n : Int), e = .returned (.agg #[.int .i64 k, .int .i64 h, .string t, .slice la nl cl, .slice ka nk ck, .slice va nv cv, .int .i64 n]) ∧
    ((∀ v, an = .fine v → n = 0 ∧ RepS w' (FreshS w.heap.size w'.heap.size) v [.int .i64 k, .int .i64 h, .string t, .slice la nl cl, .slice ka nk ck, .slice va nv cv]) ∧ (an = .raises → n = 1)) ∧ Below w.heap.size w w'

theorem resQ_val {w : World} {x : Value} {v : V} {an : Ans} (h : Calls Tryz.prog 22 #[x] w (ResV w v)) (ha : an = .fine v ∨ an = .silent) : Calls Tryz.prog 22 #[x] w (ResQ w an) := by
  refine h.mono ?_
  rintro e w' ⟨c0, c1, c2, c3, c4, c5, rfl, hr, hb⟩
  obtain ⟨k, h, t, la, ka, va, nl, cl, nk, ck, nv, cv, e⟩ := hr.shape
  simp only [List.cons.injEq, and_true] at e
  obtain ⟨rfl, rfl, rfl, rfl, rfl, rfl⟩ := e
  refine ⟨_, _, _, _, _, _, _, _, _, _, _, _, _, rfl, ⟨fun v' hv => ?_, fun hv => ?_⟩, hb⟩
  · rcases ha with ha | ha
    · rw [ha] at hv
      cases hv
      exact ⟨rfl, hr⟩
    · rw [ha] at hv; cases hv
  · rcases ha with ha | ha <;> (rw [ha] at hv; cases hv)

theorem resQ_err {u : Value} (hu : ErrV u) (w : World) : Calls Tryz.prog 22 #[u] w (ResQ w .raises) :=
  (result_err u hu w).mono fun e w' ⟨he, hb⟩ => ⟨_, _, _, _, _, _, _, _, _, _, _, _, _, he, ⟨fun v hv => (by cases hv), fun _ => rfl⟩, hb⟩

theorem resQ_flt {x : Nat} (hx : FloatKind.f64.format.order x x = some .eq) (w : World) : Calls Tryz.prog 22 #[.iface 58 (.float .f64 x)] w (ResQ w .silent) := by
  have hm : ∃ y, FloatKind.f64.format.mul 4611686018427387904 x = some y ∧ ∀ s t, FloatKind.f64.decode y ≠ .nan s t := by
    have hn : ∀ y, Ieee.double.order y y = some .eq → ∀ s t, FloatKind.f64.decode y ≠ .nan s t := fun y hy s t e => by
      have : Ieee.double.read y = .nan s t := e
      unfold Ieee.Format.order at hy
      rw [this] at hy
      cases hy
    have h0 : Ieee.Datum.order (Ieee.double.read x) (Ieee.double.read x) = some .eq := hx
    cases hr : Ieee.double.read x with
    | nan s t => rw [hr] at h0; cases h0
    | number s m i =>
      refine ⟨Ieee.double.nearest (false ^^ s) (2 ^ 52 * m) (-51 + i), ?_, hn _ (near_ok _ _ _)⟩
      show Ieee.double.mul _ _ = _
      unfold Ieee.Format.mul
      rw [hr, two_read]
      simp only [Ieee.Datum.product, Option.map_some, Ieee.Format.write]
    | infinity s =>
      refine ⟨Ieee.double.word (false ^^ s) Ieee.double.infRung, ?_, hn _ (word_ok _ (by rw [infRung_double]; exact Nat.le_refl _))⟩
      show Ieee.double.mul _ _ = _
      unfold Ieee.Format.mul
      rw [hr, two_read]
      simp [Ieee.Datum.product, Ieee.Format.write]
  obtain ⟨y, hy, hny⟩ := hm
  refine (result_half (fun _ _ => True) (fun w => fromGo_flt x y hy (fun _ _ => True) (fun w => (half_any y hny w).mono fun e w' ⟨b, h, he, _, _, hb⟩ => ⟨b, h, trivial, he, hb⟩) w) w).mono ?_
  rintro e w' ⟨b, h, _, rfl, hb⟩
  exact ⟨_, _, _, _, _, _, _, _, _, _, _, _, _, rfl, ⟨fun v hv => (by cases hv), fun hv => (by cases hv)⟩, hb⟩

/-- What a callback leaves, for impl.result. -/
abbrev SubR (w : World) (an : Ans) (v : Value) (w' : World) : Prop := (v = .nilIface ∨ ∃ t y, v = .iface t y) ∧ Calls Tryz.prog 22 #[v] w' (ResQ w' an) ∧ Below w.heap.size w w'

theorem subR_err {w : World} {f : Nat} {args : Array Value} (h : Calls Tryz.prog f args w (RetErr w)) : Calls Tryz.prog f args w (Ret (SubR w .raises)) :=
  h.mono fun _ _ ⟨v, he, hv, hb⟩ => ⟨v, he, by obtain ⟨t, a, rfl⟩ := hv.form; exact .inr ⟨_, _, rfl⟩, resQ_err hv _, hb⟩

theorem resQ_store {w w3 w4 : World} {an : Ans} {z : Nat} {k h : Int} {t : ByteArray} {la ka va : Option Addr} {nl cl nk ck nv cv : Nat} {n : Int} (hz : w.heap.size ≤ z) (hz2 : z < w3.heap.size) (hb3 : Below w.heap.size w w3) (hb4 : Below w3.heap.size w3 w4)
    (hR : (∀ v, an = .fine v → n = 0 ∧ RepS w4 (FreshS w3.heap.size w4.heap.size) v [.int .i64 k, .int .i64 h, .string t, .slice la nl cl, .slice ka nk ck, .slice va nv cv]) ∧ (an = .raises → n = 1)) :
    ResQ w an (.returned (.agg #[.int .i64 k, .int .i64 h, .string t, .slice la nl cl, .slice ka nk ck, .slice va nv cv, .int .i64 n]))
      (((((((w4.setCell ⟨z, 0, none⟩ (.int .i64 k)).setCell ⟨z, 1, none⟩ (.int .i64 h)).setCell ⟨z, 2, none⟩ (.string t)).setCell ⟨z, 3, none⟩ (.slice la nl cl)).setCell ⟨z, 4, none⟩ (.slice ka nk ck)).setCell ⟨z, 5, none⟩ (.slice va nv cv)).setCell ⟨z, 6, none⟩ (.int .i64 n)) := by
  have h3 := hb3.size
  have h4 := hb4.size
  refine ⟨_, _, _, _, _, _, _, _, _, _, _, _, _, rfl, ⟨fun v hv => ?_, hR.2⟩, ?_⟩
  · obtain ⟨e, hr⟩ := hR.1 v hv
    refine ⟨e, hr.turn fun q hq => ⟨set7_other _ _ _ _ _ _ _ _ _ _ ?_, ?_⟩⟩
    · unfold FreshS at hq; omega
    · unfold FreshS at hq ⊢
      rw [set7_size]
      omega
  · exact (((((((hb3.trans (hb4.mono h3)).setCell (by simp; omega) _).setCell (by simp; omega) _).setCell (by simp; omega) _).setCell (by simp; omega) _).setCell (by simp; omega) _).setCell (by simp; omega) _).setCell (by simp; omega) _

/-- What a result of seven cells says, where the answer is an. -/
def Got (w : World) (an : Ans) (k h : Int) (t : ByteArray) (la ka va : Option Addr) (nl cl nk ck nv cv : Nat) (n : Int) : Prop :=
  (∀ v, an = .fine v → n = 0 ∧ RepV w w.heap.size v [.int .i64 k, .int .i64 h, .string t, .slice la nl cl, .slice ka nk ck, .slice va nv cv]) ∧ (an = .raises → n = 1)

/-- A result of seven cells; new memory alone since W. -/
def GotFrom (W : World) (an : Ans) (e : Ending) (w' : World) : Prop :=
  ∃ (k h : Int) (t : ByteArray) (la ka va : Option Addr) (nl cl nk ck nv cv : Nat) (n : Int), e = .returned (.agg #[.int .i64 k, .int .i64 h, .string t, .slice la nl cl, .slice ka nk ck, .slice va nv cv, .int .i64 n]) ∧
    Got w' an k h t la ka va nl cl nk ck nv cv n ∧ Below W.heap.size W w'

theorem ResQ.from {W w : World} {an : Ans} {e : Ending} {w' : World} (h : ResQ w an e w') (hw : Below W.heap.size W w) : GotFrom W an e w' := by
  obtain ⟨k, h, t, la, ka, va, nl, cl, nk, ck, nv, cv, n, he, hR, hb⟩ := h
  exact ⟨k, h, t, la, ka, va, nl, cl, nk, ck, nv, cv, n, he, ⟨fun v hv => ⟨(hR.1 v hv).1, (hR.1 v hv).2.toV fun q hq => hq.2⟩, hR.2⟩, hw.trans (hb.mono hw.size)⟩

theorem told_ans {w : World} {an : Ans} (hg : ∀ v, an = .fine v → Good v) {k h n k1 h1 : Int} {t t1 : ByteArray} {la ka va la1 ka1 va1 : Option Addr} {nl cl nk ck nv cv nl1 cl1 nk1 ck1 nv1 cv1 : Nat}
    (hR : Got w an k h t la ka va nl cl nk ck nv cv n) (hP : ∀ v, an = .fine v → RepV w w.heap.size v [.int .i64 k1, .int .i64 h1, .string t1, .slice la1 nl1 cl1, .slice ka1 nk1 ck1, .slice va1 nv1 cv1]) :
    Calls Tryz.prog 27 #[.agg #[.int .i64 k, .int .i64 h, .string t, .slice la nl cl, .slice ka nk ck, .slice va nv cv, .int .i64 n], .agg #[.int .i64 k1, .int .i64 h1, .string t1, .slice la1 nl1 cl1, .slice ka1 nk1 ck1, .slice va1 nv1 cv1], .int .i64 an.how] w (Yes w) := by
  cases an with
  | raises =>
    obtain rfl := hR.2 rfl
    exact told_raises _ _ _ _ _ _ _ _ _ _ _ _ _ _ _ _ _ _ _ _ _ _ _ _ w
  | silent => exact told_silent _ _ _ _ _ _ _ _ _ _ _ _ _ _ _ _ _ _ _ _ _ _ _ _ _ w
  | fine v =>
    obtain ⟨rfl, r1⟩ := hR.1 v rfl
    have := told_val w v v _ _ _ _ _ _ _ r1 (hP v rfl)
    rw [(sameB_iff (hg v rfl) (hg v rfl)).2 rfl] at this
    exact this

end Go.Proofs.YtpoibibbkjogpaaGreatDoor

namespace Go.Proofs.YtpoibibbkjogpaaGreatDoor
open Go Go.RowKit Go.Maps Go.Deep

set_option maxRecDepth 100000 in
theorem larray_any (a : Option Addr) (n c : Nat) (w : World) : Calls Tryz.prog 9 #[.slice a n c] w fun e w' =>
    e = .returned (.agg #[.int .i64 5, .int .i64 0, .string ⟨#[]⟩, .slice a n c, .slice none 0 0, .slice none 0 0]) ∧ Below w.heap.size w w' := by
  go_enter Tryz.func9, Tryz.ntmps9
  go_wp2_with fail
  refine bodyPost_ret (v := .agg #[.int .i64 5, .int .i64 0, .string ⟨#[]⟩, .slice a n c, .slice none 0 0, .slice none 0 0]) ?_ rfl ⟨rfl, below_alloc1 w _⟩
  exact results_cell_row (p := 2) (ty := 26) rfl _ _ w.heap.size 26 _ (0, 0) _ rfl (at_alloc w _) Tryz.underlying26 rfl (by kernel_rfl)

def FitsLoop (w : World) (l : List V) (i : Value) (wr : World) : Prop := ∃ n : Nat, n ≤ l.length ∧ i = .int .i64 (n : Nat) ∧ Below w.heap.size w wr ∧ (l.take n).all fitB = true

set_option maxHeartbeats 2000000 in
set_option maxRecDepth 100000 in
theorem fits_any (w : World) (l : List V) (la : Option Addr) (lc : Nat) (C : Nat → List Value) (hl : l.length * 104 ≤ 140737488351232)
    (cl : 0 < l.length → ∃ b o, la = some ⟨b, o, none⟩ ∧ b < w.heap.size ∧ ∀ i, i < l.length → CellsAt w b (o + i * 6) (C i)) (rl : ∀ i (hi : i < l.length), RepV w w.heap.size l[i] (C i)) (hTB : TabsB w w.heap.size) :
    Calls Tryz.prog 7 #[.slice la l.length lc] w (BoolP w (l.all fitB)) := by
  have Hcl := Lib.hid cl; clear cl
  go_enter Tryz.func7, Tryz.ntmps7
  go_wp2_with fail
  go_loopw [7] (fun i wr => FitsLoop w l i wr) (fun i _ => l.length - (intOf i).toNat)
  case atStart => exact ⟨0, Nat.zero_le _, rfl, Below.refl _ _, rfl⟩
  case round =>
    obtain ⟨n, hn, rfl, hb, hall⟩ := hrel
    by_cases hn' : n < l.length
    · obtain ⟨lb, lo, rfl, hlb, hcel⟩ := Hcl.out (by omega)
      have cc := (hcel n hn').below hb hlb
      have hr := (rl n hn').carry hb hb.size
      have hsn : (l.take (n + 1)).all fitB = fitB l[n] := by
        rw [List.take_succ_eq_append_getElem hn', List.all_append, hall]; simp
      have hno : fitB l[n] = false → l.all fitB = false := fun h => by
        rw [List.all_eq_false]
        exact ⟨_, List.getElem_mem hn', by simp [h]⟩
      have Hsn := Lib.hid hsn
      have Hno := Lib.hid hno
      obtain ⟨k', h', t', la2, ka2, va2, nl', cl', nk', ck', nv', cv', hC⟩ := hr.shape
      rw [hC] at cc hr
      have hal := below_alloc1 wr (.cells #[.int .i64 k', .int .i64 h', .string t', .slice la2 nl' cl', .slice ka2 nk' ck', .slice va2 nv' cv'] 26)
      have HF := Lib.hid (fit_any (wr.alloc (.cells #[.int .i64 k', .int .i64 h', .string t', .slice la2 nl' cl', .slice ka2 nk' ck', .slice va2 nv' cv'] 26)) l[n] _ (hr.carry hal hal.size) (hTB.carry (hb.trans (hal.mono hb.size)) (by have := hb.size; have := hal.size; omega)))
      obtain ⟨y0, y1, y2, y3, y4, y5⟩ := cells6 cc
      have u1 : (n : Int) < (l.length : Int) := by omega
      have u2 : (0 : Int) ≤ (n : Int) := by omega
      have Hb := Lib.hid (hb.trans (hal.mono hb.size))
      clear hcel cc hr hC hsn hno hall hal
      go_wp2_with fail
      refine HF.out.mono ?_
      rintro e w2 ⟨rfl, hw2⟩
      have hb3 : Below w.heap.size w w2 := Hb.out.trans (hw2.mono Hb.out.size)
      cases hf : fitB l[n] with
      | true =>
        have Hr := Lib.hid (Hsn.out.trans hf)
        clear hf hw2 HF
        go_wp2_with fail
        go_roundw
        case rel => exact ⟨n + 1, hn', by go_num, hb3, Hr.out⟩
        case measure => simp [intOf]; omega
      | false =>
        have Hr := Lib.hid (Hno.out hf)
        clear hf hw2 HF
        go_wp2_with fail
        go_ret
        exact ⟨by rw [Hr.out]; rfl, hb3⟩
    · have e : n = l.length := by omega
      have Hr := Lib.hid (show l.all fitB = true by rw [← hall, e, List.take_length])
      clear hall
      go_wp2_with fail
      go_ret
      exact ⟨by rw [Hr.out]; rfl, hb⟩

end Go.Proofs.YtpoibibbkjogpaaGreatDoor

namespace Go.Proofs.YtpoibibbkjogpaaGreatDoor
open Go Go.RowKit Go.Deep

theorem rep_array {w : World} {B : Nat} {p : List V} {pa : Option Addr} {pc : Nat} {C : Nat → List Value} (hpl : p.length * 104 ≤ 140737488351232)
    (cp : 0 < p.length → ∃ b o, pa = some ⟨b, o, none⟩ ∧ b < B ∧ ∀ i, i < p.length → CellsAt w b (o + i * 6) (C i)) (rp : ∀ i (hi : i < p.length), RepV w B p[i] (C i)) (hpc : p.length ≤ pc) :
    RepV w B (.mk 5 0 ⟨#[]⟩ p [] []) [.int .i64 5, .int .i64 0, .string ⟨#[]⟩, .slice pa p.length pc, .slice none 0 0, .slice none 0 0] :=
  .mk (ks := []) (vs := []) C (fun _ => []) (by decide) (by decide) (Nat.zero_le _) hpl (by simp) (by simp) (fun s hs => by simp at hs) cp rp (fun h => by simp at h) (fun h => by simp at h) (fun i hi => by simp at hi) hpc

theorem rep_way {v : V} {p : List V} {y : V} (h : WayTo v p y) : ∀ {w : World} {B : Nat} {cs : List Value}, RepV w B v cs → ∀ k, strV k ∈ p → k.size ≤ 140737488351232 := by
  induction h with
  | here v => intro w B cs _ k hk; cases hk
  | @elem k h t l ks vs p y i hi hw ih =>
    intro w B cs hr k' hk
    cases hr with
    | mk C D _ _ _ _ _ _ _ _ rl _ _ _ =>
      rcases List.mem_cons.1 hk with e | hk
      · exact absurd e (by simp [numV, strV])
      · exact ih (rl i hi) k' hk
  | @key k h t l ks vs p y i hk hi hw ih =>
    intro w B cs hr k' hk'
    cases hr with
    | mk C D _ _ _ _ _ _ hs _ _ _ _ rv =>
      rcases List.mem_cons.1 hk' with e | hk'
      · rw [strV_inj e]; exact hs _ (List.getElem_mem hk)
      · exact ih (rv i hi) k' hk'

theorem key_rep {w : World} {B : Nat} {s : Stp} (hs : s.small) : RepV w B s.v (keyC s.v) := by
  cases s with
  | key k => exact .mk (l := []) (ks := []) (vs := []) (fun _ => []) (fun _ => []) (by decide) (by decide) hs (by simp) (by simp) (by simp) (fun s hs => by simp at hs) (fun h => by simp at h) (fun i hi => by simp at hi) (fun h => by simp at h) (fun h => by simp at h) (fun i hi => by simp at hi) (Nat.le_refl _)
  | idx n =>
    have hn : n ≤ 1000 := hs
    exact .mk (l := []) (ks := []) (vs := []) (fun _ => []) (fun _ => []) (by decide) (by omega) (Nat.zero_le _) (by simp) (by simp) (by simp) (fun s hs => by simp at hs) (fun h => by simp at h) (fun i hi => by simp at hi) (fun h => by simp at h) (fun h => by simp at h) (fun i hi => by simp at hi) (Nat.le_refl _)
theorem key_good {s : Stp} (hs : s.small) (hv : ∀ k, s = .key k → Good (strV k)) : Good s.v := by
  cases s with
  | key k => exact hv k rfl
  | idx n =>
    have hn : n ≤ 1000 := hs
    show Good (numV n)
    unfold numV
    refine .mk ?_ ?_ rfl (fun i hi => by simp at hi) (fun i hi => by simp at hi) (fun i hi => by simp at hi) (fun i hi => by simp at hi)
    · simp [shapeB, Lib.toList_data]
    · simp only [halfB, Bool.and_eq_true, decide_eq_true_eq, Bool.or_eq_true, beq_iff_eq]
      refine ⟨by omega, .inr (by omega)⟩
theorem way_good {v : V} {p : List V} {y : V} (h : WayTo v p y) : Good v → sizeV v ≤ 400 → Good y ∧ ∀ x ∈ p, Good x := by
  induction h with
  | here v => intro g _; exact ⟨g, fun x hx => by cases hx⟩
  | @elem k h t l ks vs p y i hi hw ih =>
    intro g hz
    have h1 := sizeL_get hi
    have h2 := sizeL_len l
    rw [sizeV] at hz
    have gi : Good l[i] := by
      cases g with
      | mk shape half valid list rise vkeys vals => exact list i hi
    refine ⟨(ih gi (by omega)).1, fun x hx => ?_⟩
    rcases List.mem_cons.1 hx with rfl | hx
    · have hs : halfB (2 * (i : Int)) = true := by
        simp only [halfB, Bool.and_eq_true, decide_eq_true_eq, Bool.or_eq_true, beq_iff_eq]
        refine ⟨by omega, .inr (by omega)⟩
      unfold numV
      exact .mk (by simp [shapeB, Lib.toList_data]) hs rfl (fun i hi => by simp at hi) (fun i hi => by simp at hi) (fun i hi => by simp at hi) (fun i hi => by simp at hi)
    · exact (ih gi (by omega)).2 x hx
  | @key k h t l ks vs p y i hk hi hw ih =>
    intro g hz
    have h1 := sizeL_get hi
    rw [sizeV] at hz
    have gi : Good vs[i] ∧ Lib.validD ks[i].data.toList = true := by
      cases g with
      | mk shape half valid list rise vkeys vals => exact ⟨vals i hi, vkeys i hk⟩
    refine ⟨(ih gi.1 (by omega)).1, fun x hx => ?_⟩
    rcases List.mem_cons.1 hx with rfl | hx
    · unfold strV
      exact .mk (by simp [shapeB, Lib.toList_data]) (by decide) gi.2 (fun i hi => by simp at hi) (fun i hi => by simp at hi) (fun i hi => by simp at hi) (fun i hi => by simp at hi)
    · exact (ih gi.1 (by omega)).2 x hx

set_option maxRecDepth 100000 in
theorem given_any {w : World} {v : V} (gv : Good v) {k h n k1 h1 : Int} {t t1 : ByteArray} {la ka va la1 ka1 va1 : Option Addr} {nl cl nk ck nv cv nl1 cl1 nk1 ck1 nv1 cv1 : Nat}
    (hR : Got w (.fine v) k h t la ka va nl cl nk ck nv cv n) (hP : RepV w w.heap.size v [.int .i64 k1, .int .i64 h1, .string t1, .slice la1 nl1 cl1, .slice ka1 nk1 ck1, .slice va1 nv1 cv1]) :
    Calls Tryz.prog 13 #[.agg #[.int .i64 k, .int .i64 h, .string t, .slice la nl cl, .slice ka nk ck, .slice va nv cv, .int .i64 n], .agg #[.int .i64 k1, .int .i64 h1, .string t1, .slice la1 nl1 cl1, .slice ka1 nk1 ck1, .slice va1 nv1 cv1]] w (Yes w) := by
  have hT := Lib.hid fun (w' : World) (hb : Below w.heap.size w w') => told_ans (w := w') (an := .fine v) (fun x e => by cases e; exact gv) (k := k) (h := h) (n := n) (t := t) (la := la) (ka := ka) (va := va) (nl := nl) (cl := cl) (nk := nk) (ck := ck) (nv := nv) (cv := cv)
    ⟨fun x e => ⟨(hR.1 x e).1, (hR.1 x e).2.carry hb hb.size⟩, hR.2⟩ (fun x e => by cases e; exact hP.carry hb hb.size)
  clear hR hP
  go_enter Tryz.func13, Tryz.ntmps13
  go_wp2_with fail
  refine (hT.out _ (below_alloc2 w _ _)).mono ?_
  rintro e w1 ⟨rfl, hb⟩
  have hs := (below_alloc2 w (.cells #[.int .i64 k, .int .i64 h, .string t, .slice la nl cl, .slice ka nk ck, .slice va nv cv, .int .i64 n] 31) (.cells #[.int .i64 k1, .int .i64 h1, .string t1, .slice la1 nl1 cl1, .slice ka1 nk1 ck1, .slice va1 nv1 cv1] 26)).trans (hb.mono (by simp; omega))
  have Hs := Lib.hid hs
  clear hs hb
  go_wp2_with fail
  go_ret
  exact ⟨rfl, Hs.out⟩

theorem fits1_any (w : World) (a : V) (ca : List Value) (ha : RepV w w.heap.size a ca) (z : Nat) (hz : CellsAt w z 0 ca) (hzl : z < w.heap.size) (hTB : TabsB w w.heap.size) (c : Nat) :
    Calls Tryz.prog 7 #[.slice (some ⟨z, 0, none⟩) 1 c] w (BoolP w (fitB a)) := by
  have := fits_any w [a] (some ⟨z, 0, none⟩) c (fun _ => ca) (by simp) (fun _ => ⟨z, 0, rfl, hzl, fun i hi => by
      have h0 : i = 0 := by simpa using hi
      subst h0
      exact hz⟩)
    (fun i hi => by
      have h0 : i = 0 := by simpa using hi
      subst h0
      exact ha) hTB
  simpa using this

theorem one_cells {w : World} {b : Nat} {c0 c1 c2 c3 c4 c5 : Value} {t : TypeId} (h : w.heap[b]? = some (.cells #[c0, c1, c2, c3, c4, c5] t)) : CellsAt w b 0 [c0, c1, c2, c3, c4, c5] := by
  intro j hj
  simp only [List.length_cons, List.length_nil] at hj
  match j, hj with
  | 0, _ | 1, _ | 2, _ | 3, _ | 4, _ | 5, _ => simp [World.cell?, h]

/-- A path in memory is the row of an array. -/
theorem rep_path {w : World} {p : List V} {s : List Stp} (hs : p = s.map Stp.v) (hsm : ∀ x ∈ s, x.small) (hl : p.length ≤ 1000) {pa : Option Addr} {pn pc : Nat} (h : PathS w (· < w.heap.size) p (.slice pa pn pc)) :
    pn = p.length ∧ RepV w w.heap.size (.mk 5 0 ⟨#[]⟩ p [] []) [.int .i64 5, .int .i64 0, .string ⟨#[]⟩, .slice pa p.length pc, .slice none 0 0, .slice none 0 0] := by
  obtain ⟨la, lc, e, hlc, hc⟩ := h
  injection e with e1 e2 e3
  subst e1 e2 e3
  refine ⟨rfl, rep_array (C := fun i => if h : i < p.length then keyC p[i] else []) (by omega) (fun h0 => ?_) (fun i hi => ?_) hlc⟩
  · obtain ⟨b, o, e, hb, hcel⟩ := hc h0
    exact ⟨b, o, e, hb, fun i hi => by rw [dif_pos hi]; exact hcel i hi⟩
  · rw [dif_pos hi]
    subst hs
    have hi' : i < s.length := by simpa using hi
    rw [List.getElem_map]
    exact key_rep (hsm _ (List.getElem_mem hi'))

end Go.Proofs.YtpoibibbkjogpaaGreatDoor
