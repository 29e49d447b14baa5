/- For laws.FnDelThenSet: what the guards give; laws.fits of three values. -/
import Derived.Test.YtjlkoekfcdpnaaaGreatDoorM19
import Derived.Test.YtjlkoekfcdpnaaaGreatDoorM01
namespace Go.Proofs.YtjlkoekfcdpnaaaGreatDoor
open Go Go.RowKit Go.Deep
/-- What is known of the three values where all guards let them in. -/
structure DelPlan (v : V) (p : List V) (x : V) (s : List Stp) (o : Option V) : Prop where
  path : p = s.map Stp.v
  small : ∀ y ∈ s, y.small
  left : LeftOne v s o
  then_ : ∀ r, o = some r → setV r s x = setV v s x
  gv : Good v
  gx : Good x
  gp : ∀ q ∈ p, Good q
  fv : Few 1001 v
  fx : Few 1001 x
  gr : ∀ r, o = some r → Good r ∧ Few 1001 r
  get : ∀ z, setV v s x = some z → Good z ∧ pathA z p = .fine x
theorem below_of12 {a b c d e f a1 b1 c1 d1 e1 f1 : Prop} {B : Nat} {w w' : World} (h : a ∧ b ∧ c ∧ d ∧ e ∧ f ∧ a1 ∧ b1 ∧ c1 ∧ d1 ∧ e1 ∧ f1 ∧ Below B w w') : Below B w w' := h.2.2.2.2.2.2.2.2.2.2.2.2
theorem below_of20 {a b c d e f g a1 b1 c1 d1 e1 f1 g1 a2 b2 c2 d2 e2 f2 : Prop} {B : Nat} {w w' : World} (h : a ∧ b ∧ c ∧ d ∧ e ∧ f ∧ g ∧ a1 ∧ b1 ∧ c1 ∧ d1 ∧ e1 ∧ f1 ∧ g1 ∧ a2 ∧ b2 ∧ c2 ∧ d2 ∧ e2 ∧ f2 ∧ Below B w w') : Below B w w' := h.2.2.2.2.2.2.2.2.2.2.2.2.2.2.2.2.2.2.2.2
/-- Cells that hold u. -/
def SameC (Z : World) (u : V) (cs : List Value) : Prop := Good u ∧ RepV Z Z.heap.size u cs
theorem few_fit {v : V} (h : fitB v = true) : Few 1001 v := few_mono (b := 400) (by decide) (few_of_size 400 v (fit_good h) (fit_size h))
theorem delPlan_of {w : World} {B : Nat} {v x : V} {p : List V} {C : Nat → List Value} {cv : List Value} (hv : RepV w B v cv) (rp : ∀ i (hi : i < p.length), RepV w B p[i] (C i))
    (h : ([v, .mk 5 0 ⟨#[]⟩ p [] [], x].all fitB && (straightB p && keyedB p)) = true) : ∃ s o, DelPlan v p x s o := by
  simp only [List.all_cons, List.all_nil, Bool.and_true, Bool.and_eq_true] at h
  obtain ⟨⟨h1, h2, h3⟩, h4, h5⟩ := h
  have gv := fit_good h1
  have gx := fit_good h3
  have gp : ∀ q ∈ p, Good q := fun q hq => by
    obtain ⟨_, _, _, list, _, _, _⟩ := (fit_good h2).all
    obtain ⟨i, hi, rfl⟩ := List.mem_iff_getElem.1 hq
    exact list i hi
  simp only [straightB, Bool.and_eq_true, decide_eq_true_eq] at h4
  obtain ⟨s, e, hs⟩ := straight_stps rp gp h4.1
  have hk := keyed_last (s := s) (by rw [← e]; exact h5)
  have hval := stp_valid (s := s) (by rw [← e]; exact gp)
  have hget : ∀ z, setV v s x = some z → Good z ∧ pathA z p = .fine x := fun z hz => ⟨setV_good gx s v z gv hval hz, by rw [e]; exact setV_get gx s v z gv hval hz⟩
  cases hu : updJ (toJ v) s .hole with
  | none => exact ⟨s, none, e, hs, .inl ⟨hu, rfl⟩, (fun r er => by cases er), gv, gx, gp, few_fit h1, few_fit h3, (fun r er => by cases er), hget⟩
  | some j =>
    obtain ⟨r, hr, hset⟩ := del_then s v j hk gv hu
    have hrest := hol_rest v j r hr
    refine ⟨s, some r, e, hs, .inr ⟨j, r, hu, hr, rfl⟩, fun r' er => ?_, gv, gx, gp, few_fit h1, few_fit h3, fun r' er => ?_, hget⟩
    · cases er; exact hset x
    · cases er
      exact ⟨rest_good v r hrest gv, few_fit (rest_fit hrest (rep_tame hv) h1)⟩
/-- A path alone, as an array's row. -/
def OneP (w : World) (s : List Stp) (q : Nat) : Prop := RepV w w.heap.size (.mk 5 0 ⟨#[]⟩ [pathV s] [] []) [.int .i64 5, .int .i64 0, .string ⟨#[]⟩, .slice (some ⟨q, 0, none⟩) 1 1, .slice none 0 0, .slice none 0 0]
theorem OneP.carry {w w' : World} {s : List Stp} {q : Nat} (h : OneP w s q) (hb : Below w.heap.size w w') : OneP w' s q := by
  unfold OneP at h ⊢
  exact h.carry hb hb.size
theorem oneP_of {w : World} {s : List Stp} {q : Nat} {p : List V} {pa : Option Addr} {pc : Nat} (e : p = s.map Stp.v) (hq : q < w.heap.size) (hc : CellsAt w q 0 [.int .i64 5, .int .i64 0, .string ⟨#[]⟩, .slice pa p.length pc, .slice none 0 0, .slice none 0 0])
    (hp : RepV w w.heap.size (.mk 5 0 ⟨#[]⟩ p [] []) [.int .i64 5, .int .i64 0, .string ⟨#[]⟩, .slice pa p.length pc, .slice none 0 0, .slice none 0 0]) : OneP w s q := by
  unfold OneP
  have h1 : pathV s = .mk 5 0 ⟨#[]⟩ p [] [] := by unfold pathV; rw [e]
  rw [h1]
  exact rep_array (p := [.mk 5 0 ⟨#[]⟩ p [] []]) (C := fun _ => [.int .i64 5, .int .i64 0, .string ⟨#[]⟩, .slice pa p.length pc, .slice none 0 0, .slice none 0 0]) (by simp) (fun _ => ⟨q, 0, rfl, hq, fun i hi => by
    have h0 : i = 0 := by simpa using hi
    subst h0
    exact hc⟩) (fun i hi => by
    have h0 : i = 0 := by simpa using hi
    subst h0
    exact hp) (by simp)
theorem implSet_path {v x : V} {p : List V} {s : List Stp} {o : Option V} (plan : DelPlan v p x s o) {w0 : World} {B : Nat} {u : V} {cu cb cx : List Value} (hu : RepV w0 B u cu) (hp : RepV w0 B (.mk 5 0 ⟨#[]⟩ p [] []) cb) (hx : RepV w0 B x cx) (gu : Good u) (fu : Few 1001 u)
    (w : World) (hbel : Below B w0 w) (hB : B ≤ w.heap.size) : Calls Tryz.prog 11 #[.agg cu.toArray, .agg cb.toArray, .agg cx.toArray] w (ResQ w (ansO (setV u s x))) :=
  implSet_any hu (by rw [← plan.path]; exact hp) hx gu plan.gx (by rw [← plan.path]; exact plan.gp) plan.small fu plan.fx w hbel hB
theorem keepX {X w : World} (h : Below X.heap.size X w) (o : Obj) : Below X.heap.size X (w.alloc o) := keep_alloc h h.size o
theorem zs_head {w : World} {z : Nat} {zs : List Nat} (h : Zs (z :: zs) w) : w.heap[z]? = some (.cells #[.int .i64 0, .int .i64 0, .string ⟨#[]⟩, .slice none 0 0, .slice none 0 0, .slice none 0 0, .int .i64 0] 32) := h z (List.mem_cons_self ..)
theorem zs_second {w : World} {y z : Nat} {zs : List Nat} (h : Zs (y :: z :: zs) w) : w.heap[z]? = some (.cells #[.int .i64 0, .int .i64 0, .string ⟨#[]⟩, .slice none 0 0, .slice none 0 0, .slice none 0 0, .int .i64 0] 32) := h z (List.mem_cons_of_mem _ (List.mem_cons_self ..))
section
variable {w w' : World} {lo hi : Nat} {an : Ans} {k h : Int} {t : ByteArray} {la ka va : Option Addr} {nl cl nk ck nv cv : Nat} {n : Int} {o o' : Obj}
theorem fill_next (hb : Below w.heap.size w w') (hR : FillR lo hi an k h t la ka va nl cl nk ck nv cv n w) (hh : hi ≤ w.heap.size) : FillR lo hi an k h t la ka va nl cl nk ck nv cv n w' := hR.carry fun q _ h2 => hb.block q (by omega)
theorem fill_new (hb : Below (w.alloc o).heap.size (w.alloc o) w') (hR : FillR lo hi an k h t la ka va nl cl nk ck nv cv n w) (hh : hi ≤ w.heap.size) : FillR lo hi an k h t la ka va nl cl nk ck nv cv n w' :=
  hR.carry fun q _ h2 => (hb.block q (by have := size_alloc1 w o; omega)).trans ((below_alloc1 w o).block q (by omega))
theorem fill_new2 (hb : Below ((w.alloc o).alloc o').heap.size ((w.alloc o).alloc o') w') (hR : FillR lo hi an k h t la ka va nl cl nk ck nv cv n w) (hh : hi ≤ w.heap.size) : FillR lo hi an k h t la ka va nl cl nk ck nv cv n w' :=
  hR.carry fun q _ h2 => (hb.block q (by have := size_alloc2 w o o'; omega)).trans ((below_alloc2 w o o').block q (by omega))
end
theorem triple_cells {w : World} {b : Nat} {c0 c1 c2 c3 c4 c5 d0 d1 d2 d3 d4 d5 e0 e1 e2 e3 e4 e5 : Value} {t : TypeId} (h : w.heap[b]? = some (.cells #[c0, c1, c2, c3, c4, c5, d0, d1, d2, d3, d4, d5, e0, e1, e2, e3, e4, e5] t)) :
    CellsAt w b 0 [c0, c1, c2, c3, c4, c5] ∧ CellsAt w b 6 [d0, d1, d2, d3, d4, d5] ∧ CellsAt w b 12 [e0, e1, e2, e3, e4, e5] := by
  refine ⟨fun j hj => ?_, fun j hj => ?_, fun j hj => ?_⟩
  all_goals
    simp only [List.length_cons, List.length_nil] at hj
    match j, hj with
    | 0, _ | 1, _ | 2, _ | 3, _ | 4, _ | 5, _ => simp [World.cell?, h]
/-- laws.fits of three values. -/
theorem fits3_any (w : World) (a b d : V) (ca cb cd : List Value) (ha : RepV w w.heap.size a ca) (hb : RepV w w.heap.size b cb) (hd : RepV w w.heap.size d cd) (z : Nat) (h0 : CellsAt w z 0 ca) (h1 : CellsAt w z 6 cb) (h2 : CellsAt w z 12 cd) (hzl : z < w.heap.size) (hTB : TabsB w w.heap.size) (c : Nat) :
    Calls Tryz.prog 5 #[.slice (some ⟨z, 0, none⟩) 3 c] w (BoolP w ([a, b, d].all fitB)) :=
  fits_any w [a, b, d] (some ⟨z, 0, none⟩) c (fun i => if i = 0 then ca else if i = 1 then cb else cd) (by simp) (fun _ => ⟨z, 0, rfl, hzl, fun i hi => by
      simp only [List.length_cons, List.length_nil] at hi
      match i, hi with
      | 0, _ => exact h0
      | 1, _ => exact h1
      | 2, _ => exact h2⟩)
    (fun i hi => by
      match i, hi with
      | 0, _ => exact ha
      | 1, _ => exact hb
      | 2, _ => exact hd) hTB
end Go.Proofs.YtjlkoekfcdpnaaaGreatDoor
