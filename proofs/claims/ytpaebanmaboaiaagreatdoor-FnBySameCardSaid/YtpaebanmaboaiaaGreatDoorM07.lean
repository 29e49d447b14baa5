/- gojq.Compare hands on to its callbacks: the way from what they say to what it says. -/
/- Contracts of impl.listToGo, impl.mapToGo, impl.toGo. -/
/- The order of strings, byte by byte; and that entries put in rising order stand in that order. No program in sight. -/
/- Contract of impl.mapToGo, and of impl.toGo. -/
/- Go maps that hold a tree's entries: what is read out of them. No function is walked here. -/
import Derived.Test.YtpaebanmaboaiaaGreatDoorM06
import Derived.Test.YtpaebanmaboaiaaGreatDoorM01
import Derived.Test.YtpaebanmaboaiaaGreatDoorM03
import Derived.Deep.DeepCutAuto
import Derived.Deep.CutBlock
import Derived.Maps.OwnSet
import Derived.WalkKit
import Derived.WalkLawsBesides
namespace Go.Proofs.YtpaebanmaboaiaaGreatDoor
open Go Go.RowKit Go.Deep
abbrev RI (w : World) (c : Int) (v : Value) (w' : World) : Prop := v = .int .i64 c ∧ Below w.heap.size w w'
theorem IntP.ret {w : World} {c : Int} {e : Ending} {w' : World} (h : IntP w c e w') : Ret (RI w c) e w' := ⟨_, h.1, rfl, h.2⟩
theorem same_ret {w : World} {c : Int} {f : Nat} {args : Array Value} (h : Calls Tryz.prog f args w fun e w' => e = .returned (.int .i64 c) ∧ w' = w) : Calls Tryz.prog f args w (Ret (RI w c)) :=
  h.mono fun _ _ ⟨e1, e2⟩ => ⟨_, e1, rfl, e2 ▸ Below.refl _ _⟩
theorem intp_ret {w : World} {c : Int} {f : Nat} {args : Array Value} (h : Calls Tryz.prog f args w (IntP w c)) : Calls Tryz.prog f args w (Ret (RI w c)) :=
  h.mono fun _ _ h => h.ret
abbrev CmpArgs (x y : Value) : Array Value := #[x, y, .func (.func 70) #[] #[], .func (.func 71) #[] #[], .func (.func 73) #[] #[], .func (.func 74) #[] #[], .func (.func 75) #[] #[], .func (.func 76) #[] #[], .func (.func 78) #[] #[]]
set_option maxRecDepth 100000 in
theorem compare_of (x y : Value) (c : Int) (w : World) (h : Calls Tryz.prog 69 (CmpArgs x y) w (Ret (RI w c))) : Calls Tryz.prog 60 #[x, y] w (IntP w c) := by
  have H := Lib.hid h; clear h
  go_enter Tryz.func60, Tryz.ntmps60
  go_wp2_with fail
  refine H.out.mono ?_
  rintro e w2 ⟨v, rfl, rfl, hb⟩
  go_wp2_with fail
  go_ret
  exact ⟨rfl, hb⟩
/-- What is to be said for Compare x y to be c. -/
def Disp (j k : J) (x y : Value) (c : Int) (w : World) : Prop :=
  match j, k with
  | .int l, .int r => c = signI (l - r)
  | .int l, .flt r => Calls Tryz.prog 71 #[.float .f64 (floatOfInt .f64 l), .float .f64 r] w (IntP w c)
  | .flt l, .int r => Calls Tryz.prog 71 #[.float .f64 l, .float .f64 (floatOfInt .f64 r)] w (IntP w c)
  | .flt l, .flt r => Calls Tryz.prog 71 #[.float .f64 l, .float .f64 r] w (IntP w c)
  | .str s, .str t => c = textsC s t
  | .arr _, .arr _ => ∀ a n k a' n' k', x = .iface 49 (.slice a n k) → y = .iface 49 (.slice a' n' k') → Calls Tryz.prog 75 #[.slice a n k, .slice a' n' k'] w (IntP w c)
  | .obj _, .obj _ => ∀ r r', x = .iface 52 (.map (some r)) → y = .iface 52 (.map (some r')) → Calls Tryz.prog 76 #[.map (some r), .map (some r')] w (IntP w c)
  | .hole, _ => False
  | _, .hole => False
  | j, k => c = signI (kindJ j - kindJ k)
set_option maxHeartbeats 4000000 in
set_option maxRecDepth 100000 in
theorem compare_disp {w0 : World} {S S' : Nat → Prop} {j k : J} {x y : Value} (hx : RepJ w0 S j x) (hy : RepJ w0 S' k y) (c : Int) (w : World) (h : Disp j k x y c w) : Calls Tryz.prog 60 #[x, y] w (IntP w c) := by
  refine compare_of x y c w ?_
  have e1 : EntersF 70 := enters_of Tryz.func70 (by kernel_rfl) rfl
  have e2 : EntersF 71 := enters_of Tryz.func71 (by kernel_rfl) rfl
  have e4 : EntersF 74 := enters_of Tryz.func74 (by kernel_rfl) rfl
  have e5 : EntersF 75 := enters_of Tryz.func75 (by kernel_rfl) rfl
  have e6 : EntersF 76 := enters_of Tryz.func76 (by kernel_rfl) rfl
  have e7 : EntersF 78 := enters_of Tryz.func78 (by kernel_rfl) rfl
  have hk := fun hj hj' => cmpk_any hx hj hy hj' w
  cases hx with
  | null => cases hy with
    | null => exact bini_n_nil _ _ _ _ _ _ _ w _ e7 (by obtain rfl := h; exact same_ret (hk (by simp) (by simp)))
    | bool => exact bini_n_else _ _ _ _ _ _ _ _ _ (by decide) w _ e7 (by obtain rfl := h; exact same_ret (hk (by simp) (by simp)))
    | int => exact bini_n_else _ _ _ _ _ _ _ _ _ (by decide) w _ e7 (by obtain rfl := h; exact same_ret (hk (by simp) (by simp)))
    | flt => exact bini_n_else _ _ _ _ _ _ _ _ _ (by decide) w _ e7 (by obtain rfl := h; exact same_ret (hk (by simp) (by simp)))
    | str => exact bini_n_else _ _ _ _ _ _ _ _ _ (by decide) w _ e7 (by obtain rfl := h; exact same_ret (hk (by simp) (by simp)))
    | arr => exact bini_n_else _ _ _ _ _ _ _ _ _ (by decide) w _ e7 (by obtain rfl := h; exact same_ret (hk (by simp) (by simp)))
    | obj => exact bini_n_else _ _ _ _ _ _ _ _ _ (by decide) w _ e7 (by obtain rfl := h; exact same_ret (hk (by simp) (by simp)))
    | hole => exact absurd h (by simp [Disp])
  | bool => cases hy with
    | null => exact bini_b_nil _ _ _ _ _ _ _ _ w _ e7 (by obtain rfl := h; exact same_ret (hk (by simp) (by simp)))
    | bool => exact bini_b_else _ _ _ _ _ _ _ _ _ _ (by decide) w _ e7 (by obtain rfl := h; exact same_ret (hk (by simp) (by simp)))
    | int => exact bini_b_else _ _ _ _ _ _ _ _ _ _ (by decide) w _ e7 (by obtain rfl := h; exact same_ret (hk (by simp) (by simp)))
    | flt => exact bini_b_else _ _ _ _ _ _ _ _ _ _ (by decide) w _ e7 (by obtain rfl := h; exact same_ret (hk (by simp) (by simp)))
    | str => exact bini_b_else _ _ _ _ _ _ _ _ _ _ (by decide) w _ e7 (by obtain rfl := h; exact same_ret (hk (by simp) (by simp)))
    | arr => exact bini_b_else _ _ _ _ _ _ _ _ _ _ (by decide) w _ e7 (by obtain rfl := h; exact same_ret (hk (by simp) (by simp)))
    | obj => exact bini_b_else _ _ _ _ _ _ _ _ _ _ (by decide) w _ e7 (by obtain rfl := h; exact same_ret (hk (by simp) (by simp)))
    | hole => exact absurd h (by simp [Disp])
  | int => cases hy with
    | null => exact bini_i_nil _ _ _ _ _ _ _ _ w _ e7 (by obtain rfl := h; exact same_ret (hk (by simp) (by simp)))
    | bool => exact bini_i_else _ _ _ _ _ _ _ _ _ _ (by decide) (by decide) (by decide) (by decide) w _ e7 (by obtain rfl := h; exact same_ret (hk (by simp) (by simp)))
    | int => exact bini_ii _ _ _ _ _ _ _ _ _ w _ e1 (by obtain rfl := h; exact same_ret (cmpi_any _ _ w))
    | flt => exact bini_if _ _ _ _ _ _ _ _ _ w _ e2 (intp_ret h)
    | str => exact bini_i_else _ _ _ _ _ _ _ _ _ _ (by decide) (by decide) (by decide) (by decide) w _ e7 (by obtain rfl := h; exact same_ret (hk (by simp) (by simp)))
    | arr => exact bini_i_else _ _ _ _ _ _ _ _ _ _ (by decide) (by decide) (by decide) (by decide) w _ e7 (by obtain rfl := h; exact same_ret (hk (by simp) (by simp)))
    | obj => exact bini_i_else _ _ _ _ _ _ _ _ _ _ (by decide) (by decide) (by decide) (by decide) w _ e7 (by obtain rfl := h; exact same_ret (hk (by simp) (by simp)))
    | hole => exact absurd h (by simp [Disp])
  | flt => cases hy with
    | null => exact bini_f_nil _ _ _ _ _ _ _ _ w _ e7 (by obtain rfl := h; exact same_ret (hk (by simp) (by simp)))
    | bool => exact bini_f_else _ _ _ _ _ _ _ _ _ _ (by decide) (by decide) (by decide) (by decide) w _ e7 (by obtain rfl := h; exact same_ret (hk (by simp) (by simp)))
    | int => exact bini_fi _ _ _ _ _ _ _ _ _ w _ e2 (intp_ret h)
    | flt => exact bini_ff _ _ _ _ _ _ _ _ _ w _ e2 (intp_ret h)
    | str => exact bini_f_else _ _ _ _ _ _ _ _ _ _ (by decide) (by decide) (by decide) (by decide) w _ e7 (by obtain rfl := h; exact same_ret (hk (by simp) (by simp)))
    | arr => exact bini_f_else _ _ _ _ _ _ _ _ _ _ (by decide) (by decide) (by decide) (by decide) w _ e7 (by obtain rfl := h; exact same_ret (hk (by simp) (by simp)))
    | obj => exact bini_f_else _ _ _ _ _ _ _ _ _ _ (by decide) (by decide) (by decide) (by decide) w _ e7 (by obtain rfl := h; exact same_ret (hk (by simp) (by simp)))
    | hole => exact absurd h (by simp [Disp])
  | str => cases hy with
    | null => exact bini_s_nil _ _ _ _ _ _ _ _ w _ e7 (by obtain rfl := h; exact same_ret (hk (by simp) (by simp)))
    | bool => exact bini_s_else _ _ _ _ _ _ _ _ _ _ (by decide) (by decide) w _ e7 (by obtain rfl := h; exact same_ret (hk (by simp) (by simp)))
    | int => exact bini_s_else _ _ _ _ _ _ _ _ _ _ (by decide) (by decide) w _ e7 (by obtain rfl := h; exact same_ret (hk (by simp) (by simp)))
    | flt => exact bini_s_else _ _ _ _ _ _ _ _ _ _ (by decide) (by decide) w _ e7 (by obtain rfl := h; exact same_ret (hk (by simp) (by simp)))
    | str => exact bini_ss _ _ _ _ _ _ _ _ _ w _ e4 (by obtain rfl := h; exact same_ret (cmps_any _ _ w))
    | arr => exact bini_s_else _ _ _ _ _ _ _ _ _ _ (by decide) (by decide) w _ e7 (by obtain rfl := h; exact same_ret (hk (by simp) (by simp)))
    | obj => exact bini_s_else _ _ _ _ _ _ _ _ _ _ (by decide) (by decide) w _ e7 (by obtain rfl := h; exact same_ret (hk (by simp) (by simp)))
    | hole => exact absurd h (by simp [Disp])
  | arr => cases hy with
    | null => exact bini_a_nil _ _ _ _ _ _ _ _ _ _ w _ e7 (by obtain rfl := h; exact same_ret (hk (by simp) (by simp)))
    | bool => exact bini_a_else _ _ _ _ _ _ _ _ _ _ _ _ (by decide) (by decide) w _ e7 (by obtain rfl := h; exact same_ret (hk (by simp) (by simp)))
    | int => exact bini_a_else _ _ _ _ _ _ _ _ _ _ _ _ (by decide) (by decide) w _ e7 (by obtain rfl := h; exact same_ret (hk (by simp) (by simp)))
    | flt => exact bini_a_else _ _ _ _ _ _ _ _ _ _ _ _ (by decide) (by decide) w _ e7 (by obtain rfl := h; exact same_ret (hk (by simp) (by simp)))
    | str => exact bini_a_else _ _ _ _ _ _ _ _ _ _ _ _ (by decide) (by decide) w _ e7 (by obtain rfl := h; exact same_ret (hk (by simp) (by simp)))
    | arr => exact bini_aa _ _ _ _ _ _ _ _ _ _ _ _ _ w _ e5 (intp_ret (h _ _ _ _ _ _ rfl rfl))
    | obj => exact bini_a_else _ _ _ _ _ _ _ _ _ _ _ _ (by decide) (by decide) w _ e7 (by obtain rfl := h; exact same_ret (hk (by simp) (by simp)))
    | hole => exact absurd h (by simp [Disp])
  | obj => cases hy with
    | null => exact bini_m_nil _ _ _ _ _ _ _ _ w _ e7 (by obtain rfl := h; exact same_ret (hk (by simp) (by simp)))
    | bool => exact bini_m_else _ _ _ _ _ _ _ _ _ _ (by decide) (by decide) w _ e7 (by obtain rfl := h; exact same_ret (hk (by simp) (by simp)))
    | int => exact bini_m_else _ _ _ _ _ _ _ _ _ _ (by decide) (by decide) w _ e7 (by obtain rfl := h; exact same_ret (hk (by simp) (by simp)))
    | flt => exact bini_m_else _ _ _ _ _ _ _ _ _ _ (by decide) (by decide) w _ e7 (by obtain rfl := h; exact same_ret (hk (by simp) (by simp)))
    | str => exact bini_m_else _ _ _ _ _ _ _ _ _ _ (by decide) (by decide) w _ e7 (by obtain rfl := h; exact same_ret (hk (by simp) (by simp)))
    | arr => exact bini_m_else _ _ _ _ _ _ _ _ _ _ (by decide) (by decide) w _ e7 (by obtain rfl := h; exact same_ret (hk (by simp) (by simp)))
    | obj => exact bini_mm _ _ _ _ _ _ _ _ _ w _ e6 (intp_ret (h _ _ rfl rfl))
    | hole => exact absurd h (by simp [Disp])
  | hole => exact absurd h (by simp [Disp])
end Go.Proofs.YtpaebanmaboaiaaGreatDoor

namespace Go.Proofs.YtpaebanmaboaiaaGreatDoor
open Go Go.RowKit Go.Maps Go.Deep
def Fresh (lo hi k : Nat) : Prop := lo ≤ k ∧ k < hi
def ToGoPost (w : World) (j : J) (e : Ending) (w' : World) : Prop :=
  ∃ x, e = .returned (.tuple #[x, .bool true]) ∧ RepJ w' (Fresh w.heap.size w'.heap.size) j x ∧ Below w.heap.size w w'
def ToGoOK (w0 : World) (B : Nat) (v : V) (cs : List Value) : Prop :=
  ∀ w, Below B w0 w → B ≤ w.heap.size → Calls Tryz.prog 17 #[.agg cs.toArray] w (ToGoPost w (toJ v))
/-- The first n elements of the new row are there. -/
def LInv (H : Nat) (l : List V) (n : Nat) (wr : World) : Prop :=
  ∃ (f : Nat → Value) (F : Nat → Nat → Prop), wr.rowIs H 20 l.length f ∧ (∀ i k, i < n → F i k → H < k ∧ k < wr.heap.size) ∧
    (∀ i j k, i < j → j < n → F i k → F j k → False) ∧ ∀ i (hi : i < l.length), i < n → RepJ wr (F i) (toJ l[i]) (f i)
theorem LInv.step {H : Nat} {l : List V} {n : Nat} {wr w1 w2 : World} {x : Value} (h : LInv H l n wr) (hH : H < wr.heap.size) (hn : n < l.length) (hb : Below wr.heap.size wr w1) (hb2 : Below w1.heap.size w1 w2)
    (hx : RepJ w2 (Fresh w1.heap.size w2.heap.size) (toJ l[n]) x) : LInv H l (n + 1) (w2.setCell ⟨H, n, none⟩ x) := by
  obtain ⟨f, F, hrow, hF, hd, hr⟩ := h
  have hb3 := hb.trans (hb2.mono hb.size)
  have s1 := hb.size
  have s2 := hb2.size
  have hrow2 : w2.rowIs H 20 l.length f := rowIs_carry hrow (hb3.block H hH)
  have hsz : (w2.setCell ⟨H, n, none⟩ x).heap.size = w2.heap.size := by simp [World.setCell]
  refine ⟨fun i => if i = n then x else f i, fun i => if i = n then Fresh w1.heap.size w2.heap.size else F i, hrow2.set n x, ?_, ?_, ?_⟩
  · intro i k hi hk
    rw [hsz]
    by_cases e : i = n
    · simp only [e, if_true] at hk
      exact ⟨by have := hk.1; omega, hk.2⟩
    · simp only [e, if_false] at hk
      have := hF i k (by omega) hk
      omega
  · intro i j k hij hj hik hjk
    by_cases e : j = n
    · simp only [e, if_true] at hjk
      have e2 : i ≠ n := by omega
      simp only [e2, if_false] at hik
      have := hF i k (by omega) hik
      have := hjk.1
      omega
    · have e2 : i ≠ n := by omega
      simp only [e, if_false] at hjk
      simp only [e2, if_false] at hik
      exact hd i j k hij (by omega) hik hjk
  · intro i hi hin
    by_cases e : i = n
    · subst e
      simp only [if_true]
      exact hx.carry fun k hk => Below.heap_setCell _ _ _ _ (by have := hk.1; simp; omega)
    · simp only [e, if_false]
      refine (hr i hi (by omega)).carry fun k hk => ?_
      have := hF i k (by omega) hk
      exact (Below.heap_setCell _ _ _ _ (by simp; omega)).trans (hb3.block k this.2)
theorem toJL_len (l : List V) : (toJL l).length = l.length := by rw [toJL_eq, List.length_map]
theorem toJL_get (l : List V) (i : Nat) (hi : i < l.length) : (toJL l)[i]'(by rw [toJL_len]; exact hi) = toJ l[i] := by simp [toJL_eq]
theorem LInv.done {H : Nat} {l : List V} {wr : World} (hl : l.length * 104 ≤ 140737488351232) (hH : H < wr.heap.size) (h : LInv H l l.length wr) :
    RepJ wr (Fresh H wr.heap.size) (.arr (toJL l)) (.iface 49 (.slice (some ⟨H, 0, none⟩) l.length l.length)) := by
  obtain ⟨f, F, hrow, hF, hd, hr⟩ := h
  have e := toJL_len l
  have R := RepJ.arr (w := wr) (S := Fresh H wr.heap.size) (l := toJL l) (a := some ⟨H, 0, none⟩) (c := l.length) f H 0 l.length F (by omega) (by omega)
    (fun _ => ⟨rfl, ⟨Nat.le_refl _, hH⟩, hrow, by omega⟩) (fun i hi hk => by have := hF i H (by omega) hk; omega)
    (fun i k hi hk => by have := hF i k (by omega) hk; exact ⟨by omega, this.2⟩) (fun i j k hij hj => hd i j k hij (by omega))
    (fun i hi => by rw [toJL_get l i (by omega), Nat.zero_add]; exact hr i (by omega) (by omega)) (by unfold capMax; omega) (by simp)
  rw [e] at R
  exact R
def LLoop (w : World) (H : Nat) (l : List V) (i : Value) (wr : World) : Prop :=
  ∃ n : Nat, n ≤ l.length ∧ i = .int .i64 (n : Nat) ∧ Below H w wr ∧ H < wr.heap.size ∧ LInv H l n wr
theorem info_any : (Tryz.prog.info? 20).map (fun i => (i.zero, i.size, i.bytes)) = some (some .nilIface, 1, 16) := by kernel_rfl
def ListPost (w : World) (l : List V) (e : Ending) (w' : World) : Prop :=
  ∃ a c, e = .returned (.tuple #[.slice a l.length c, .bool true]) ∧ RepJ w' (Fresh w.heap.size w'.heap.size) (.arr (toJL l)) (.iface 49 (.slice a l.length c)) ∧ Below w.heap.size w w'
set_option maxHeartbeats 4000000 in
set_option maxRecDepth 100000 in
theorem list_of (w0 : World) (B : Nat) (l : List V) (la : Option Addr) (lc : Nat) (C : Nat → List Value) (hl : l.length * 104 ≤ 140737488351232)
    (cl : 0 < l.length → ∃ b o, la = some ⟨b, o, none⟩ ∧ b < B ∧ ∀ i, i < l.length → CellsAt w0 b (o + i * 6) (C i)) (rl : ∀ i (hi : i < l.length), RepV w0 B l[i] (C i))
    (ih : ∀ i (hi : i < l.length), ToGoOK w0 B l[i] (C i)) (w : World) (hbel : Below B w0 w) (hB : B ≤ w.heap.size) :
    Calls Tryz.prog 31 #[.slice la l.length lc] w (ListPost w l) := by
  have hmk := run_make_row' (P := Tryz.prog) 49 20 .nilIface 16 Tryz.underlying49 info_any rfl .i64 .i64 l.length (by omega) (by omega)
  have Hcl := Lib.hid cl; clear cl
  have Hih := Lib.hid ih; clear ih
  have Hbel := Lib.hid hbel; clear hbel
  have hst : LInv w.heap.size l 0 (w.alloc (.cells (madeCells #[.nilIface] l.length) 20)) :=
    ⟨_, fun _ _ => False, World.rowIs_made w .nilIface l.length 20, fun _ _ h => by omega, fun _ _ _ _ h => by omega, fun _ _ h => by omega⟩
  have Hst := Lib.hid hst; clear hst
  go_enter Tryz.func31, Tryz.ntmps31
  go_wp2_with fail
  go_loopw [14] (fun i wr => LLoop w w.heap.size l i wr) (fun i _ => l.length - (intOf i).toNat)
  case atStart => exact ⟨0, Nat.zero_le _, rfl, below_alloc1 _ _, by simp, Hst.out⟩
  case round =>
    obtain ⟨n, hn, rfl, hb, hH, hinv⟩ := hrel
    have Hinv := Lib.hid hinv; clear hinv
    by_cases hn' : n < l.length
    · obtain ⟨lb, lo, rfl, hlb, hcel⟩ := Hcl.out (by omega)
      have hb0 : Below B w0 wr := Hbel.out.trans (hb.mono hB)
      have cc := (hcel n hn').below hb0 hlb
      have hbx : Below wr.heap.size wr (wr.alloc (.cells (C n).toArray 26)) := below_alloc1 _ _
      have ih := Hih.out n hn' _ (hb0.trans (hbx.mono (by have := hb.size; omega))) (by have := hb.size; have := hbx.size; omega)
      obtain ⟨k', h', t', la', ka', va', nl', cl', nk', ck', nv', cv', hCn⟩ := (rl n hn').shape
      rw [hCn] at cc ih hbx
      obtain ⟨y0, y1, y2, y3, y4, y5⟩ := cells6 cc
      have HI := Lib.hid ih
      clear ih hCn cc hcel hb0
      go_wp2_with fail
      refine HI.out.mono ?_
      rintro e w2 ⟨x, rfl, hx, hb2⟩
      have s1 := hbx.size
      have s2 := hb2.size
      have hb3 := hb.trans ((hbx.mono hb.size).trans (hb2.mono (by have := hb.size; omega)))
      have hnext := Lib.hid (Hinv.out.step hH hn' hbx hb2 hx)
      obtain ⟨hcw, hfw⟩ : (∃ u, w2.cell? ⟨w.heap.size, n, none⟩ = some u) ∧ w2.frozen? ⟨w.heap.size, n, none⟩ = false := by
        obtain ⟨f, F, hrow, _⟩ := Hinv.out
        have h2 := rowIs_carry hrow ((hb2.block w.heap.size (by omega)).trans (hbx.block w.heap.size hH))
        exact ⟨⟨_, h2.cell hn'⟩, h2.frozen _⟩
      obtain ⟨u, hcw⟩ := hcw
      have hbs := Lib.hid (hb3.setCell (p := ⟨w.heap.size, n, none⟩) (Nat.le_refl _) x)
      have hsz : (w2.setCell ⟨w.heap.size, n, none⟩ x).heap.size = w2.heap.size := by simp [World.setCell]
      have Hsz := Lib.hid hsz; clear hsz
      rcases hx.form with rfl | ⟨ty, y, rfl⟩
      all_goals
        clear hx
        go_wp2_with fail
        go_roundw
        case rel => exact ⟨n + 1, by omega, by go_num, hbs.out, by rw [Hsz.out]; omega, hnext.out⟩
        case measure => simp [intOf]; omega
    · go_wp2_with fail
      have e : n = l.length := by omega
      refine bodyPost_ret (results_tmp2 rfl _ _ _) rfl ⟨_, _, rfl, LInv.done hl hH (e ▸ Hinv.out), hb⟩
end Go.Proofs.YtpaebanmaboaiaaGreatDoor

namespace Go.Proofs.YtpaebanmaboaiaaGreatDoor
open Go Go.RowKit Go.Maps
theorem u8_lt (a b : UInt8) : a < b ↔ a.toNat < b.toNat := UInt8.lt_iff_toNat_lt
theorem bl_cons (a b : UInt8) (x y : List UInt8) : Op.bytesLess (a :: x) (b :: y) = true ↔ a.toNat < b.toNat ∨ (a = b ∧ Op.bytesLess x y = true) := by
  simp [Op.bytesLess, u8_lt]
theorem bl_irrefl : ∀ a : List UInt8, Op.bytesLess a a = false
  | [] => rfl
  | a :: x => by
    rw [← Bool.not_eq_true, bl_cons]
    simp [bl_irrefl x]
theorem bl_asymm : ∀ a b : List UInt8, Op.bytesLess a b = true → Op.bytesLess b a = false
  | [], [], h => by simp [Op.bytesLess] at h
  | [], _ :: _, _ => rfl
  | _ :: _, [], h => by simp [Op.bytesLess] at h
  | a :: x, b :: y, h => by
    rw [bl_cons] at h
    rw [← Bool.not_eq_true, bl_cons]
    rintro (h' | ⟨rfl, h'⟩)
    · rcases h with h | ⟨rfl, _⟩ <;> omega
    · rcases h with h | ⟨_, h⟩
      · omega
      · rw [bl_asymm x y h] at h'; cases h'
theorem bl_trans : ∀ a b c : List UInt8, Op.bytesLess a b = true → Op.bytesLess b c = true → Op.bytesLess a c = true
  | _, _, [], _, h => by simp [Op.bytesLess] at h
  | _, [], _ :: _, h, _ => by simp [Op.bytesLess] at h
  | [], _ :: _, _ :: _, _, _ => rfl
  | a :: x, b :: y, c :: z, h, h' => by
    rw [bl_cons] at *
    rcases h with h | ⟨rfl, h⟩
    · rcases h' with h' | ⟨rfl, h'⟩ <;> (left; omega)
    · rcases h' with h' | ⟨rfl, h'⟩
      · left; exact h'
      · right; exact ⟨rfl, bl_trans x y z h h'⟩
theorem before_eq : ∀ a b : List UInt8, bytesBefore a b = Op.bytesLess a b
  | [], [] => rfl
  | [], _ :: _ => rfl
  | _ :: _, [] => rfl
  | a :: x, b :: y => by simp [bytesBefore, Op.bytesLess, before_eq x y]
theorem insert_last {H : Type} (k : List UInt8) (d : DataW H) : ∀ es : List (Lit × DataW H), (∀ p ∈ es, ∃ s, p.1 = .string s ∧ Op.bytesLess s k = true) → DataW.insert (.string k, d) es = es ++ [(.string k, d)]
  | [], _ => rfl
  | p :: r, h => by
    obtain ⟨s, hs, hlt⟩ := h p (by simp)
    unfold DataW.insert
    rw [hs]
    have : (Lit.string k).before (.string s) = false := by
      show bytesBefore k s = false
      rw [before_eq]; exact bl_asymm _ _ hlt
    simp [this, insert_last k d r (fun q hq => h q (by simp [hq]))]
theorem put_last {H : Type} (k : List UInt8) (d : DataW H) (es : List (Lit × DataW H)) (h : ∀ p ∈ es, ∃ s, p.1 = .string s ∧ Op.bytesLess s k = true) : (DataW.map es).put (.string k) d = .map (es ++ [(.string k, d)]) := by
  unfold DataW.put
  have hf : es.filter (fun p => !p.1.sameKey (.string k)) = es := by
    rw [List.filter_eq_self]
    intro p hp
    obtain ⟨s, hs, hlt⟩ := h p hp
    rw [hs]
    show (!(s == k)) = true
    have : s ≠ k := fun e => by rw [e, bl_irrefl] at hlt; cases hlt
    simpa using this
  show DataW.map (DataW.insert (Lit.string k, d) (es.filter (fun p => !p.1.sameKey (.string k)))) = _
  rw [hf, insert_last k d es h]
/-- From neighbours to all. -/
theorem rise_all (ks : List ByteArray) (rise : ∀ i (hi : i + 1 < ks.length), Op.bytesLess ks[i].toList ks[i + 1].toList = true) : ∀ (j : Nat) (hj : j < ks.length) (i : Nat) (hi : i < j), Op.bytesLess (ks[i]'(by omega)).toList ks[j].toList = true := by
  intro j
  induction j with
  | zero => intro _ i hi; omega
  | succ j ih =>
    intro hj i hi
    by_cases e : i = j
    · subst e; exact rise i hj
    · exact bl_trans _ _ _ (ih (by omega) i (by omega)) (rise j hj)
theorem run_makeMap_hint {P : Program} {t k e : TypeId} (ht : P.underlying t = some (.map k e)) (q : IntKind) (n : Int) (w : World) : (Instr.makeMap t (some (.int q n))).run P w = .ok (.map (some w.heap.size)) (w.alloc (.map #[] 0)) := by
  simp [Instr.makeMap, run_underlying ht, asInt, asIntOf, Result.andThen]
end Go.Proofs.YtpaebanmaboaiaaGreatDoor

namespace Go.Proofs.YtpaebanmaboaiaaGreatDoor
open Go Go.RowKit Go.Maps Go.Deep Go.WideMaps
theorem law_str : Keyed Tryz.prog 9 := string_keyed Tryz.underlying9
theorem entries_take (m : List (ByteArray × J)) (n : Nat) (hn : n < m.length) (E : Nat → Value) (x : Value) :
    entries (m.take (n + 1)) (fun i => if i = n then x else E i) = entries (m.take n) E ++ [(Lit.string m[n].1.data.toList, DataW.held x)] := by
  unfold entries
  rw [List.take_succ_eq_append_getElem hn, List.mapIdx_append]
  have hl : (m.take n).length = n := by rw [List.length_take]; omega
  congr 1
  · apply List.ext_getElem?
    intro i
    simp only [List.getElem?_mapIdx]
    by_cases hi : i < n
    · have : i ≠ n := by omega
      simp [this]
    · rw [List.getElem?_eq_none (by omega)]; rfl
  · simp [hl]
/-- The first n entries of the new map are there. -/
def MInv (H : Nat) (m : List (ByteArray × J)) (n : Nat) (wr : World) : Prop :=
  ∃ (E : Nat → Value) (F : Nat → Nat → Prop), wr.ownsMap Tryz.prog 9 heldR H n (.map (entries (m.take n) E)) ∧ (∀ i k, i < n → F i k → H < k ∧ k < wr.heap.size) ∧
    (∀ i j k, i < j → j < n → F i k → F j k → False) ∧ ∀ i (hi : i < m.length), i < n → RepJ wr (F i) m[i].2 (E i)
theorem MInv.step {H : Nat} {m : List (ByteArray × J)} {n : Nat} {wr w2 w3 : World} {x : Value} {E : Nat → Value} {F : Nat → Nat → Prop} (hH : H < wr.heap.size) (hn : n < m.length)
    (hrise : ∀ i (hi : i < n), Op.bytesLess (m[i]'(by omega)).1.data.toList m[n].1.data.toList = true)
    (hF : ∀ i k, i < n → F i k → H < k ∧ k < wr.heap.size) (hd : ∀ i j k, i < j → j < n → F i k → F j k → False) (hr : ∀ i (hi : i < m.length), i < n → RepJ wr (F i) m[i].2 (E i))
    (hb2 : Below wr.heap.size wr w2) (hx : RepJ w2 (Fresh wr.heap.size w2.heap.size) m[n].2 x)
    (hown : w3.ownsMap Tryz.prog 9 heldR H (n + 1) ((DataW.map (entries (m.take n) E)).put (.string m[n].1.data.toList) (.held x))) (hg : w2.grownBy w3 (some H)) : MInv H m (n + 1) w3 := by
  have s2 := hb2.size
  have s3 := hg.size
  refine ⟨fun i => if i = n then x else E i, fun i => if i = n then Fresh wr.heap.size w2.heap.size else F i, ?_, ?_, ?_, ?_⟩
  · rw [entries_take m n hn E x, ← put_last _ _ _ ?_]
    · exact hown
    · intro p hp
      unfold entries at hp
      rw [List.mem_mapIdx] at hp
      obtain ⟨i, hi, rfl⟩ := hp
      have hi' : i < n := by rw [List.length_take] at hi; omega
      refine ⟨_, rfl, ?_⟩
      simp only [List.getElem_take]
      exact hrise i hi'
  · intro i k hi hk
    by_cases e : i = n
    · simp only [e, if_true] at hk
      exact ⟨by have := hk.1; omega, by have := hk.2; omega⟩
    · simp only [e, if_false] at hk
      have := hF i k (by omega) hk
      omega
  · intro i j k hij hj hik hjk
    by_cases e : j = n
    · simp only [e, if_true] at hjk
      have e2 : i ≠ n := by omega
      simp only [e2, if_false] at hik
      have := hF i k (by omega) hik
      have := hjk.1
      omega
    · have e2 : i ≠ n := by omega
      simp only [e, if_false] at hjk
      simp only [e2, if_false] at hik
      exact hd i j k hij (by omega) hik hjk
  · intro i hi hin
    by_cases e : i = n
    · subst e
      simp only [if_true]
      exact hx.carry fun k hk => hg.block k hk.2 (by have := hk.1; simp; omega)
    · simp only [e, if_false]
      refine (hr i hi (by omega)).carry fun k hk => ?_
      have := hF i k (by omega) hk
      exact (hg.block k (by omega) (by simp; omega)).trans (hb2.block k this.2)
def MLoop (W : World) (H : Nat) (m : List (ByteArray × J)) (i : Value) (wr : World) : Prop :=
  ∃ n : Nat, n ≤ m.length ∧ i = .int .i64 (n : Nat) ∧ Below W.heap.size W wr ∧ H < wr.heap.size ∧ MInv H m n wr
def MapPost (w : World) (m : List (ByteArray × J)) (e : Ending) (w' : World) : Prop :=
  ∃ r, e = .returned (.tuple #[.map (some r), .bool true]) ∧ RepJ w' (Fresh w.heap.size w'.heap.size) (.obj m) (.iface 52 (.map (some r))) ∧ Below w.heap.size w w'
theorem MInv.done {H H0 : Nat} {m : List (ByteArray × J)} {wr : World} (hm : m.length ≤ 140737488351232) (hs : ∀ p ∈ m, p.1.size ≤ 140737488351232) (hH0 : H0 ≤ H) (hH : H < wr.heap.size) (h : MInv H m m.length wr) :
    RepJ wr (Fresh H0 wr.heap.size) (.obj m) (.iface 52 (.map (some H))) := by
  obtain ⟨E, F, hown, hF, hd, hr⟩ := h
  rw [List.take_length] at hown
  exact .obj E F ⟨hH0, hH⟩ ⟨_, hm, hown⟩ hs (fun i hi hk => by have := hF i H (by omega) hk; omega)
    (fun i k hi hk => by have := hF i k (by omega) hk; exact ⟨by omega, this.2⟩) (fun i j k hij hj => hd i j k hij (by omega)) (fun i hi => hr i hi hi)
theorem toJM_len (ks : List ByteArray) (vs : List V) (h : ks.length = vs.length) : (toJM ks vs).length = ks.length := by rw [toJM_eq]; simp; omega
theorem toJM_get (ks : List ByteArray) (vs : List V) (h : ks.length = vs.length) (i : Nat) (hi : i < ks.length) : (toJM ks vs)[i]'(by rw [toJM_len _ _ h]; exact hi) = (ks[i], toJ (vs[i]'(by omega))) := by simp [toJM_eq]
set_option maxHeartbeats 4000000 in
set_option maxRecDepth 100000 in
theorem map_of (w0 : World) (B : Nat) (k hf : Int) (t : ByteArray) (l : List V) (ks : List ByteArray) (vs : List V) (la ka va : Option Addr) (lc kc vc : Nat) (D : Nat → List Value)
    (hks : ks.length * 16 ≤ 140737488351232) (hs : ∀ s ∈ ks, s.size ≤ 140737488351232)
    (rise : ∀ i (hi : i + 1 < ks.length), Op.bytesLess ks[i].toList ks[i + 1].toList = true) (hlen : ks.length = vs.length)
    (ck : 0 < ks.length → ∃ b o, ka = some ⟨b, o, none⟩ ∧ b < B ∧ ∀ i (hi : i < ks.length), w0.cell? ⟨b, o + i, none⟩ = some (.string ks[i]))
    (cv : 0 < vs.length → ∃ b o, va = some ⟨b, o, none⟩ ∧ b < B ∧ ∀ i, i < vs.length → CellsAt w0 b (o + i * 6) (D i)) (rv : ∀ i (hi : i < vs.length), RepV w0 B vs[i] (D i))
    (ih : ∀ i (hi : i < vs.length), ToGoOK w0 B vs[i] (D i)) (w : World) (hbel : Below B w0 w) (hB : B ≤ w.heap.size) :
    Calls Tryz.prog 32 #[.agg #[.int .i64 k, .int .i64 hf, .string t, .slice la l.length lc, .slice ka ks.length kc, .slice va vs.length vc]] w (MapPost w (toJM ks vs)) := by
  have hmk := run_makeMap_hint (P := Tryz.prog) Tryz.underlying52 .i64 ks.length
  have Hck := Lib.hid ck; clear ck
  have Hcv := Lib.hid cv; clear cv
  have Hih := Lib.hid ih; clear ih
  obtain ⟨W, hW⟩ : ∃ W, W = w.alloc (.cells #[.int .i64 k, .int .i64 hf, .string t, .slice la l.length lc, .slice ka ks.length kc, .slice va vs.length vc] 26) := ⟨_, rfl⟩
  have hWs : W.heap.size = w.heap.size + 1 := by rw [hW]; simp
  have hbW : Below w.heap.size w W := by rw [hW]; exact below_alloc1 _ _
  have hat : W.heap[w.heap.size]? = some (.cells #[.int .i64 k, .int .i64 hf, .string t, .slice la l.length lc, .slice ka ks.length kc, .slice va vs.length vc] 26) := by rw [hW]; exact at_alloc _ _
  have boxes : ∀ wx, Below W.heap.size W wx → wx.cell? ⟨w.heap.size, 0, none⟩ = some (.int .i64 k) ∧ wx.cell? ⟨w.heap.size, 1, none⟩ = some (.int .i64 hf) ∧ wx.cell? ⟨w.heap.size, 2, none⟩ = some (.string t) ∧ wx.cell? ⟨w.heap.size, 3, none⟩ = some (.slice la l.length lc) ∧ wx.cell? ⟨w.heap.size, 4, none⟩ = some (.slice ka ks.length kc) ∧ wx.cell? ⟨w.heap.size, 5, none⟩ = some (.slice va vs.length vc) :=
    fun wx hx => of_block6 ((hx.block w.heap.size (by omega)).trans hat)
  have Hbox := Lib.hid boxes; clear boxes
  have key : ∀ wx, Below W.heap.size W wx → Below B w0 wx ∧ Below w.heap.size w wx := fun wx hx => ⟨(hbel.trans (hbW.mono hB)).trans (hx.mono (by omega)), hbW.trans (hx.mono (by omega))⟩
  have Hkey := Lib.hid key; clear key
  have HWs := Lib.hid hWs; clear hWs
  have Hlen := Lib.hid hlen
  have t0 : ((ks.length : Int) != (vs.length : Int)) = false := by rw [hlen]; simp
  clear hat hbW hbel hlen
  go_enter Tryz.func32, Tryz.ntmps32
  go_wp2_with fail
  rw [← hW, ← HWs.out]
  have HW := Lib.hid hW; clear hW
  clear t0
  obtain ⟨m, hm⟩ : ∃ m, toJM ks vs = m := ⟨_, rfl⟩
  have hml : m.length = ks.length := by rw [← hm]; exact toJM_len _ _ Hlen.out
  have Hml := Lib.hid hml; clear hml
  have hmg : ∀ i (hi : i < ks.length), m[i]'(by rw [Hml.out]; exact hi) = (ks[i], toJ (vs[i]'(by rw [← Hlen.out]; exact hi))) := by subst hm; exact toJM_get ks vs Hlen.out
  have Hmg := Lib.hid hmg; clear hmg
  have Hm := Lib.hid hm; clear hm
  have hst : MInv W.heap.size m 0 (W.alloc (.map #[] 0)) := ⟨fun _ => .nilIface, fun _ _ => False, World.ownsMap_made W _ _ _, fun _ _ h => by omega, fun _ _ _ _ h => by omega, fun _ _ h => by omega⟩
  have Hst := Lib.hid hst; clear hst
  go_loopw [23] (fun i wr => MLoop W W.heap.size m i wr) (fun i _ => ks.length - (intOf i).toNat)
  case atStart => exact ⟨0, Nat.zero_le _, rfl, below_alloc1 _ _, by simp, Hst.out⟩
  case round =>
    obtain ⟨n, hn, rfl, hb, hH, hinv⟩ := hrel
    have Hinv := Lib.hid hinv; clear hinv
    rw [Hml.out] at hn
    obtain ⟨x0, x1, x2, x3, x4, x5⟩ := Hbox.out _ hb
    by_cases hn' : n < ks.length
    · obtain ⟨kb, ko, rfl, hkb, hkc⟩ := Hck.out (by omega)
      have hnv : n < vs.length := by rw [← Hlen.out]; exact hn'
      obtain ⟨lb, lo, rfl, hlb, hcel⟩ := Hcv.out (by omega)
      obtain ⟨hb0, hb1⟩ := Hkey.out _ hb
      have cc := (hcel n hnv).below hb0 hlb
      have ih := Hih.out n hnv wr hb0 (by have := hb1.size; omega)
      obtain ⟨k', h', t', la', ka', va', nl', cl', nk', ck', nv', cv', hCn⟩ := (rv n hnv).shape
      rw [hCn] at cc ih
      obtain ⟨y0, y1, y2, y3, y4, y5⟩ := cells6 cc
      have HI := Lib.hid ih
      have k1 : wr.cell? ⟨kb, ko + n, none⟩ = some (.string ks[n]) := (hb0.cell (p := ⟨kb, ko + n, none⟩) hkb).trans (hkc n hn')
      have hksz : ks[n].size ≤ 140737488351232 := hs _ (List.getElem_mem hn')
      obtain ⟨kn, hkn⟩ : ∃ kn, ks[n] = kn := ⟨_, rfl⟩
      rw [hkn] at k1 hksz
      have Hkn := Lib.hid hkn; clear hkn
      have hkey : keyOf Tryz.prog 9 (.string kn) = some (.string kn.data.toList) := keyOf_string_mk Tryz.underlying9 (by unfold maxLen; omega)
      have Hkey2 := Lib.hid hkey; clear hkey
      by_cases hn0 : n ≤ 0
      · clear ih hCn cc hcel hkc
        go_wp2_with fail
        refine HI.out.mono ?_
        rintro e w2 ⟨x, rfl, hx, hb2⟩
        have h63 : n < maxLen := by unfold maxLen; omega
        obtain ⟨E, F, hown, hF, hd, hr⟩ := Hinv.out
        have hown2 := hown.kept (below_grown2 hb2 none) (by simp)
        have HF := Lib.hid hF; clear hF
        have Hd := Lib.hid hd; clear hd
        have Hr := Lib.hid hr; clear hr
        clear hown x0 x1 x2 x3 x4 x5 k1 y0 y1 y2 y3 y4 y5
        go_wp2_with (at_mapUpdate; refine wpList_mapUpdate_own _ rfl _ _ _ 52 rfl 9 20 law_str Tryz.underlying52 heldR W.heap.size n _ rfl hown2 h63 _ _ _ rfl rfl Hkey2.out (.held x) [] rfl ?_; intro w3 hown3 hg3)
        go_roundw
        case rel =>
          have s2 := hb2.size
          have s3 := hg3.size
          have em : m[n]'(by rw [Hml.out]; exact hn') = (kn, toJ (vs[n]'hnv)) := by rw [Hmg.out n hn', Hkn.out]
          refine ⟨n + 1, by rw [Hml.out]; omega, by go_num, hb.grown ((below_grown2 hb2 (some W.heap.size)).trans hg3) hb.size (fun k hk => by cases hk; exact Nat.le_refl _), by omega, ?_⟩
          refine MInv.step (w2 := w2) (x := x) hH (by rw [Hml.out]; exact hn') ?_ HF.out Hd.out Hr.out hb2 (by rw [em]; exact hx) (by rw [em]; exact hown3) hg3
          intro i hi
          rw [em, Hmg.out i (by omega), ← Hkn.out, ← ByteArray.toList_eq, ← ByteArray.toList_eq]
          exact rise_all ks rise n hn' i hi
        case measure => simp [intOf]; omega
      · have k2 : wr.cell? ⟨kb, ko + (n - 1), none⟩ = some (.string ks[n - 1]) := (hb0.cell (p := ⟨kb, ko + (n - 1), none⟩) hkb).trans (hkc (n - 1) (by omega))
        have hlt : Op.bytesLess ks[n - 1].toList kn.toList = true := by
          have := rise (n - 1) (by omega)
          rw [← Hkn.out]
          simpa [show n - 1 + 1 = n from by omega] using this
        generalize ks[n - 1] = pk at k2 hlt
        have t1 : (0 : Int) < (n : Int) := by omega
        clear ih hCn cc hcel hkc
        go_wp2_with fail
        refine HI.out.mono ?_
        rintro e w2 ⟨x, rfl, hx, hb2⟩
        have h63 : n < maxLen := by unfold maxLen; omega
        obtain ⟨E, F, hown, hF, hd, hr⟩ := Hinv.out
        have hown2 := hown.kept (below_grown2 hb2 none) (by simp)
        have HF := Lib.hid hF; clear hF
        have Hd := Lib.hid hd; clear hd
        have Hr := Lib.hid hr; clear hr
        clear hown k2 hlt x0 x1 x2 x3 x4 x5 k1 y0 y1 y2 y3 y4 y5
        go_wp2_with (at_mapUpdate; refine wpList_mapUpdate_own _ rfl _ _ _ 52 rfl 9 20 law_str Tryz.underlying52 heldR W.heap.size n _ rfl hown2 h63 _ _ _ rfl rfl Hkey2.out (.held x) [] rfl ?_; intro w3 hown3 hg3)
        go_roundw
        case rel =>
          have s2 := hb2.size
          have s3 := hg3.size
          have em : m[n]'(by rw [Hml.out]; exact hn') = (kn, toJ (vs[n]'hnv)) := by rw [Hmg.out n hn', Hkn.out]
          refine ⟨n + 1, by rw [Hml.out]; omega, by go_num, hb.grown ((below_grown2 hb2 (some W.heap.size)).trans hg3) hb.size (fun k hk => by cases hk; exact Nat.le_refl _), by omega, ?_⟩
          refine MInv.step (w2 := w2) (x := x) hH (by rw [Hml.out]; exact hn') ?_ HF.out Hd.out Hr.out hb2 (by rw [em]; exact hx) (by rw [em]; exact hown3) hg3
          intro i hi
          rw [em, Hmg.out i (by omega), ← Hkn.out, ← ByteArray.toList_eq, ← ByteArray.toList_eq]
          exact rise_all ks rise n hn' i hi
        case measure => simp [intOf]; omega
    · go_wp2_with fail
      have e : n = ks.length := by omega
      refine bodyPost_ret (results_tmp2 rfl _ _ _) rfl ⟨_, rfl, ?_, (Hkey.out _ hb).2⟩
      rw [Hm.out]
      refine MInv.done (by rw [Hml.out]; omega) ?_ (by rw [HWs.out]; omega) hH (by rw [Hml.out, ← e]; exact Hinv.out)
      intro p hp
      obtain ⟨i, hi, rfl⟩ := List.getElem_of_mem hp
      rw [Hmg.out i (by rw [← Hml.out]; exact hi)]
      exact hs _ (List.getElem_mem _)
end Go.Proofs.YtpaebanmaboaiaaGreatDoor

namespace Go.Proofs.YtpaebanmaboaiaaGreatDoor
open Go Go.RowKit Go.Maps Go.Deep Go.WideMaps
theorem entries_len (m : List (ByteArray × J)) (E : Nat → Value) : (entries m E).length = m.length := by simp [entries]
theorem entries_get (m : List (ByteArray × J)) (E : Nat → Value) (i : Nat) (hi : i < (entries m E).length) :
    (entries m E)[i] = (Lit.string (m[i]'(by rw [← entries_len m E]; exact hi)).1.data.toList, DataW.held (E i)) := by simp [entries]
/-- No key twice. -/
def Apart (m : List (ByteArray × J)) : Prop := ∀ i j (hi : i < m.length) (hj : j < m.length), m[i].1 = m[j].1 → i = j
theorem same_str (a b : List UInt8) : Lit.sameKey (.string a) (.string b) = (a == b) := rfl
theorem data_inj {a b : ByteArray} (h : a.data.toList = b.data.toList) : a = b := by
  obtain ⟨⟨x⟩⟩ := a
  obtain ⟨⟨y⟩⟩ := b
  simp at h
  rw [h]
theorem atKey_at {m : List (ByteArray × J)} {E : Nat → Value} (ha : Apart m) {i : Nat} (hi : i < m.length) (z : DataW Value) :
    (DataW.map (entries m E)).atKey (.string m[i].1.data.toList) z = .held (E i) := by
  have hf : (entries m E).find? (fun p => p.1.sameKey (.string m[i].1.data.toList)) = some (Lit.string m[i].1.data.toList, DataW.held (E i)) := by
    rw [List.find?_eq_some_iff_getElem]
    refine ⟨by simp [same_str], i, by rw [entries_len]; exact hi, entries_get m E i _, fun j hj => ?_⟩
    rw [entries_get]
    simp only [same_str, Bool.not_eq_true', beq_eq_false_iff_ne]
    intro e
    have := ha j i (by omega) hi (data_inj e)
    omega
  simp only [DataW.atKey, hf]
theorem zero_any (w : World) : (zeroValue 20).run Tryz.prog w = .ok .nilIface w := by kernel_rfl
theorem heldR_inv {v : Value} {d : DataW Value} {ps : List MemPlace} (h : heldR v = some (d, ps)) : d = .held v := by
  unfold heldR at h
  simp at h
  exact h.1.symm
theorem MapAt.get {w : World} {r : Nat} {m : List (ByteArray × J)} {E : Nat → Value} (h : MapAt w r m E) (ha : Apart m) {i : Nat} (hi : i < m.length) (hs : m[i].1.size ≤ 140737488351232) :
    (Instr.lookup 52 (.map (some r)) (.string m[i].1) false).run Tryz.prog w = .ok (E i) w := by
  obtain ⟨n, _, hown⟩ := h
  obtain ⟨v, ps, hrun, hv⟩ := hown.lookup law_str Tryz.underlying52 (zero_any w) (zd := .held .nilIface) (zp := []) rfl (keyOf_string_mk (s := m[i].1) Tryz.underlying9 (by unfold maxLen; omega))
  rw [atKey_at ha hi] at hv
  have := heldR_inv hv
  cases this
  exact hrun
theorem MapAt.len {w : World} {r : Nat} {m : List (ByteArray × J)} {E : Nat → Value} (h : MapAt w r m E) (ty : TypeId) :
    (Builtin.len_ #[52] ty #[.map (some r)]).run Tryz.prog w = .ok (.int .i64 m.length) w := by
  obtain ⟨n, _, hown⟩ := h
  have := hown.len Tryz.underlying52 ty
  rw [Maps.size_eq, entries_len] at this
  exact this
theorem less_ne {a b : ByteArray} (h : Op.bytesLess a.toList b.toList = true) : a ≠ b := by
  rintro rfl
  rw [bl_irrefl] at h
  cases h
theorem apart_toJM {ks : List ByteArray} {vs : List V} (hlen : ks.length = vs.length) (rise : ∀ i (hi : i + 1 < ks.length), Op.bytesLess ks[i].toList ks[i + 1].toList = true) : Apart (toJM ks vs) := by
  intro i j hi hj h
  rw [toJM_len _ _ hlen] at hi hj
  rw [toJM_get _ _ hlen i hi, toJM_get _ _ hlen j hj] at h
  simp only at h
  rcases Nat.lt_trichotomy i j with c | c | c
  · exact absurd h (less_ne (rise_all ks rise j hj i c))
  · exact c
  · exact absurd h.symm (less_ne (rise_all ks rise i hi j c))
end Go.Proofs.YtpaebanmaboaiaaGreatDoor
