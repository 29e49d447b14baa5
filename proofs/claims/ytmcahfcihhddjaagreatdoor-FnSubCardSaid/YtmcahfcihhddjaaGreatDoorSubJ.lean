/- Contracts of the callbacks of gojq.funcOpSub, but arrays; and what impl.result makes of what they give. -/
/- Contract of funcOpSub's callback at arrays. -/
/- Contract of gojq.ZzOpSub at trees of good values. -/
import Derived.Test.YtmcahfcihhddjaaGreatDoorDispA
import Derived.Test.YtmcahfcihhddjaaGreatDoorComp
import Derived.Test.YtmcahfcihhddjaaGreatDoorResult
import Derived.Test.YtmcahfcihhddjaaGreatDoorRes
import Derived.Test.YtmcahfcihhddjaaGreatDoorSubS
import Derived.Laws.MakeOwn
import Derived.WalkMore
import Derived.WalkLawsBesides
import Derived.Shelf.Abstract
namespace Go.Proofs.YtmcahfcihhddjaaGreatDoor
open Go Go.RowKit Go.Maps Go.Deep

/-- What impl.result returns where the answer is an. -/
def ResQ (w : World) (an : Ans) (e : Ending) (w' : World) : Prop :=
  ∃ (k h : Int) (t : ByteArray) (la ka va : Option Addr) (nl cl nk ck nv cv : Nat) (n : Int), e = .returned (.agg #[.int .i64 k, .int .i64 h, .string t, .slice la nl cl, .slice ka nk ck, .slice va nv cv, .int .i64 n]) ∧
    ((∀ v, an = .fine v → n = 0 ∧ RepS w' (FreshS w.heap.size w'.heap.size) v [.int .i64 k, .int .i64 h, .string t, .slice la nl cl, .slice ka nk ck, .slice va nv cv]) ∧ (an = .raises → n = 1)) ∧ Below w.heap.size w w'

theorem resQ_val {w : World} {x : Value} {v : V} {an : Ans} (h : Calls Tryz.prog 23 #[x] w (ResV w v)) (ha : an = .fine v ∨ an = .silent) : Calls Tryz.prog 23 #[x] w (ResQ w an) := by
  refine h.mono ?_
  rintro e w' ⟨c0, c1, c2, c3, c4, c5, rfl, hr, hb⟩
  obtain ⟨k, h, t, la, ka, va, nl, cl, nk, ck, nv, cv, e⟩ := hr.shape
  simp only [List.cons.injEq, and_true] at e
  obtain ⟨rfl, rfl, rfl, rfl, rfl, rfl⟩ := e
  refine ⟨_, _, _, _, _, _, _, _, _, _, _, _, _, rfl, ⟨fun v' hv => ?_, fun hv => ?_⟩, hb⟩
  · rcases ha with ha | ha
    · rw [ha] at hv
      cases hv
      exact ⟨rfl, hr⟩
    · rw [ha] at hv; cases hv
  · rcases ha with ha | ha <;> (rw [ha] at hv; cases hv)

theorem resQ_err {u : Value} (hu : ErrV u) (w : World) : Calls Tryz.prog 23 #[u] w (ResQ w .raises) :=
  (result_err u hu w).mono fun e w' ⟨he, hb⟩ => ⟨_, _, _, _, _, _, _, _, _, _, _, _, _, he, ⟨fun v hv => (by cases hv), fun _ => rfl⟩, hb⟩

theorem resQ_flt {x : Nat} (hx : FloatKind.f64.format.order x x = some .eq) (w : World) : Calls Tryz.prog 23 #[.iface 63 (.float .f64 x)] w (ResQ w .silent) := by
  have hm : ∃ y, FloatKind.f64.format.mul 4611686018427387904 x = some y ∧ ∀ s t, FloatKind.f64.decode y ≠ .nan s t := by
    have hn : ∀ y, Ieee.double.order y y = some .eq → ∀ s t, FloatKind.f64.decode y ≠ .nan s t := fun y hy s t e => by
      have : Ieee.double.read y = .nan s t := e
      unfold Ieee.Format.order at hy
      rw [this] at hy
      cases hy
    have h0 : Ieee.Datum.order (Ieee.double.read x) (Ieee.double.read x) = some .eq := hx
    cases hr : Ieee.double.read x with
    | nan s t => rw [hr] at h0; cases h0
    | number s m i =>
      refine ⟨Ieee.double.nearest (false ^^ s) (2 ^ 52 * m) (-51 + i), ?_, hn _ (near_ok _ _ _)⟩
      show Ieee.double.mul _ _ = _
      unfold Ieee.Format.mul
      rw [hr, two_read]
      simp only [Ieee.Datum.product, Option.map_some, Ieee.Format.write]
    | infinity s =>
      refine ⟨Ieee.double.word (false ^^ s) Ieee.double.infRung, ?_, hn _ (word_ok _ (by rw [infRung_double]; exact Nat.le_refl _))⟩
      show Ieee.double.mul _ _ = _
      unfold Ieee.Format.mul
      rw [hr, two_read]
      simp [Ieee.Datum.product, Ieee.Format.write]
  obtain ⟨y, hy, hny⟩ := hm
  refine (result_half (fun _ _ => True) (fun w => fromGo_flt x y hy (fun _ _ => True) (fun w => (half_any y hny w).mono fun e w' ⟨b, h, he, _, _, hb⟩ => ⟨b, h, trivial, he, hb⟩) w) w).mono ?_
  rintro e w' ⟨b, h, _, rfl, hb⟩
  exact ⟨_, _, _, _, _, _, _, _, _, _, _, _, _, rfl, ⟨fun v hv => (by cases hv), fun hv => (by cases hv)⟩, hb⟩

/-- What a callback leaves, for impl.result. -/
abbrev SubR (w : World) (an : Ans) (v : Value) (w' : World) : Prop := (v = .nilIface ∨ ∃ t y, v = .iface t y) ∧ Calls Tryz.prog 23 #[v] w' (ResQ w' an) ∧ Below w.heap.size w w'

theorem subR_err {w : World} {f : Nat} {args : Array Value} (h : Calls Tryz.prog f args w (RetErr w)) : Calls Tryz.prog f args w (Ret (SubR w .raises)) :=
  h.mono fun _ _ ⟨v, he, hv, hb⟩ => ⟨v, he, by obtain ⟨t, a, rfl⟩ := hv.form; exact .inr ⟨_, _, rfl⟩, resQ_err hv _, hb⟩

set_option maxRecDepth 100000 in
theorem sub_ss (l r : ByteArray) (w : World) : Calls Tryz.prog 73 #[.string l, .string r] w (RetErr w) := by
  go_enter Tryz.func73, Tryz.ntmps73
  go_wp2_with fail
  go_ret
  exact ⟨_, rfl, .binopTypeError _, below_alloc1 _ _⟩
set_option maxRecDepth 100000 in
theorem sub_mm (r r' : Option Nat) (w : World) : Calls Tryz.prog 76 #[.map r, .map r'] w (RetErr w) := by
  go_enter Tryz.func76, Tryz.ntmps76
  go_wp2_with fail
  go_ret
  exact ⟨_, rfl, .binopTypeError _, below_alloc1 _ _⟩
set_option maxRecDepth 100000 in
theorem sub_else (x y : Value) (hx : x = .nilIface ∨ ∃ t y, x = .iface t y) (hy : y = .nilIface ∨ ∃ t z, y = .iface t z) (w : World) : Calls Tryz.prog 77 #[x, y] w (RetErr w) := by
  rcases hx with rfl | ⟨t, x, rfl⟩ <;> rcases hy with rfl | ⟨t', y, rfl⟩
  all_goals
    go_enter Tryz.func77, Tryz.ntmps77
    go_wp2_with fail
    go_ret
    exact ⟨_, rfl, .binopTypeError _, below_alloc1 _ _⟩

set_option maxRecDepth 100000 in
theorem sub_ii (l r : Int) (hl : -9007199254740992 ≤ l ∧ l ≤ 9007199254740992) (hr : -9007199254740992 ≤ r ∧ r ≤ 9007199254740992) (w : World) :
    Calls Tryz.prog 68 #[.int .i64 l, .int .i64 r] w (Ret fun v w' => v = .iface 3 (.int .i64 (l - r)) ∧ w' = w) := by
  have hw : wrap64 (l - r) = l - r := by unfold wrap64; omega
  by_cases h : 0 ≤ r
  · have h1 : l - r ≤ l := by omega
    go_enter Tryz.func68, Tryz.ntmps68
    go_wp2_with fail
    go_ret
    exact ⟨_, rfl, rfl, rfl⟩
  · have h1 : ¬ l - r ≤ l := by omega
    go_enter Tryz.func68, Tryz.ntmps68
    go_wp2_with fail
    go_ret
    exact ⟨_, rfl, rfl, rfl⟩

set_option maxRecDepth 100000 in
theorem sub_ff (x y z : Nat) (hz : FloatKind.f64.format.sub x y = some z) (w : World) :
    Calls Tryz.prog 71 #[.float .f64 x, .float .f64 y] w (Ret fun v w' => v = .iface 63 (.float .f64 z) ∧ w' = w) := by
  have hq : ∀ w : World, (binOp .sub 63 (.float .f64 x) (.float .f64 y)).run Tryz.prog w = .ok (.float .f64 z) w := fun w => run_float_arith w .sub _ .f64 _ _ _ hz
  clear hz
  go_enter Tryz.func71, Tryz.ntmps71
  go_wp2_with fail
  go_ret
  exact ⟨_, rfl, rfl, rfl⟩

theorem numA_cases (d : Int) : (numA d = .silent ∨ (numA d = .fine (.mk 3 d ⟨#[]⟩ [] [] []) ∧ FitsH d)) := by
  unfold numA
  split
  · exact .inl rfl
  · rename_i h
    refine .inr ⟨rfl, by omega, by omega, fun o => ?_⟩
    have : d.tmod 2 ≠ 0 := fun e => o (by have := Int.mul_tdiv_add_tmod d 2; omega)
    omega

theorem hb_ok (d : Int) : FloatKind.f64.format.order (hb d) (hb d) = some .eq := by
  unfold hb
  first | exact near_ok _ _ _ | (split <;> first | exact near_ok _ _ _ | decide)

theorem num_ff (d : Int) (w : World) : Calls Tryz.prog 23 #[.iface 63 (.float .f64 (hb d))] w (ResQ w (numA d)) := by
  rcases numA_cases d with h | ⟨h, f⟩
  · rw [h]
    exact resQ_flt (hb_ok d) w
  · rw [h]
    exact resQ_val (result_val (RepJ.noErr (RepJ.flt (w := w) (fun _ => False) (hb d))) (.inr ⟨_, _, rfl⟩) w 0 (fun w' _ _ => fromGo_half f w') w ⟨rfl, rfl, rfl, Nat.le_refl _, fun k hk => by omega⟩ (Nat.zero_le _)) (.inl rfl)

theorem num_ii (n : Int) (hn : -4611686018427387904 ≤ n ∧ n ≤ 4611686018427387903) (w : World) : Calls Tryz.prog 23 #[.iface 3 (.int .i64 n)] w (ResQ w (numA (2 * n))) := by
  have h0 := result_val (RepJ.noErr (RepJ.int (w := w) (fun _ => False) n (by omega))) (.inr ⟨_, _, rfl⟩) w 0 (fun w' _ _ => fromGo_small n w' (by omega) (by omega)) w ⟨rfl, rfl, rfl, Nat.le_refl _, fun k hk => by omega⟩ (Nat.zero_le _)
  rcases numA_cases (2 * n) with h | ⟨h, f⟩
  · rw [h]
    exact resQ_val h0 (.inr rfl)
  · rw [h]
    exact resQ_val h0 (.inl rfl)

end Go.Proofs.YtmcahfcihhddjaaGreatDoor

namespace Go.Proofs.YtmcahfcihhddjaaGreatDoor
open Go Go.RowKit Go.Maps Go.Deep

/-- Whether l' has the n-th of l. -/
def hitB (l l' : List V) (n : Nat) : Bool := if h : n < l.length then l'.any (fun y => sameB y l[n]) else true
/-- The places of l, up to n, whose values l' has not. -/
def idxB (l l' : List V) : Nat → List Nat
  | 0 => []
  | n + 1 => if hitB l l' n then idxB l l' n else idxB l l' n ++ [n]
theorem idx_lt (l l' : List V) : ∀ n, ∀ i ∈ idxB l l' n, i < n
  | 0 => by simp [idxB]
  | n + 1 => by
    intro i hi
    simp only [idxB] at hi
    split at hi
    · have := idx_lt l l' n i hi; omega
    · rcases List.mem_append.1 hi with hi | hi
      · have := idx_lt l l' n i hi; omega
      · simp at hi; omega
theorem idx_rise (l l' : List V) : ∀ n, (idxB l l' n).Pairwise (· < ·)
  | 0 => by simp [idxB]
  | n + 1 => by
    simp only [idxB]
    split
    · exact idx_rise l l' n
    · rw [List.pairwise_append]
      exact ⟨idx_rise l l' n, by simp, fun a ha b hb => by simp at hb; have := idx_lt l l' n a ha; omega⟩
theorem idx_len (l l' : List V) (n : Nat) : (idxB l l' n).length ≤ n := by
  induction n with
  | zero => simp [idxB]
  | succ n ih =>
    simp only [idxB]
    split
    · omega
    · simp; omega
theorem idx_less (l l' : List V) : ∀ n, n ≤ l.length → ∀ q : Nat, (lessL (l.take n) l')[q]? = ((idxB l l' n)[q]?).bind fun i => l[i]?
  | 0, _ => by simp [idxB, lessL]
  | n + 1, h => by
    intro q
    have ih := idx_less l l' n (by omega)
    have hlen : (lessL (l.take n) l').length = (idxB l l' n).length := by
      have h1 : ∀ q : Nat, ((lessL (l.take n) l')[q]?).isSome = ((idxB l l' n)[q]?).isSome := fun q => by
        rw [ih q]
        cases hq : (idxB l l' n)[q]? with
        | none => rfl
        | some i =>
          have := idx_lt l l' n i (List.mem_of_getElem? hq)
          simp [List.getElem?_eq_getElem (show i < l.length by omega)]
      rcases Nat.lt_trichotomy (lessL (l.take n) l').length (idxB l l' n).length with c | c | c
      · have := h1 (lessL (l.take n) l').length
        simp [c] at this
      · exact c
      · have := h1 (idxB l l' n).length
        simp [c] at this
    rw [lessL_snoc (by omega)]
    have hh : hitB l l' n = l'.any fun y => sameB y (l[n]'(by omega)) := dif_pos (by omega)
    simp only [idxB, hh]
    split
    · exact ih q
    · by_cases c : q < (idxB l l' n).length
      · rw [List.getElem?_append_left (by omega), List.getElem?_append_left c]
        exact ih q
      · rw [List.getElem?_append_right (by omega), List.getElem?_append_right (by omega), hlen]
        by_cases e : q = (idxB l l' n).length
        · subst e
          simp [List.getElem?_eq_getElem (show n < l.length by omega)]
        · rw [List.getElem?_eq_none (by simp; omega), List.getElem?_eq_none (by simp; omega)]
          rfl
theorem idx_lessL (l l' : List V) : lessL l l' = (idxB l l' l.length).attach.map fun i => l[i.1]'(idx_lt l l' l.length i.1 i.2) := by
  apply List.ext_getElem?
  intro q
  have := idx_less l l' l.length (Nat.le_refl _) q
  rw [List.take_length] at this
  rw [this, List.getElem?_map]
  cases hq : (idxB l l' l.length)[q]? with
  | none =>
    rw [List.getElem?_eq_none (by rw [List.length_attach]; exact List.getElem?_eq_none_iff.1 hq)]
    rfl
  | some i =>
    have hi := idx_lt l l' l.length i (List.mem_of_getElem? hq)
    obtain ⟨hq', rfl⟩ := List.getElem?_eq_some_iff.1 hq
    rw [List.getElem?_eq_getElem (by rw [List.length_attach]; exact hq')]
    simp [List.getElem?_eq_getElem hi]

def SubLoop (w : World) (l l' : List V) (f : Nat → Value) (v i : Value) (wr : World) : Prop :=
  ∃ (n : Nat) (v' : Value), n ≤ l.length ∧ v' = v ∧ i = .int .i64 (n : Nat) ∧ Below w.heap.size w wr ∧ wr.ownsRow w.heap.size 20 1 v' (idxB l l' n).length ((idxB l l' n).map f)
def InLoop (wo : World) (l' : List V) (x : V) (i : Value) (wr : World) : Prop :=
  ∃ m : Nat, m ≤ l'.length ∧ i = .int .i64 (m : Nat) ∧ Below wo.heap.size wo wr ∧ ∀ j (hj : j < l'.length), j < m → cmpV x l'[j] ≠ 0

def SubArrP (w : World) (l l' : List V) (f : Nat → Value) (e : Ending) (w' : World) : Prop :=
  ∃ v, e = .returned (.iface 64 v) ∧ w'.ownsRow w.heap.size 20 1 v (idxB l l' l.length).length ((idxB l l' l.length).map f) ∧ Below w.heap.size w w'

set_option maxHeartbeats 4000000 in
set_option maxRecDepth 100000 in
theorem sub_arrs (w0 : World) (B : Nat) (l l' : List V) (a a' : Option Addr) (c c' : Nat) (f f' : Nat → Value) (cf : CellsOf w0 B a l.length f) (cf' : CellsOf w0 B a' l'.length f')
    (of1 : ∀ i, i < l.length → f i = .nilIface ∨ ∃ t y, f i = .iface t y) (of2 : ∀ i, i < l'.length → (f' i).oneCell' = true)
    (hC : ∀ i j (hi : i < l.length) (hj : j < l'.length), CmpAt w0 B (f i) (f' j) (cmpV l[i] l'[j]))
    (gl : ∀ i (hi : i < l.length), Good l[i]) (gl' : ∀ i (hi : i < l'.length), Good l'[i]) (hl : l.length * 104 ≤ 140737488351232) (hl' : l'.length * 104 ≤ 140737488351232) (w : World) (hbel : Below B w0 w) (hB : B ≤ w.heap.size) :
    Calls Tryz.prog 74 #[.slice a l.length c, .slice a' l'.length c'] w (SubArrP w l l' f) := by
  obtain ⟨i0, hi, hz0, hz1, hz2⟩ := info_parts info_any
  obtain ⟨w1, hmk, hown0, hg0⟩ := run_make_own (P := Tryz.prog) (w := w) w.heap.size 64 20 i0 .nilIface 1 Tryz.underlying64 hi hz0 hz1 .i64 .i64 l.length (by rw [hz2]; omega) (by unfold maxLen; omega) (Nat.le_refl _)
  have hb1 : Below w.heap.size w w1 := (Below.refl _ _).grown hg0 (Nat.le_refl _) (by simp)
  have Hb1 := Lib.hid hb1
  have Hown0 := Lib.hid hown0
  have Hcf := Lib.hid cf; clear cf
  have Hcf' := Lib.hid cf'; clear cf'
  have HC := Lib.hid hC; clear hC
  have Ho := Lib.hid of1; clear of1
  have Ho' := Lib.hid of2; clear of2
  have Hbel := Lib.hid hbel; clear hbel
  clear hb1 hown0 hg0
  go_enter Tryz.func74, Tryz.ntmps74
  go_wp2_with fail
  go_step3
  go_wp2_with fail
  go_step3
  go_wp2_with fail
  clear hmk
  go_loopw [5, 15] (fun v i wr => SubLoop w l l' f v i wr) (fun _ i _ => l.length - (intOf i).toNat)
  case atStart => exact ⟨0, _, Nat.zero_le _, rfl, rfl, Hb1.out, Hown0.out⟩
  case round =>
    obtain ⟨n, v, hn, rfl, rfl, hb, hrow⟩ := hrel
    have hs := hb.size
    by_cases hn' : n < l.length
    · obtain ⟨b1, o1, rfl, hb1, c1⟩ := Hcf.out (by omega)
      have hb0 : Below B w0 wr := Hbel.out.trans (hb.mono hB)
      have y1 : wr.cell? ⟨b1, o1 + n, none⟩ = some (f n) := (hb0.cell (p := ⟨b1, o1 + n, none⟩) hb1).trans (c1 n hn')
      have q1 : (f n).oneCell' = true := by rcases Ho.out n hn' with e | ⟨_, _, e⟩ <;> rw [e] <;> rfl
      have u1 : (n : Int) < (l.length : Int) := by omega
      have u3 : (0 : Int) ≤ (n : Int) := by omega
      have Hrow := Lib.hid hrow; clear hrow
      clear c1 hb0
      obtain ⟨wo, hwo⟩ : ∃ wo : World, wo = wr := ⟨_, rfl⟩
      go_wp2_with fail
      subst hwo
      have Hb := Lib.hid hb; clear hb
      go_loopw [21] (fun i wr => InLoop wo l' l[n] i wr) (fun i _ => l'.length - (intOf i).toNat)
      case atStart => exact ⟨0, Nat.zero_le _, rfl, Below.refl _ _, fun j _ h => by omega⟩
      case round =>
        obtain ⟨m, hm, rfl, hbi, hno⟩ := hrel
        have Hno := Lib.hid hno; clear hno
        have hsi := hbi.size
        by_cases hm' : m < l'.length
        · obtain ⟨b2, o2, rfl, hb2, c2⟩ := Hcf'.out (by omega)
          have hb0 : Below B w0 wr := Hbel.out.trans ((Hb.out.mono hB).trans (hbi.mono (by omega)))
          have y2 : wr.cell? ⟨b2, o2 + m, none⟩ = some (f' m) := (hb0.cell (p := ⟨b2, o2 + m, none⟩) hb2).trans (c2 m hm')
          have q2 := Ho'.out m hm'
          have HI := Lib.hid (HC.out n m hn' hm' wr hb0 (by omega))
          have u4 : (m : Int) < (l'.length : Int) := by omega
          have u5 : (0 : Int) ≤ (m : Int) := by omega
          clear c2 hb0
          go_wp2_with fail
          refine HI.out.mono ?_
          rintro e w2 ⟨rfl, hb3⟩
          have hb4 : Below wo.heap.size wo w2 := hbi.trans (hb3.mono hbi.size)
          clear HI y2
          by_cases hc : cmpV l[n] l'[m] = 0
          · have hit : hitB l l' n = true := by
              unfold hitB
              rw [dif_pos hn', List.any_eq_true]
              refine ⟨l'[m], List.getElem_mem hm', (sameB_iff (gl' m hm') (gl n hn')).2 ((cmpV_zero (gl n hn') (gl' m hm')).1 hc).symm⟩
            have hnext : SubLoop w l l' f v (.int .i64 ((n : Int) + 1)) w2 := ⟨n + 1, v, by omega, rfl, rfl, Hb.out.trans (hb4.mono hs), by simp only [idxB, hit, if_true]; exact kept_row0 Hrow.out (below_grown hb4 none)⟩
            have Hnext := Lib.hid hnext
            rw [hc]
            clear hc hit hnext
            go_wp2_with fail
            go_roundw
            case rel => exact Hnext.out
            case measure => simp [intOf]; omega
          · have hnext : InLoop wo l' l[n] (.int .i64 ((m : Int) + 1)) w2 := ⟨m + 1, by omega, rfl, hb4, fun j hj hjm => by
              by_cases e : j = m
              · subst e; exact hc
              · exact Hno.out j hj (by omega)⟩
            have Hnext := Lib.hid hnext
            generalize cmpV l[n] l'[m] = cc at hc
            have tc : (cc == 0) = false := by simpa using hc
            clear hnext hc
            go_wp2_with fail
            go_roundw
            case rel => exact Hnext.out
            case measure => simp [intOf]; omega
        · have e : m = l'.length := by omega
          have hit : hitB l l' n = false := by
            unfold hitB
            rw [dif_pos hn', List.any_eq_false]
            intro y hy hsame
            obtain ⟨j, hj, rfl⟩ := List.mem_iff_getElem.1 hy
            have := (sameB_iff (gl' j hj) (gl n hn')).1 hsame
            exact Hno.out j hj (by omega) ((cmpV_zero (gl n hn') (gl' j hj)).2 this.symm)
          have hx1 : ∀ u ∈ [f n], u.oneCell' = true := by simpa using q1
          have hlen := idx_len l l' n
          have hrow2 := kept_row0 Hrow.out (below_grown hbi none)
          have hbn := below_alloc1 wr (.cells #[f n] 20)
          have hsn := size_alloc1 wr (.cells #[f n] 20)
          have hown := kept_row0 hrow2 (below_grown hbn none)
          have hnews := cells_new wr [f n] 20
          have hob : ∀ g, v.ownBlock = some g → w.heap.size ≤ g := fun g hg => (hown.lt g hg).1
          have c1 : (idxB l l' n).length + 1 ≤ maxLen := by unfold maxLen; omega
          have c2 : ((idxB l l' n).length + 1) * 16 ≤ 140737488355328 := by omega
          have hbase : w.heap.size ≤ (wr.alloc (.cells #[f n] 20)).heap.size := by omega
          have hnext : ∀ v' w', w'.ownsRow w.heap.size 20 1 v' ((idxB l l' n).length + 1) ((idxB l l' n).map f ++ [f n]) → (wr.alloc (.cells #[f n] 20)).grownBy w' v.ownBlock → SubLoop w l l' f v' (.int .i64 ((n : Int) + 1)) w' := by
            intro v' w' ho hg
            refine ⟨n + 1, v', by omega, rfl, rfl, (Hb.out.trans ((hbi.trans (hbn.mono hbi.size)).mono hs)).grown hg (by omega) (fun q hq => hob q hq), ?_⟩
            simp only [idxB, hit, Bool.false_eq_true, if_false, List.length_append, List.length_singleton, List.map_append, List.map_cons, List.map_nil]
            exact ho
          have Hnext := Lib.hid hnext
          clear hnext hrow2 hob hbn hit Hno
          rcases Ho.out n hn' with e | ⟨ty, y, e⟩
          all_goals
            rw [e] at hx1 hsn hown hnews Hnext hbase ⊢
            clear q1 y1 e
            go_wp2_with (at_builtin; go_loud (refine wpList_append_own_at _ rfl (.tmp 30) (.tmp 32) 64 rfl w.heap.size 20 i0 _ 1 16 Tryz.underlying64 hi hz0 hz1 hz2 rfl (by decide) v (idxB l l' n).length ((idxB l l' n).map f) rfl hown _ 1 1 _ rfl rfl hnews hx1 c1 c2 hbase ?_; intro v' w5 hown5 hg5 _ hat5; have Hloop := Lib.hid (Hnext.out v' w5 hown5 hg5); obtain ⟨la', lc', rfl⟩ := row_form hown5; clear hown5 hg5 hat5))
            go_roundw
            case rel => exact Hloop.out
            case measure => simp [intOf]; omega
    · have e : n = l.length := by omega
      rw [e] at hrow
      obtain ⟨la', lc', rfl⟩ := row_form hrow
      have Hfin : Hid (SubArrP w l l' f (.returned (.iface 64 (.slice la' (idxB l l' l.length).length lc'))) wr) := Lib.hid ⟨_, rfl, hrow, hb⟩
      rw [e]
      clear hrow e
      go_wp2_with fail
      rw [Exit.noGoto_ret]
      go_ret
      exact Hfin.out

end Go.Proofs.YtmcahfcihhddjaaGreatDoor

namespace Go.Proofs.YtmcahfcihhddjaaGreatDoor
open Go Go.RowKit Go.Maps Go.Deep

theorem mem_lessL {l l' : List V} {x : V} (h : x ∈ lessL l l') : x ∈ l := (List.mem_filter.1 h).1

theorem good_list {l : List V} (h : ∀ x ∈ l, Good x) : Good (.mk 5 0 ⟨#[]⟩ l [] []) := by
  refine .mk ?_ ?_ ?_ (fun i hi => h _ (List.getElem_mem hi)) (fun i hi => by simp at hi) (fun i hi => by simp at hi) (fun i hi => by simp at hi)
  · simp [shapeB, Lib.toList_data]
  · simp [halfB]
  · rfl

theorem small_list {l : List V} (hl : l.length * 104 ≤ 140737488351232) (h : ∀ x ∈ l, Small x) : Small (.mk 5 0 ⟨#[]⟩ l [] []) :=
  .mk hl (by simp) (by simp) (fun i hi => h _ (List.getElem_mem hi)) (fun i hi => by simp at hi)

theorem lessL_at (l l' : List V) (q : Nat) (hq : q < (idxB l l' l.length).length) : ∃ (h1 : q < (lessL l l').length) (h2 : (idxB l l' l.length)[q] < l.length), (lessL l l')[q] = l[(idxB l l' l.length)[q]] := by
  have h2 := idx_lt l l' l.length _ (List.getElem_mem hq)
  have := idx_less l l' l.length (Nat.le_refl _) q
  rw [List.take_length, List.getElem?_eq_getElem hq] at this
  simp only [Option.bind_some, List.getElem?_eq_getElem h2] at this
  obtain ⟨h1, e⟩ := List.getElem?_eq_some_iff.1 this
  exact ⟨h1, h2, e⟩
theorem lessL_length (l l' : List V) : (lessL l l').length = (idxB l l' l.length).length := by
  rw [idx_lessL]
  simp

/-- A row of own that holds some of a tree's elements is a tree. -/
theorem sub_tree {w0 w w' : World} {B : Nat} {l l' : List V} {f : Nat → Value} {F : Nat → Nat → Prop} {v : Value} (hR : ∀ i (hi : i < l.length), RepJ w0 (F i) (toJ l[i]) (f i)) (hS : ∀ i k, i < l.length → F i k → k < B)
    (dis : ∀ i j k, i < j → j < l.length → F i k → F j k → False) (hl : l.length * 104 ≤ 140737488351232) (hbel : Below B w0 w) (hB : B ≤ w.heap.size) (hb : Below w.heap.size w w')
    (hrow : w'.ownsRow w.heap.size 20 1 v (idxB l l' l.length).length ((idxB l l' l.length).map f)) :
    RepJ w' (fun k => k < w'.heap.size) (.arr (toJL (lessL l l'))) (.iface 64 v) := by
  have hlen : (toJL (lessL l l')).length = (idxB l l' l.length).length := by rw [toJL_len, lessL_length]
  have hll := idx_len l l' l.length
  have hbs := hb.size
  have hrise := idx_rise l l' l.length
  generalize hix : idxB l l' l.length = idx at *
  have hR' : ∀ q (hq : q < idx.length), ∃ (h1 : q < (toJL (lessL l l')).length) (h2 : idx[q] < l.length), (toJL (lessL l l'))[q] = toJ l[idx[q]] := fun q hq => by
    subst hix
    obtain ⟨h1, h2, e⟩ := lessL_at l l' q hq
    exact ⟨by rw [toJL_len]; exact h1, h2, by rw [toJL_get _ q h1, e]⟩
  have hlt : ∀ q (hq : q < idx.length), idx[q] < l.length := fun q hq => (hR' q hq).choose_spec.choose
  obtain ⟨la, g, cap, cur, hv, hcur, hcap⟩ : ∃ (la : Option Addr) (g cap : Nat) (cur : Array Value), v = .slice la idx.length cap ∧ (0 < idx.length → la = some ⟨g, 0, none⟩ ∧ w.heap.size ≤ g ∧ w'.heap[g]? = some (.cells cur 20 (0, 0)) ∧ cur.size = cap ∧ cur.toList.take idx.length = idx.map f) ∧ idx.length ≤ cap := by
    rcases hrow.2 with ⟨e, h0⟩ | ⟨g, cap, cur, e, hbase, hg, h1, h2, h3, h4⟩
    · exact ⟨none, 0, 0, #[], by rw [e, h0], fun h => by omega, by omega⟩
    · exact ⟨some ⟨g, 0, none⟩, g, cap, cur, e, fun _ => ⟨rfl, hbase, hg, by omega, by rw [Nat.mul_one] at h4; exact h4⟩, h1⟩
  rw [hv, ← hlen]
  refine .arr (fun j => cur.getD j .nilIface) g 0 cap (fun q => F (idx.getD q 0)) (by omega) (by omega) (fun h0 => ?_) (fun q hq hk => ?_) (fun q k hq hk => ?_) (fun i j k hij hj h1 h2 => ?_) (fun q hq => ?_)
  · obtain ⟨h0, h1, h2, h3, h4⟩ := hcur (by omega)
    exact ⟨h0, (Array.getElem?_eq_some_iff.1 h2).1, ⟨cur, h2, h3, fun i hi => by
      have : i < cur.size := by omega
      rw [Array.getElem?_eq_getElem this]
      simp [Array.getD, this]⟩, by omega⟩
  · obtain ⟨_, h1, h2, h3, h4⟩ := hcur (by omega)
    have hq' : q < idx.length := by omega
    rw [List.getD_eq_getElem?_getD, List.getElem?_eq_getElem hq'] at hk
    have := hS _ _ (hlt q hq') hk
    omega
  · have hq' : q < idx.length := by omega
    rw [List.getD_eq_getElem?_getD, List.getElem?_eq_getElem hq'] at hk
    have := hS _ _ (hlt q hq') hk
    omega
  · have hi' : i < idx.length := by omega
    have hj' : j < idx.length := by omega
    rw [List.getD_eq_getElem?_getD, List.getElem?_eq_getElem hi'] at h1
    rw [List.getD_eq_getElem?_getD, List.getElem?_eq_getElem hj'] at h2
    exact dis _ _ k ((List.pairwise_iff_getElem.1 hrise) i j hi' hj' hij) (hlt j hj') h1 h2
  · have hq' : q < idx.length := by omega
    obtain ⟨_, h1, h2, h3, h4⟩ := hcur (by omega)
    obtain ⟨p1, p2, p3⟩ := hR' q hq'
    have hc : cur.getD (0 + q) .nilIface = f idx[q] := by
      have h5 : (cur.toList.take idx.length)[q]? = (idx.map f)[q]? := by rw [h4]
      rw [List.getElem?_take_of_lt hq', Array.getElem?_toList, List.getElem?_map, List.getElem?_eq_getElem hq'] at h5
      rw [Nat.zero_add]
      simp only [Option.map_some] at h5
      obtain ⟨h6, h7⟩ := Array.getElem?_eq_some_iff.1 h5
      simp [Array.getD, h6, h7]
    show RepJ w' (F (idx.getD q 0)) (toJL (lessL l l'))[q] (cur.getD (0 + q) .nilIface)
    rw [hc, p3, List.getD_eq_getElem?_getD, List.getElem?_eq_getElem hq']
    exact (hR idx[q] p2).carry fun k hk => (hb.block k (by have := hS _ _ p2 hk; omega)).trans (hbel.block k (hS _ _ p2 hk))

set_option maxHeartbeats 2000000 in
theorem sub_disp {w0 : World} {B : Nat} {a b : V} (ga : Good a) (gb : Good b) (sa : Small a) (sb : Small b) {S S' : Nat → Prop} {x y : Value} (hx : RepJ w0 S (toJ a) x) (hS : ∀ k, S k → k < B) (hy : RepJ w0 S' (toJ b) y) (hS' : ∀ k, S' k → k < B)
    (w : World) (hbel : Below B w0 w) (hB : B ≤ w.heap.size) :
    DispA 68 71 73 74 76 77 (toJ a) (toJ b) x y (SubR w (subA a b)) w := by
  obtain ⟨k, h, t, l, ks, vs⟩ := a
  obtain ⟨k', h', t', l', ks', vs'⟩ := b
  obtain ⟨shape, half, _, list, _, _, vals⟩ := ga.all
  obtain ⟨shape', half', _, list', _, _, vals'⟩ := gb.all
  obtain ⟨p1, p2, p3, p4, p5, p6, p7, p8⟩ := shape_plain shape
  obtain ⟨q1, q2, q3, q4, q5, q6, q7, q8⟩ := shape_plain shape'
  rw [subA_mk]
  have fx := hx.form
  have fy := hy.form
  have hkx := kindJ_toJ (h := h) (t := t) (l := l) (ks := ks) (vs := vs) ⟨p1, p2⟩
  have hky := kindJ_toJ (h := h') (t := t') (l := l') (ks := ks') (vs := vs') ⟨q1, q2⟩
  have nx := toJ_whole (.mk k h t l ks vs)
  have ny := toJ_whole (.mk k' h' t' l' ks' vs')
  by_cases c3 : k = 3 ∧ k' = 3
  · rw [if_pos c3]
    obtain ⟨rfl, rfl⟩ := c3
    obtain ⟨r1, r2, r5⟩ := half_bounds half
    obtain ⟨r3, r4, r6⟩ := half_bounds half'
    have hI := hb_isH (fitsH_half half)
    have hI' := hb_isH (fitsH_half half')
    rw [wrap_sub_zero ⟨r1, r2⟩ ⟨r3, r4⟩]
    have cf : Calls Tryz.prog 71 #[.float .f64 (hb h), .float .f64 (hb h')] w (Ret (SubR w (numA (h - h')))) :=
      (sub_ff (hb h) (hb h') (hb (h - h')) (sub_hb hI hI') w).mono fun e w' ⟨v, he, hv, hw⟩ => by
        subst hv hw
        exact ⟨_, he, .inr ⟨_, _, rfl⟩, num_ff _ _, Below.refl _ _⟩
    clear hx hy fx fy hkx hky nx ny
    unfold toJ
    simp only [show ¬ ((3 : Int) = 0) by decide, show ¬ ((3 : Int) = 1) by decide, show ¬ ((3 : Int) = 2) by decide, if_false, if_true]
    by_cases o : h.tmod 2 = 0 <;> by_cases o' : h'.tmod 2 = 0
    · rw [if_pos o, if_pos o']
      have e : 2 * h.tdiv 2 = h := by have := Int.mul_tdiv_add_tmod h 2; omega
      have e' : 2 * h'.tdiv 2 = h' := by have := Int.mul_tdiv_add_tmod h' 2; omega
      intro _ _
      refine (sub_ii (h.tdiv 2) (h'.tdiv 2) (by omega) (by omega) w).mono fun e w' ⟨v, he, hv, hw⟩ => ?_
      subst hv hw
      refine ⟨_, he, .inr ⟨_, _, rfl⟩, ?_, Below.refl _ _⟩
      have := num_ii (h.tdiv 2 - h'.tdiv 2) (by omega) w'
      rw [show 2 * (h.tdiv 2 - h'.tdiv 2) = h - h' by omega] at this
      exact this
    · rw [if_pos o, if_neg o', num_flt half' o']
      show Calls _ _ #[.float .f64 (floatOfInt .f64 (h.tdiv 2)), _] _ _
      rw [num_hb o]
      exact cf
    · rw [if_neg o, if_pos o', num_flt half o]
      show Calls _ _ #[_, .float .f64 (floatOfInt .f64 (h'.tdiv 2))] _ _
      rw [num_hb o']
      exact cf
    · rw [if_neg o, if_neg o', num_flt half o, num_flt half' o']
      exact cf
  · rw [if_neg c3]
    by_cases c5 : k ≠ 5 ∨ k' ≠ 5
    · rw [if_pos c5]
      have f7 := subR_err (sub_else x y fx fy w)
      have f4 := fun s t => subR_err (sub_ss s t w)
      have f6 := fun r r' => subR_err (sub_mm r r' w)
      generalize toJ (.mk k h t l ks vs) = j at *
      generalize toJ (.mk k' h' t' l' ks' vs') = j' at *
      cases j <;> cases j'
      all_goals first
        | exact absurd rfl nx
        | exact absurd rfl ny
        | exact f7
        | exact f4 _ _
        | (intro _ _ _ _; exact f6 _ _)
        | (exfalso; simp only [kindJ] at hkx hky; omega)
    · rw [if_neg c5]
      obtain rfl : k = 5 := Decidable.byContradiction fun e => c5 (.inl e)
      obtain rfl : k' = 5 := Decidable.byContradiction fun e => c5 (.inr e)
      cases sa with
      | mk hl hks hvs sl sv =>
      cases sb with
      | mk hl' hks' hvs' sl' sv' =>
      clear fx fy hkx hky nx ny
      unfold toJ at hx hy ⊢
      simp only [show ¬ ((5 : Int) = 0) by decide, show ¬ ((5 : Int) = 1) by decide, show ¬ ((5 : Int) = 2) by decide, show ¬ ((5 : Int) = 3) by decide, show ¬ ((5 : Int) = 4) by decide, if_false, if_true] at hx hy ⊢
      generalize hm : toJL l = m at hx ⊢
      generalize hm' : toJL l' = m' at hy ⊢
      have hml : m.length = l.length := by rw [← hm]; exact toJL_len l
      have hml' : m'.length = l'.length := by rw [← hm']; exact toJL_len l'
      cases hx with
      | @arr _ _ a1 c1 f1 b1 o1 N1 F1 hlm1 hc1 ca1 own1 sub1 dis1 ra1 =>
      cases hy with
      | @arr _ _ a2 c2 f2 b2 o2 N2 F2 hlm2 hc2 ca2 own2 sub2 dis2 ra2 =>
      rintro _ _ _ _ _ _ e1 e2
      cases e1
      cases e2
      have hR1 : ∀ i (hi : i < l.length), RepJ w0 (F1 i) (toJ l[i]) (f1 (o1 + i)) := fun i hi => by
        have := ra1 i (by omega)
        subst hm
        rw [toJL_get l i hi] at this
        exact this
      have hR2 : ∀ i (hi : i < l'.length), RepJ w0 (F2 i) (toJ l'[i]) (f2 (o2 + i)) := fun i hi => by
        have := ra2 i (by omega)
        subst hm'
        rw [toJL_get l' i hi] at this
        exact this
      rw [hml, hml']
      refine (sub_arrs w0 B l l' a1 a2 c1 c2 (fun i => f1 (o1 + i)) (fun i => f2 (o2 + i)) (fun h0 => ?_) (fun h0 => ?_) (fun i hi => (hR1 i hi).form) (fun i hi => ?_) (fun i j hi hj => ?_) list list' hl hl' w hbel hB).mono ?_
      · obtain ⟨e1, e2, e3, e4⟩ := ca1 (by omega)
        exact ⟨b1, o1, e1, hS b1 e2, fun i hi => e3.cell (by omega)⟩
      · obtain ⟨e1, e2, e3, e4⟩ := ca2 (by omega)
        exact ⟨b2, o2, e1, hS' b2 e2, fun i hi => e3.cell (by omega)⟩
      · rcases (hR2 i hi).form with e | ⟨_, _, e⟩ <;> rw [e] <;> rfl
      · exact compare_any (list i hi) (sl i hi) (list' j hj) (sl' j hj) w0 B (F1 i) (F2 j) _ _ (hR1 i hi) (fun q hq => hS q (sub1 i q (by omega) hq)) (hR2 j hj) (fun q hq => hS' q (sub2 j q (by omega) hq))
      · rintro e w' ⟨v, rfl, hrow, hb⟩
        refine ⟨_, rfl, .inr ⟨_, _, rfl⟩, ?_, hb⟩
        have hT := sub_tree (l' := l') (f := fun i => f1 (o1 + i)) (F := F1) hR1 (fun i k hi hk => hS k (sub1 i k (by omega) hk)) (fun i j k hij hj => dis1 i j k hij (by omega)) hl hbel hB hb hrow
        have hll := lessL_length l l'
        have hle := idx_len l l' l.length
        have hG : Good (.mk 5 0 ⟨#[]⟩ (lessL l l') [] []) := good_list fun x hx => by
          obtain ⟨i, hi, rfl⟩ := List.mem_iff_getElem.1 (mem_lessL hx)
          exact list i hi
        have hSm : Small (.mk 5 0 ⟨#[]⟩ (lessL l l') [] []) := small_list (by omega) fun x hx => by
          obtain ⟨i, hi, rfl⟩ := List.mem_iff_getElem.1 (mem_lessL hx)
          exact sl i hi
        have hJ : RepJ w' (fun k => k < w'.heap.size) (toJ (.mk 5 0 ⟨#[]⟩ (lessL l l') [] [])) (.iface 64 v) := by
          unfold toJ
          simpa using hT
        exact resQ_val (result_val hJ.noErr (.inr ⟨_, _, rfl⟩) w' w'.heap.size (fromGo_any hG hSm w' w'.heap.size _ _ hJ (fun k hk => hk)) w' (Below.refl _ _) (Nat.le_refl _)) (.inl rfl)

set_option maxRecDepth 100000 in
theorem zzSub_any {w0 : World} {B : Nat} {a b : V} (ga : Good a) (gb : Good b) (sa : Small a) (sb : Small b) {S S' : Nat → Prop} {x y : Value} (hx : RepJ w0 S (toJ a) x) (hS : ∀ k, S k → k < B) (hy : RepJ w0 S' (toJ b) y) (hS' : ∀ k, S' k → k < B)
    (w : World) (hbel : Below B w0 w) (hB : B ≤ w.heap.size) : Calls Tryz.prog 25 #[x, y] w (Ret (SubR w (subA a b))) := by
  have H := Lib.hid (bin_disp 68 71 72 73 74 76 77
    (enters_of Tryz.func68 (by kernel_rfl) rfl) (enters_of Tryz.func71 (by kernel_rfl) rfl) (enters_of Tryz.func73 (by kernel_rfl) rfl)
    (enters_of Tryz.func74 (by kernel_rfl) rfl) (enters_of Tryz.func76 (by kernel_rfl) rfl) (enters_of Tryz.func77 (by kernel_rfl) rfl) hx hy _ w (sub_disp ga gb sa sb hx hS hy hS' w hbel hB))
  clear hx hy hS hS' ga gb sa sb hbel
  generalize subA a b = an at *
  go_enter Tryz.func25, Tryz.ntmps25
  go_wp2_with (go_at_call 45; go_in)
  refine H.out.mono ?_
  rintro e w2 ⟨v, rfl, hv⟩
  have Hv := Lib.hid hv
  clear hv
  go_wp2_with fail
  go_ret
  exact ⟨_, rfl, Hv.out⟩

end Go.Proofs.YtmcahfcihhddjaaGreatDoor
