/- Contract of gojq.Compare at trees of good values: cmpV. -/
import Derived.Test.YtmcahfcihhddjaaGreatDoorCmpMap
import Derived.Test.YtmcahfcihhddjaaGreatDoorFromGo5
import Derived.Test.YtmcahfcihhddjaaGreatDoorIeee3
namespace Go.Proofs.YtmcahfcihhddjaaGreatDoor
open Go Go.RowKit Go.Maps Go.Deep

theorem signI_sign (n : Int) : signI (signI n) = signI n := by
  unfold signI
  split
  · rfl
  · split <;> rfl
theorem signI_two (d : Int) : signI (2 * d) = signI d := by
  unfold signI
  by_cases h : d < 0
  · rw [if_pos (by omega), if_pos h]
  · rw [if_neg (show ¬ 2 * d < 0 by omega), if_neg h]
    by_cases h2 : 0 < d
    · rw [if_pos (by omega), if_pos h2]
    · rw [if_neg (by omega), if_neg h2]
theorem signI_cmpV (a b : V) : signI (cmpV a b) = cmpV a b := by
  obtain ⟨k, h, t, l, ks, vs⟩ := a
  obtain ⟨k', h', t', l', ks', vs'⟩ := b
  simp only [cmpV]
  repeat' split
  all_goals first | exact signI_sign _ | exact signI_texts _ _ | rfl

def cmpAtL (l l' : List V) (i : Nat) : Int := if h : i < l.length ∧ i < l'.length then cmpV (l[i]'h.1) (l'[i]'h.2) else 0
theorem cmpAtL_at (l l' : List V) (i : Nat) (h1 : i < l.length) (h2 : i < l'.length) : cmpAtL l l' i = cmpV l[i] l'[i] := dif_pos ⟨h1, h2⟩
theorem list_firsts (l l' : List V) : Firsts l.length l'.length (cmpAtL l l') (fun n => signI (cmpL (l.drop n) (l'.drop n))) := by
  refine ⟨fun n h1 h2 => ?_, fun n h h1 h2 => ?_⟩
  · simp only [cmpAtL_at l l' n h1 h2, cmpL_drop l l' n h1 h2]
    split
    · rfl
    · exact signI_cmpV _ _
  · show signI _ = _
    rw [cmpL_end l l' n h h1 h2]

theorem kindJ_toJ {k h : Int} {t : ByteArray} {l : List V} {ks : List ByteArray} {vs : List V} (hk : 0 ≤ k ∧ k ≤ 6) : kindJ (toJ (.mk k h t l ks vs)) = k := by
  rcases (show k = 0 ∨ k = 1 ∨ k = 2 ∨ k = 3 ∨ k = 4 ∨ k = 5 ∨ k = 6 by omega) with rfl | rfl | rfl | rfl | rfl | rfl | rfl
  all_goals
    unfold toJ
    try simp [kindJ]
  by_cases o : h.tmod 2 = 0 <;> simp [o]
theorem toJ_whole (v : V) : toJ v ≠ .hole := by
  obtain ⟨k, h, t, l, ks, vs⟩ := v
  unfold toJ
  repeat' split
  all_goals simp
theorem disp_else {j k : J} (hj : j ≠ .hole) (hk : k ≠ .hole) (h : kindJ j ≠ kindJ k) (x y : Value) (w : World) : Disp j k x y (signI (kindJ j - kindJ k)) w := by
  cases j <;> cases k <;> simp_all [Disp, kindJ]

theorem num_hb {h : Int} (o : h.tmod 2 = 0) : floatOfInt .f64 (h.tdiv 2) = hb h := by
  have e : 2 * h.tdiv 2 = h := by have := Int.mul_tdiv_add_tmod h 2; omega
  have := hb_int (h.tdiv 2)
  rw [e] at this
  exact this
theorem fitsH_half {h : Int} (g : halfB h = true) : FitsH h := by
  obtain ⟨h1, h2, h3⟩ := half_bounds g
  exact ⟨h1, h2, fun o => h3 (fun e => o (by have := Int.mul_tdiv_add_tmod h 2; omega))⟩
theorem num_flt {h : Int} (g : halfB h = true) (o : ¬ h.tmod 2 = 0) : halfBits h = hb h := by
  obtain ⟨h1, h2, h3⟩ := half_bounds g
  exact halfBits_hb (h3 o).1 (h3 o).2 (by rintro rfl; exact o rfl)

set_option maxHeartbeats 2000000 in
theorem compare_any {a : V} (ga : Good a) : ∀ (_ : Small a) {b : V} (_ : Good b) (_ : Small b) (w0 : World) (B : Nat) (S S' : Nat → Prop) (x y : Value), RepJ w0 S (toJ a) x → (∀ k, S k → k < B) → RepJ w0 S' (toJ b) y → (∀ k, S' k → k < B) → CmpAt w0 B x y (cmpV a b) := by
  induction ga with
  | @mk k h t l ks vs shape half valid list rise vkeys vals ihl ihv =>
  intro sm b gb sm' w0 B S S' x y hx hS hy hS' w hbel hB
  obtain ⟨k', h', t', l', ks', vs'⟩ := b
  obtain ⟨shape', half', _, list', rise', _, vals'⟩ := gb.all
  obtain ⟨p1, p2, p3, p4, p5, p6, p7, p8⟩ := shape_plain shape
  obtain ⟨q1, q2, q3, q4, q5, q6, q7, q8⟩ := shape_plain shape'
  have dd := compare_disp hx hy (cmpV (.mk k h t l ks vs) (.mk k' h' t' l' ks' vs')) w
  refine dd ?_
  clear dd
  cases sm with
  | mk hl hks hvs sl sv =>
  cases sm' with
  | mk hl' hks' hvs' sl' sv' =>
  by_cases ek : k = k'
  · subst ek
    rcases (show k = 0 ∨ k = 1 ∨ k = 2 ∨ k = 3 ∨ k = 4 ∨ k = 5 ∨ k = 6 by omega) with rfl | rfl | rfl | rfl | rfl | rfl | rfl
    · unfold toJ cmpV
      simp only [if_true]
      exact rfl
    · unfold toJ cmpV
      exact rfl
    · unfold toJ cmpV
      exact rfl
    · obtain ⟨r1, r2, _⟩ := half_bounds half
      obtain ⟨r3, r4, _⟩ := half_bounds half'
      have ec : cmpV (.mk 3 h t l ks vs) (.mk 3 h' t' l' ks' vs') = signI (h - h') := by
        simp only [cmpV]
        rw [wrap_sub_zero ⟨r1, r2⟩ ⟨r3, r4⟩]
        simp
      rw [ec]
      have cf := cmpf_hb h h' (fitsH_half half) (fitsH_half half') w
      have cf' : Calls Tryz.prog 90 #[.float .f64 (hb h), .float .f64 (hb h')] w (IntP w (signI (h - h'))) := cf.mono fun _ _ ⟨e1, e2⟩ => ⟨e1, e2 ▸ Below.refl _ _⟩
      unfold toJ
      simp only [show ¬ ((3 : Int) = 0) by decide, show ¬ ((3 : Int) = 1) by decide, show ¬ ((3 : Int) = 2) by decide, if_false, if_true]
      by_cases o : h.tmod 2 = 0 <;> by_cases o' : h'.tmod 2 = 0
      · rw [if_pos o, if_pos o']
        have e : 2 * h.tdiv 2 = h := by have := Int.mul_tdiv_add_tmod h 2; omega
        have e' : 2 * h'.tdiv 2 = h' := by have := Int.mul_tdiv_add_tmod h' 2; omega
        show signI (h - h') = signI (h.tdiv 2 - h'.tdiv 2)
        rw [← signI_two (h.tdiv 2 - h'.tdiv 2)]
        congr 1
        omega
      · rw [if_pos o, if_neg o', num_flt half' o']
        show Calls _ _ #[.float .f64 (floatOfInt .f64 (h.tdiv 2)), _] _ _
        rw [num_hb o]
        exact cf'
      · rw [if_neg o, if_pos o', num_flt half o]
        show Calls _ _ #[_, .float .f64 (floatOfInt .f64 (h'.tdiv 2))] _ _
        rw [num_hb o']
        exact cf'
      · rw [if_neg o, if_neg o', num_flt half o, num_flt half' o']
        exact cf'
    · unfold toJ cmpV
      simp
      exact rfl
    · have ec : cmpV (.mk 5 h t l ks vs) (.mk 5 h' t' l' ks' vs') = signI (cmpL l l') := by simp [cmpV]
      rw [ec]
      unfold toJ at hx hy ⊢
      simp only [show ¬ ((5 : Int) = 0) by decide, show ¬ ((5 : Int) = 1) by decide, show ¬ ((5 : Int) = 2) by decide, show ¬ ((5 : Int) = 3) by decide, show ¬ ((5 : Int) = 4) by decide, if_false, if_true] at hx hy ⊢
      generalize hm : toJL l = m at hx ⊢
      generalize hm' : toJL l' = m' at hy ⊢
      have hml : m.length = l.length := by rw [← hm]; exact toJL_len l
      have hml' : m'.length = l'.length := by rw [← hm']; exact toJL_len l'
      cases hx with
      | @arr _ _ a1 c1 f1 b1 o1 N1 F1 hlm1 hc1 ca1 own1 sub1 dis1 ra1 =>
      cases hy with
      | @arr _ _ a2 c2 f2 b2 o2 N2 F2 hlm2 hc2 ca2 own2 sub2 dis2 ra2 =>
      rintro _ _ _ _ _ _ e1 e2
      cases e1
      cases e2
      have hR1 : ∀ i (hi : i < l.length), RepJ w0 (F1 i) (toJ l[i]) (f1 (o1 + i)) := fun i hi => by
        have := ra1 i (by omega)
        subst hm
        rw [toJL_get l i hi] at this
        exact this
      have hR2 : ∀ i (hi : i < l'.length), RepJ w0 (F2 i) (toJ l'[i]) (f2 (o2 + i)) := fun i hi => by
        have := ra2 i (by omega)
        subst hm'
        rw [toJL_get l' i hi] at this
        exact this
      rw [hml, hml']
      refine arrs_of w0 B l.length l'.length a1 a2 c1 c2 (fun i => f1 (o1 + i)) (fun i => f2 (o2 + i)) (fun h0 => ?_) (fun h0 => ?_) (fun i hi => ?_) (fun i hi => ?_) _ _ (fun i h1 h2 => ?_) (list_firsts l l') (by omega) w hbel hB
      · obtain ⟨e1, e2, e3, e4⟩ := ca1 (by omega)
        exact ⟨b1, o1, e1, hS b1 e2, fun i hi => e3.cell (by omega)⟩
      · obtain ⟨e1, e2, e3, e4⟩ := ca2 (by omega)
        exact ⟨b2, o2, e1, hS' b2 e2, fun i hi => e3.cell (by omega)⟩
      · rcases (hR1 i hi).form with e | ⟨_, _, e⟩ <;> rw [e] <;> rfl
      · rcases (hR2 i hi).form with e | ⟨_, _, e⟩ <;> rw [e] <;> rfl
      · rw [cmpAtL_at l l' i h1 h2]
        exact ihl i h1 (sl i h1) (list' i h2) (sl' i h2) w0 B (F1 i) (F2 i) _ _ (hR1 i h1) (fun q hq => hS q (sub1 i q (by omega) hq)) (hR2 i h2) (fun q hq => hS' q (sub2 i q (by omega) hq))
    · have ec : cmpV (.mk 6 h t l ks vs) (.mk 6 h' t' l' ks' vs') = MRest (signI (keysC ks ks')) (fun n => signI (cmpL (vs.drop n) (vs'.drop n))) := by
        simp only [cmpV, MRest, List.drop_zero]
        simp [signI_zero]
      rw [ec]
      unfold toJ at hx hy ⊢
      simp only [show ¬ ((6 : Int) = 0) by decide, show ¬ ((6 : Int) = 1) by decide, show ¬ ((6 : Int) = 2) by decide, show ¬ ((6 : Int) = 3) by decide, show ¬ ((6 : Int) = 4) by decide, show ¬ ((6 : Int) = 5) by decide, if_false] at hx hy ⊢
      generalize hm : toJM ks vs = m at hx ⊢
      generalize hm' : toJM ks' vs' = m' at hy ⊢
      have hml : m.length = ks.length := by rw [← hm]; exact toJM_len ks vs p8
      have hml' : m'.length = ks'.length := by rw [← hm']; exact toJM_len ks' vs' q8
      cases hx with
      | @obj _ _ r1 E1 F1 hr1 hmm1 hs1 own1 sub1 dis1 rm1 =>
      cases hy with
      | @obj _ _ r2 E2 F2 hr2 hmm2 hs2 own2 sub2 dis2 rm2 =>
      rintro _ _ e1 e2
      cases e1
      cases e2
      have hR1 : ∀ i (hi : i < ks.length), RepJ w0 (F1 i) (toJ (vs[i]'(by omega))) (E1 i) := fun i hi => by
        have := rm1 i (by omega)
        subst hm
        rw [toJM_get ks vs p8 i hi] at this
        exact this
      have hR2 : ∀ i (hi : i < ks'.length), RepJ w0 (F2 i) (toJ (vs'[i]'(by omega))) (E2 i) := fun i hi => by
        have := rm2 i (by omega)
        subst hm'
        rw [toJM_get ks' vs' q8 i hi] at this
        exact this
      have hsz1 : ∀ s ∈ ks, s.size ≤ 140737488351232 := fun s hs' => by
        obtain ⟨i, hi, rfl⟩ := List.mem_iff_getElem.1 hs'
        have := hs1 _ (List.getElem_mem (show i < m.length by omega))
        subst hm
        rw [toJM_get ks vs p8 i hi] at this
        exact this
      have hsz2 : ∀ s ∈ ks', s.size ≤ 140737488351232 := fun s hs' => by
        obtain ⟨i, hi, rfl⟩ := List.mem_iff_getElem.1 hs'
        have := hs2 _ (List.getElem_mem (show i < m'.length by omega))
        subst hm'
        rw [toJM_get ks' vs' q8 i hi] at this
        exact this
      by_cases hke : ks = ks'
      · subst hke
        refine maps_of w0 B r1 r2 ks ks vs vs' E1 E2 (by rw [hm]; exact hmm1) (by rw [hm']; exact hmm2) (hS r1 hr1) (hS' r2 hr2) p8 q8 rise rise' (by omega) (by omega) hsz1 hsz2 (cmpAtL vs vs') _ (fun _ i hi => ?_) ?_ w hbel hB
        · rw [cmpAtL_at vs vs' i (by omega) (by omega)]
          exact ihv i (by omega) (sv i (by omega)) (vals' i (by omega)) (sv' i (by omega)) w0 B (F1 i) (F2 i) _ _ (hR1 i hi) (fun q hq => hS q (sub1 i q (by omega) hq)) (hR2 i hi) (fun q hq => hS' q (sub2 i q (by omega) hq))
        · have := list_firsts vs vs'
          rw [← p8, ← q8] at this
          exact this
      · have ne : ¬ signI (keysC ks ks') = 0 := fun e => hke (keysC_zero.1 (signI_zero.1 e))
        have e3 : MRest (signI (keysC ks ks')) (fun n => signI (cmpL (vs.drop n) (vs'.drop n))) = MRest (signI (keysC ks ks')) (fun _ => 0) := by unfold MRest; rw [if_neg ne, if_neg ne]
        rw [e3]
        refine maps_of w0 B r1 r2 ks ks' vs vs' E1 E2 (by rw [hm]; exact hmm1) (by rw [hm']; exact hmm2) (hS r1 hr1) (hS' r2 hr2) p8 q8 rise rise' (by omega) (by omega) hsz1 hsz2 (fun _ => 0) _ (fun e => absurd e hke) ⟨fun n _ _ => ?_, fun n _ _ _ => ?_⟩ w hbel hB
        · simp
        · rw [Int.sub_self]; rfl
  · have := disp_else (toJ_whole (.mk k h t l ks vs)) (toJ_whole (.mk k' h' t' l' ks' vs')) (by rw [kindJ_toJ ⟨p1, p2⟩, kindJ_toJ ⟨q1, q2⟩]; exact ek) x y w
    rw [kindJ_toJ ⟨p1, p2⟩, kindJ_toJ ⟨q1, q2⟩] at this
    have e : cmpV (.mk k h t l ks vs) (.mk k' h' t' l' ks' vs') = signI (k - k') := by
      simp only [cmpV]
      rw [if_pos ek, wrap_sub_zero (by omega) (by omega)]
    rw [e]
    exact this

end Go.Proofs.YtmcahfcihhddjaaGreatDoor
