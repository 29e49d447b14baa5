/- Contracts of spec.sign, texts, keys, lists, Cmp, Same, at values that read. -/
/- Contracts of spec.place, Get, Has, Whole. -/
import Derived.Test.YtiphcojcdegnkaaGreatDoorM01
import Derived.Test.YtiphcojcdegnkaaGreatDoorM06
import Derived.WalkLawsBesides
import Derived.BigQuiet
namespace Go.Proofs.YtiphcojcdegnkaaGreatDoor
open Go Go.RowKit

theorem sign_any (n : Int) (w : World) : Calls Tryz.prog 42 #[.int .i64 n] w fun e w' => e = .returned (.int .i64 (signI n)) ∧ w' = w := by
  by_cases h : n < 0
  · go_enter Tryz.func42, Tryz.ntmps42
    go_wp2_with fail
    go_ret
    exact ⟨by simp [signI, h], rfl⟩
  · by_cases h' : 0 < n
    · go_enter Tryz.func42, Tryz.ntmps42
      go_wp2_with fail
      go_ret
      exact ⟨by simp [signI, h, h'], rfl⟩
    · go_enter Tryz.func42, Tryz.ntmps42
      go_wp2_with fail
      go_ret
      exact ⟨by unfold signI; rw [if_neg (by omega), if_neg (by omega)]; rfl, rfl⟩

theorem texts_any (a b : ByteArray) (w : World) : Calls Tryz.prog 43 #[.string a, .string b] w fun e w' => e = .returned (.int .i64 (textsC a b)) ∧ w' = w := by
  have hsw : Op.bytesLess a.toList b.toList = false → (a.toList == b.toList) = !Op.bytesLess b.toList a.toList := by
    intro h
    by_cases e : a.toList = b.toList
    · rw [e, bLess_eq]; simp [List.lt_irrefl]
    · have : (a.toList == b.toList) = false := by simpa using e
      rw [this]
      rw [bLess_eq] at h ⊢
      simp only [decide_eq_false_iff_not] at h
      symm
      rw [Bool.not_eq_false', decide_eq_true_eq]
      exact Decidable.byContradiction fun h2 => e (List.le_antisymm (List.not_lt.1 h2) (List.not_lt.1 h))
  cases h : Op.bytesLess a.toList b.toList
  · have hs := hsw h
    cases h' : Op.bytesLess b.toList a.toList
    · have hc : textsC a b = 0 := by unfold textsC; rw [h, h']; rfl
      rw [h'] at hs
      have Hc := Lib.hid hc
      clear hc hsw
      go_enter Tryz.func43, Tryz.ntmps43
      go_wp2_with fail
      go_ret
      exact ⟨by rw [Hc.out]; rfl, rfl⟩
    · have hc : textsC a b = 1 := by unfold textsC; rw [h, h']; rfl
      rw [h'] at hs
      have Hc := Lib.hid hc
      clear hc hsw
      go_enter Tryz.func43, Tryz.ntmps43
      go_wp2_with fail
      go_ret
      exact ⟨by rw [Hc.out]; rfl, rfl⟩
  · have hc : textsC a b = -1 := by unfold textsC; rw [h]; rfl
    have Hc := Lib.hid hc
    clear hc hsw
    go_enter Tryz.func43, Tryz.ntmps43
    go_wp2_with fail
    go_ret
    exact ⟨by rw [Hc.out]; rfl, rfl⟩

def TwoLoop (w : World) (n1 n2 : Nat) (rest : Nat → Int) (fin : Int) (i : Value) (wr : World) : Prop :=
  ∃ n : Nat, n ≤ n1 ∧ n ≤ n2 ∧ i = .int .i64 (n : Nat) ∧ Below w.heap.size w wr ∧ rest n = fin

def IntP (w : World) (c : Int) (e : Ending) (w' : World) : Prop := e = .returned (.int .i64 c) ∧ Below w.heap.size w w'

set_option maxHeartbeats 1000000 in
set_option maxRecDepth 100000 in
theorem keys_any (w : World) (ks ks' : List ByteArray) (ka ka' : Option Addr) (kc kc' : Nat) (hl : ks.length * 16 ≤ 140737488351232) (hl' : ks'.length * 16 ≤ 140737488351232)
    (ck : 0 < ks.length → ∃ b o, ka = some ⟨b, o, none⟩ ∧ b < w.heap.size ∧ ∀ i (hi : i < ks.length), w.cell? ⟨b, o + i, none⟩ = some (.string ks[i]))
    (ck' : 0 < ks'.length → ∃ b o, ka' = some ⟨b, o, none⟩ ∧ b < w.heap.size ∧ ∀ i (hi : i < ks'.length), w.cell? ⟨b, o + i, none⟩ = some (.string ks'[i])) :
    Calls Tryz.prog 45 #[.slice ka ks.length kc, .slice ka' ks'.length kc'] w (IntP w (keysC ks ks')) := by
  have Hck := Lib.hid ck; clear ck
  have Hck' := Lib.hid ck'; clear ck'
  go_enter Tryz.func45, Tryz.ntmps45
  go_wp2_with fail
  go_loopw [5] (fun i wr => TwoLoop w ks.length ks'.length (fun n => keysC (ks.drop n) (ks'.drop n)) (keysC ks ks') i wr) (fun i _ => ks.length - (intOf i).toNat)
  case atStart => exact ⟨0, Nat.zero_le _, Nat.zero_le _, rfl, Below.refl _ _, rfl⟩
  case round =>
    obtain ⟨n, hn, hn', rfl, hb, hfin⟩ := hrel
    have Hfin := Lib.hid hfin; clear hfin
    by_cases h1 : n < ks.length
    · by_cases h2 : n < ks'.length
      · obtain ⟨b1, o1, rfl, hb1, c1⟩ := Hck.out (by omega)
        obtain ⟨b2, o2, rfl, hb2, c2⟩ := Hck'.out (by omega)
        have y1 : wr.cell? ⟨b1, o1 + n, none⟩ = some (.string ks[n]) := (hb.cell (p := ⟨b1, o1 + n, none⟩) hb1).trans (c1 n h1)
        have y2 : wr.cell? ⟨b2, o2 + n, none⟩ = some (.string ks'[n]) := (hb.cell (p := ⟨b2, o2 + n, none⟩) hb2).trans (c2 n h2)
        have hd := keysC_drop ks ks' n h1 h2
        have Hd := Lib.hid (Hfin.out.symm.trans hd); clear hd
        have t1 : (n : Int) < (ks.length : Int) := by omega
        have t2 : (n : Int) < (ks'.length : Int) := by omega
        have t3 : (0 : Int) ≤ (n : Int) := by omega
        clear c1 c2
        generalize ks[n] = x at y1 Hd
        generalize ks'[n] = y at y2 Hd
        go_wp2_with fail
        refine wp_region_tail 8 (by kernel_rfl) (by kernel_rfl) ?_
        simp only [List.take_succ_cons, List.take_zero, List.drop_succ_cons, List.drop_zero]
        repeat (go_big_quiet_step (fail))
        refine wpQuiet_nil ?_
        clear t1 t2 t3
        go_wp2_with fail
        refine (texts_any _ _ _).mono ?_
        rintro e w2 ⟨rfl, rfl⟩
        generalize textsC x y = c at Hd
        by_cases hc : c = 0
        · have Hd2 := Lib.hid (Hd.out.trans (if_pos hc)); clear Hd
          subst hc
          go_wp2_with fail
          go_roundw
          case rel => exact ⟨n + 1, by omega, by omega, by go_num, hb.drew, Hd2.out.symm⟩
          case measure => simp [intOf]; omega
        · have Hd2 := Lib.hid (Hd.out.trans (if_neg hc)); clear Hd
          have tc : (c != 0) = true := by simpa using hc
          clear hc
          go_wp2_with fail
          go_ret
          exact ⟨by rw [Hd2.out]; rfl, hb.drew⟩
      · have hd := keysC_end ks ks' n (by omega) hn hn'
        have Hd := Lib.hid (Hfin.out.symm.trans hd); clear hd
        go_wp2_with fail
        go_ret
        exact ⟨by rw [Hd.out]; rfl, hb⟩
    · have hd := keysC_end ks ks' n (by omega) hn hn'
      have Hd := Lib.hid (Hfin.out.symm.trans hd); clear hd
      go_wp2_with fail
      go_ret
      exact ⟨by rw [Hd.out]; rfl, hb⟩

def CmpOK (w0 : World) (B : Nat) (a b : V) (ca cb : List Value) : Prop :=
  ∀ w, Below B w0 w → B ≤ w.heap.size → Calls Tryz.prog 27 #[.agg ca.toArray, .agg cb.toArray] w (IntP w (cmpV a b))

set_option maxHeartbeats 2000000 in
set_option maxRecDepth 100000 in
theorem lists_of (w0 : World) (B : Nat) (l l' : List V) (la la' : Option Addr) (lc lc' : Nat) (C C' : Nat → List Value) (hl : l.length * 104 ≤ 140737488351232) (hl' : l'.length * 104 ≤ 140737488351232)
    (cl : 0 < l.length → ∃ b o, la = some ⟨b, o, none⟩ ∧ b < B ∧ ∀ i, i < l.length → CellsAt w0 b (o + i * 6) (C i)) (rl : ∀ i (hi : i < l.length), RepV w0 B l[i] (C i))
    (cl' : 0 < l'.length → ∃ b o, la' = some ⟨b, o, none⟩ ∧ b < B ∧ ∀ i, i < l'.length → CellsAt w0 b (o + i * 6) (C' i)) (rl' : ∀ i (hi : i < l'.length), RepV w0 B l'[i] (C' i))
    (ih : ∀ i (hi : i < l.length) j (hj : j < l'.length), CmpOK w0 B l[i] l'[j] (C i) (C' j)) (w : World) (hbel : Below B w0 w) (hB : B ≤ w.heap.size) :
    Calls Tryz.prog 44 #[.slice la l.length lc, .slice la' l'.length lc'] w (IntP w (cmpL l l')) := by
  have Hcl := Lib.hid cl; clear cl
  have Hcl' := Lib.hid cl'; clear cl'
  have Hih := Lib.hid ih; clear ih
  have Hbel := Lib.hid hbel; clear hbel
  go_enter Tryz.func44, Tryz.ntmps44
  go_wp2_with fail
  go_loopw [5] (fun i wr => TwoLoop w l.length l'.length (fun n => cmpL (l.drop n) (l'.drop n)) (cmpL l l') i wr) (fun i _ => l.length - (intOf i).toNat)
  case atStart => exact ⟨0, Nat.zero_le _, Nat.zero_le _, rfl, Below.refl _ _, rfl⟩
  case round =>
    obtain ⟨n, hn, hn', rfl, hb, hfin⟩ := hrel
    have Hfin := Lib.hid hfin; clear hfin
    by_cases h1 : n < l.length
    · by_cases h2 : n < l'.length
      · obtain ⟨b1, o1, rfl, hb1, c1⟩ := Hcl.out (by omega)
        obtain ⟨b2, o2, rfl, hb2, c2⟩ := Hcl'.out (by omega)
        have hb0 : Below B w0 wr := Hbel.out.trans (hb.mono hB)
        have cc := (c1 n h1).below hb0 hb1
        have cc' := (c2 n h2).below hb0 hb2
        have ih := Hih.out n h1 n h2 wr.drew hb0.drew (by have := hb.size; show B ≤ wr.heap.size; omega)
        obtain ⟨k1, q1, t1, la1, ka1, va1, nl1, cl1, nk1, ck1, nv1, cv1, hC⟩ := (rl n h1).shape
        obtain ⟨k2, q2, t2, la2, ka2, va2, nl2, cl2, nk2, ck2, nv2, cv2, hC'⟩ := (rl' n h2).shape
        rw [hC] at cc ih
        rw [hC'] at cc' ih
        obtain ⟨y0, y1, y2, y3, y4, y5⟩ := cells6 cc
        obtain ⟨z0, z1, z2, z3, z4, z5⟩ := cells6 cc'
        have HI := Lib.hid ih
        have hd := cmpL_drop l l' n h1 h2
        have Hd := Lib.hid (Hfin.out.symm.trans hd); clear hd
        have u1 : (n : Int) < (l.length : Int) := by omega
        have u2 : (n : Int) < (l'.length : Int) := by omega
        have u3 : (0 : Int) ≤ (n : Int) := by omega
        clear c1 c2 cc cc' ih hC hC' hb0
        go_wp2_with fail
        refine wp_region_tail 8 (by kernel_rfl) (by kernel_rfl) ?_
        simp only [List.take_succ_cons, List.take_zero, List.drop_succ_cons, List.drop_zero]
        repeat (go_big_quiet_step (fail))
        refine wpQuiet_nil ?_
        clear u1 u2 u3 y0 y1 y2 y3 y4 y5 z0 z1 z2 z3 z4 z5
        go_wp2_with fail
        refine HI.out.mono ?_
        rintro e w2 ⟨rfl, hb3⟩
        have hb4 : Below w.heap.size w w2 := hb.drew.trans (hb3.mono hb.size)
        clear HI
        generalize cmpV l[n] l'[n] = c at Hd
        by_cases hc : c = 0
        · have Hd2 := Lib.hid (Hd.out.trans (if_pos hc)); clear Hd
          subst hc
          go_wp2_with fail
          go_roundw
          case rel => exact ⟨n + 1, by omega, by omega, by go_num, hb4, Hd2.out.symm⟩
          case measure => simp [intOf]; omega
        · have Hd2 := Lib.hid (Hd.out.trans (if_neg hc)); clear Hd
          have tc : (c != 0) = true := by simpa using hc
          clear hc
          go_wp2_with fail
          go_ret
          exact ⟨by rw [Hd2.out]; rfl, hb4⟩
      · have hd := cmpL_end l l' n (by omega) hn hn'
        have Hd := Lib.hid (Hfin.out.symm.trans hd); clear hd
        go_wp2_with fail
        go_ret
        exact ⟨by rw [Hd.out]; rfl, hb⟩
    · have hd := cmpL_end l l' n (by omega) hn hn'
      have Hd := Lib.hid (Hfin.out.symm.trans hd); clear hd
      go_wp2_with fail
      go_ret
      exact ⟨by rw [Hd.out]; rfl, hb⟩

set_option maxHeartbeats 4000000 in
set_option maxRecDepth 100000 in
theorem cmp_any (w0 : World) (B : Nat) (a : V) (ca : List Value) (ha : RepV w0 B a ca) : ∀ (b : V) (cb : List Value), RepV w0 B b cb → CmpOK w0 B a b ca cb := by
  induction ha with
  | @mk k h t l ks vs la ka va lc kc vc C D hk hh ht hl hks hvs hs cl rl ck cv rv _ ihl ihv =>
  intro b cb hb
  cases hb with
  | @mk k' h' t' l' ks' vs' la' ka' va' lc' kc' vc' C' D' hk' hh' ht' hl' hks' hvs' hs' cl' rl' ck' cv' rv' =>
  intro w hbel hB
  have hbW := below_alloc2 w (.cells #[.int .i64 k, .int .i64 h, .string t, .slice la l.length lc, .slice ka ks.length kc, .slice va vs.length vc] 26)
    (.cells #[.int .i64 k', .int .i64 h', .string t', .slice la' l'.length lc', .slice ka' ks'.length kc', .slice va' vs'.length vc'] 26)
  have hsW := size_alloc2 w (.cells #[.int .i64 k, .int .i64 h, .string t, .slice la l.length lc, .slice ka ks.length kc, .slice va vs.length vc] 26)
    (.cells #[.int .i64 k', .int .i64 h', .string t', .slice la' l'.length lc', .slice ka' ks'.length kc', .slice va' vs'.length vc'] 26)
  have L := Lib.hid fun w' h1 h2 => lists_of w0 B l l' la la' lc lc' C C' hl hl' cl rl cl' rl' (fun i hi j hj => ihl i hi _ _ (rl' j hj)) w' h1 h2
  have M := Lib.hid fun w' h1 h2 => lists_of w0 B vs vs' va va' vc vc' D D' hvs hvs' cv rv cv' rv' (fun i hi j hj => ihv i hi _ _ (rv' j hj)) w' h1 h2
  have K := Lib.hid fun (w' : World) (h1 : Below B w0 w') (h2 : B ≤ w'.heap.size) => keys_any w' ks ks' ka ka' kc kc' hks hks'
    (fun h0 => by obtain ⟨b, o, e, hb, hc⟩ := ck h0; exact ⟨b, o, e, by omega, fun i hi => (h1.cell (p := ⟨b, o + i, none⟩) hb).trans (hc i hi)⟩)
    (fun h0 => by obtain ⟨b, o, e, hb, hc⟩ := ck' h0; exact ⟨b, o, e, by omega, fun i hi => (h1.cell (p := ⟨b, o + i, none⟩) hb).trans (hc i hi)⟩)
  have Hbel := Lib.hid hbel
  clear ihl ihv cl rl ck cv rv cl' rl' ck' cv' rv' hs hs' hk hh ht hl hks hvs hk' hh' ht' hl' hks' hvs' hbel
  by_cases ek : k = k'
  · have tk : (k != k') = false := by simp [ek]
    have ev : cmpV (.mk k h t l ks vs) (.mk k' h' t' l' ks' vs') = if k = 3 then signI (wrap64 (h - h')) else if k = 4 then textsC t t'
      else if k = 5 then signI (cmpL l l') else if k = 6 then (if keysC ks ks' = 0 then signI (cmpL vs vs') else signI (keysC ks ks')) else 0 := by simp only [cmpV]; rw [if_neg (by simpa using ek)]
    clear ek
    by_cases k3 : k = 3
    · have Hev := Lib.hid (ev.trans (if_pos k3)); clear ev
      subst k3
      go_enter Tryz.func27, Tryz.ntmps27
      go_wp2_with fail
      refine (sign_any _ _).mono ?_
      rintro e w2 ⟨rfl, rfl⟩
      go_wp2_with fail
      go_ret
      exact ⟨by rw [Hev.out]; rfl, hbW⟩
    have ev := ev.trans (if_neg k3)
    have t3 : (k == 3) = false := by simpa using k3
    clear k3
    by_cases k4 : k = 4
    · have Hev := Lib.hid (ev.trans (if_pos k4)); clear ev
      subst k4
      go_enter Tryz.func27, Tryz.ntmps27
      go_wp2_with fail
      refine (texts_any _ _ _).mono ?_
      rintro e w2 ⟨rfl, rfl⟩
      go_wp2_with fail
      go_ret
      exact ⟨by rw [Hev.out]; rfl, hbW⟩
    have ev := ev.trans (if_neg k4)
    have t4 : (k == 4) = false := by simpa using k4
    clear k4
    by_cases k5 : k = 5
    · have Hev := Lib.hid (ev.trans (if_pos k5)); clear ev
      subst k5
      go_enter Tryz.func27, Tryz.ntmps27
      go_wp2_with fail
      refine (L.out _ (Hbel.out.trans (hbW.mono hB)) (by rw [hsW]; omega)).mono ?_
      rintro e w2 ⟨rfl, hb2⟩
      go_wp2_with fail
      refine (sign_any _ _).mono ?_
      rintro e w3 ⟨rfl, rfl⟩
      go_wp2_with fail
      go_ret
      exact ⟨by rw [Hev.out]; rfl, below_next hbW hb2⟩
    have ev := ev.trans (if_neg k5)
    have t5 : (k == 5) = false := by simpa using k5
    clear k5
    by_cases k6 : k = 6
    · have ev := ev.trans (if_pos k6)
      subst k6
      by_cases ec : keysC ks ks' = 0
      · have Hev := Lib.hid (ev.trans (if_pos ec)); clear ev
        have Hec := Lib.hid ec; clear ec
        go_enter Tryz.func27, Tryz.ntmps27
        go_wp2_with fail
        refine (K.out _ (Hbel.out.trans (hbW.mono hB)) (by rw [hsW]; omega)).mono ?_
        rintro e w2 ⟨rfl, hb2⟩
        rw [Hec.out]
        have hb3 := below_next hbW hb2
        obtain ⟨a0, a1, a2, a3, a4, a5⟩ := of_block6 ((hb2.block w.heap.size (by rw [hsW]; omega)).trans (at_alloc20 _ _ _))
        obtain ⟨b0, b1, b2, b3, b4, b5⟩ := of_block6 ((hb2.block (w.heap.size + 1) (by rw [hsW]; omega)).trans (at_alloc2 _ _ _))
        have hs2 : B ≤ w2.heap.size := by have := hb2.size; rw [hsW] at this; omega
        go_wp2_with fail
        refine (M.out _ (Hbel.out.trans (hb3.mono hB)) hs2).mono ?_
        rintro e w3 ⟨rfl, hb4⟩
        go_wp2_with fail
        refine (sign_any _ _).mono ?_
        rintro e w4 ⟨rfl, rfl⟩
        go_wp2_with fail
        go_ret
        exact ⟨by rw [Hev.out]; rfl, below_next hb3 hb4⟩
      · have Hev := Lib.hid (ev.trans (if_neg ec)); clear ev
        have Hec := Lib.hid ec; clear ec
        go_enter Tryz.func27, Tryz.ntmps27
        go_wp2_with fail
        refine (K.out _ (Hbel.out.trans (hbW.mono hB)) (by rw [hsW]; omega)).mono ?_
        rintro e w2 ⟨rfl, hb2⟩
        have tc : (keysC ks ks' != 0) = true := by simpa using Hec.out
        clear Hec K
        generalize keysC ks ks' = c at tc Hev ⊢
        go_wp2_with fail
        refine (sign_any _ _).mono ?_
        rintro e w4 ⟨rfl, rfl⟩
        go_wp2_with fail
        go_ret
        exact ⟨by rw [Hev.out]; rfl, below_next hbW hb2⟩
    have Hev := Lib.hid (ev.trans (if_neg k6)); clear ev
    have t6 : (k == 6) = false := by simpa using k6
    clear k6
    go_enter Tryz.func27, Tryz.ntmps27
    go_wp2_with fail
    go_ret
    exact ⟨by rw [Hev.out]; rfl, hbW⟩
  · have tk : (k != k') = true := by simpa using ek
    have Hev := Lib.hid (show cmpV (.mk k h t l ks vs) (.mk k' h' t' l' ks' vs') = signI (wrap64 (k - k')) by simp only [cmpV]; rw [if_pos ek])
    clear ek
    go_enter Tryz.func27, Tryz.ntmps27
    go_wp2_with fail
    refine (sign_any _ _).mono ?_
    rintro e w2 ⟨rfl, rfl⟩
    go_wp2_with fail
    go_ret
    exact ⟨by rw [Hev.out]; rfl, hbW⟩

/-- Two good values are the same. -/
def sameB (a b : V) : Bool := decide (cmpV a b = 0)

def BoolP (w : World) (x : Bool) (e : Ending) (w' : World) : Prop := e = .returned (.bool x) ∧ Below w.heap.size w w'

set_option maxHeartbeats 1000000 in
set_option maxRecDepth 100000 in
theorem same_any (w0 : World) (B : Nat) (a b : V) (ca cb : List Value) (ha : RepV w0 B a ca) (hb : RepV w0 B b cb) (w : World) (hbel : Below B w0 w) (hB : B ≤ w.heap.size) :
    Calls Tryz.prog 17 #[.agg ca.toArray, .agg cb.toArray] w (BoolP w (sameB a b)) := by
  have H := Lib.hid (cmp_any w0 B a ca ha b cb hb)
  obtain ⟨k, h, t, la, ka, va, nl, cl, nk, ck, nv, cv, rfl⟩ := ha.shape
  obtain ⟨k', h', t', la', ka', va', nl', cl', nk', ck', nv', cv', rfl⟩ := hb.shape
  have hbW := below_alloc2 w (.cells #[.int .i64 k, .int .i64 h, .string t, .slice la nl cl, .slice ka nk ck, .slice va nv cv] 26)
    (.cells #[.int .i64 k', .int .i64 h', .string t', .slice la' nl' cl', .slice ka' nk' ck', .slice va' nv' cv'] 26)
  have hsW := size_alloc2 w (.cells #[.int .i64 k, .int .i64 h, .string t, .slice la nl cl, .slice ka nk ck, .slice va nv cv] 26)
    (.cells #[.int .i64 k', .int .i64 h', .string t', .slice la' nl' cl', .slice ka' nk' ck', .slice va' nv' cv'] 26)
  have Hbel := Lib.hid hbel
  clear ha hb hbel
  go_enter Tryz.func17, Tryz.ntmps17
  go_wp2_with fail
  refine (H.out _ (Hbel.out.trans (hbW.mono hB)) (by rw [hsW]; omega)).mono ?_
  rintro e w2 ⟨rfl, hb2⟩
  generalize hc : cmpV a b = c
  have Hc := Lib.hid hc; clear hc
  go_wp2_with fail
  go_ret
  exact ⟨by rw [show sameB a b = (c == 0) from by unfold sameB; rw [Hc.out]; rfl]; rfl, below_next hbW hb2⟩

theorem sameB_iff {a b : V} (ga : Good a) (gb : Good b) : sameB a b = true ↔ a = b := by
  unfold sameB
  rw [decide_eq_true_eq, cmpV_zero ga gb]

end Go.Proofs.YtiphcojcdegnkaaGreatDoor

namespace Go.Proofs.YtiphcojcdegnkaaGreatDoor
open Go Go.RowKit Go.Maps Go.Deep

def PlaceLoop (W : World) (ks : List ByteArray) (x : ByteArray) (i : Value) (wr : World) : Prop := ∃ n : Nat, n ≤ placeI ks x ∧ i = .int .i64 (n : Nat) ∧ Below W.heap.size W wr

set_option maxHeartbeats 2000000 in
set_option maxRecDepth 100000 in
theorem place_any (w : World) (k h : Int) (t : ByteArray) (la ka va : Option Addr) (nl cl nv cv kc : Nat) (ks : List ByteArray) (x : ByteArray) (hl : ks.length * 16 ≤ 140737488351232)
    (ck : 0 < ks.length → ∃ b o, ka = some ⟨b, o, none⟩ ∧ b < w.heap.size ∧ ∀ i (hi : i < ks.length), w.cell? ⟨b, o + i, none⟩ = some (.string ks[i])) :
    Calls Tryz.prog 41 #[.agg #[.int .i64 k, .int .i64 h, .string t, .slice la nl cl, .slice ka ks.length kc, .slice va nv cv], .string x] w
      fun e w' => e = .returned (.tuple #[.int .i64 (placeI ks x : Nat), .bool (hasK ks x)]) ∧ Below w.heap.size w w' := by
  have Hck := Lib.hid ck; clear ck
  obtain ⟨W, hW⟩ : ∃ W, W = w.alloc (.cells #[.int .i64 k, .int .i64 h, .string t, .slice la nl cl, .slice ka ks.length kc, .slice va nv cv] 26) := ⟨_, rfl⟩
  have hWs : W.heap.size = w.heap.size + 1 := by rw [hW]; simp
  have hbW : Below w.heap.size w W := by rw [hW]; exact below_alloc1 _ _
  have hat : W.heap[w.heap.size]? = some (.cells #[.int .i64 k, .int .i64 h, .string t, .slice la nl cl, .slice ka ks.length kc, .slice va nv cv] 26) := by rw [hW]; exact at_alloc _ _
  have Hat := Lib.hid hat; clear hat
  have hle := placeI_le ks x
  go_enter Tryz.func41, Tryz.ntmps41
  go_wp2_with fail
  rw [← hW]
  have HW := Lib.hid hW; clear hW
  go_loopw [6] (fun i wr => PlaceLoop W ks x i wr) (fun i _ => ks.length - (intOf i).toNat)
  case atStart => exact ⟨0, Nat.zero_le _, rfl, Below.refl _ _⟩
  case round =>
    obtain ⟨n, hn, rfl, hb⟩ := hrel
    have hbw : Below w.heap.size w wr := hbW.trans (hb.mono (by omega))
    obtain ⟨a0, a1, a2, a3, a4, a5⟩ := of_block6 ((hb.block w.heap.size (by omega)).trans Hat.out)
    by_cases hn' : n < ks.length
    · obtain ⟨kb, ko, rfl, hkb, hcel⟩ := Hck.out (by omega)
      have y := (hbw.cell (p := ⟨kb, ko + n, none⟩) hkb).trans (hcel n hn')
      have u1 : (n : Int) < (ks.length : Int) := by omega
      have u2 : (0 : Int) ≤ (n : Int) := by omega
      cases hlt : Op.bytesLess ks[n].toList x.toList with
      | true =>
        have hn2 : n + 1 ≤ placeI ks x := by
          rcases Nat.lt_or_ge n (placeI ks x) with h1 | h1
          · exact h1
          · have e : placeI ks x = n := by omega
            have := placeI_not (ks := ks) (x := x) (by omega)
            simp only [e] at this
            rw [this] at hlt
            cases hlt
        have Hn2 := Lib.hid hn2; clear hn2
        clear hcel
        generalize ks[n] = y0 at *
        go_wp2_with fail
        go_roundw
        case rel => exact ⟨n + 1, Hn2.out, by go_num, hb⟩
        case measure => simp [intOf]; omega
      | false =>
        have e : placeI ks x = n := by
          rcases Nat.lt_or_ge n (placeI ks x) with h1 | h1
          · have := placeI_less h1
            rw [this] at hlt
            cases hlt
          · omega
        have hk : hasK ks x = (ks[n].toList == x.toList) := by
          unfold hasK
          rw [e, List.getElem?_eq_getElem hn']
        have Hr := Lib.hid (show Ending.returned (.tuple #[.int .i64 (placeI ks x : Nat), .bool (hasK ks x)]) = .returned (.tuple #[.int .i64 (n : Nat), .bool (ks[n].toList == x.toList)]) by rw [e, hk])
        clear e hk hcel
        generalize ks[n] = y0 at *
        go_wp2_with fail
        go_quiet (fail)
        go_wp2_with fail
        go_ret2
        exact ⟨by rw [Hr.out]; rfl, hbw.trans ⟨rfl, rfl, rfl, Nat.le_refl _, fun _ _ => rfl⟩⟩
    · have e : placeI ks x = n := by
        rcases Nat.lt_or_ge n (placeI ks x) with h1 | h1
        · omega
        · omega
      have hk : hasK ks x = false := by
        unfold hasK
        rw [e, List.getElem?_eq_none (by omega)]
      have Hr := Lib.hid (show Ending.returned (.tuple #[.int .i64 (placeI ks x : Nat), .bool (hasK ks x)]) = .returned (.tuple #[.int .i64 (n : Nat), .bool false]) by rw [e, hk])
      clear e hk
      have u1 : ¬ ((n : Int) < (ks.length : Int)) := by omega
      go_wp2_with fail
      go_quiet (fail)
      go_wp2_with fail
      go_ret2
      exact ⟨by rw [Hr.out]; rfl, hbw.trans ⟨rfl, rfl, rfl, Nat.le_refl _, fun _ _ => rfl⟩⟩

/-- A value of w0's memory below B, returned. -/
def ValR (w0 : World) (B : Nat) (w : World) (v : V) (e : Ending) (w' : World) : Prop :=
  ∃ (k h : Int) (t : ByteArray) (la ka va : Option Addr) (nl cl nk ck nv cv : Nat), e = .returned (.agg #[.int .i64 k, .int .i64 h, .string t, .slice la nl cl, .slice ka nk ck, .slice va nv cv]) ∧
    RepV w0 B v [.int .i64 k, .int .i64 h, .string t, .slice la nl cl, .slice ka nk ck, .slice va nv cv] ∧ Below w.heap.size w w'

theorem rep_null (w : World) (B : Nat) : RepV w B nullV [.int .i64 0, .int .i64 0, .string ⟨#[]⟩, .slice none 0 0, .slice none 0 0, .slice none 0 0] :=
  .mk (l := []) (ks := []) (vs := []) (fun _ => []) (fun _ => []) (by omega) (by omega) (Nat.zero_le _) (by simp) (by simp) (by simp) (fun s hs => by simp at hs) (fun h => by simp at h) (fun i hi => by simp at hi)
    (fun h => by simp at h) (fun h => by simp at h) (fun i hi => by simp at hi) (Nat.le_refl 0)

theorem getD_of_lt {l : List V} {n : Nat} (h : n < l.length) (d : V) : l.getD n d = l[n] := by
  rw [List.getD_eq_getElem?_getD, List.getElem?_eq_getElem h]; rfl

set_option maxHeartbeats 2000000 in
set_option maxRecDepth 100000 in
theorem get_any (w0 : World) (B : Nat) (v : V) (cs : List Value) (hv : RepV w0 B v cs) (hlen : v.keys.length = v.vals.length) (x : ByteArray) (w : World) (hbel : Below B w0 w) (hB : B ≤ w.heap.size) :
    Calls Tryz.prog 25 #[.agg cs.toArray, .string x] w (ValR w0 B w (getV v.keys v.vals x)) := by
  cases hv with
  | @mk k h t l ks vs la ka va lc kc vc C D hk hh ht hl hks hvs hs cl rl ck cv rv =>
  simp only [V.keys, V.vals] at hlen ⊢
  obtain ⟨W, hW⟩ : ∃ W, W = (w.alloc (.cells #[.int .i64 k, .int .i64 h, .string t, .slice la l.length lc, .slice ka ks.length kc, .slice va vs.length vc] 26)).alloc (.cells #[.int .i64 0, .int .i64 0, .string ⟨#[]⟩, .slice none 0 0, .slice none 0 0, .slice none 0 0] 26) := ⟨_, rfl⟩
  have hWs : W.heap.size = w.heap.size + 2 := by rw [hW]; simp
  have hbW : Below w.heap.size w W := by rw [hW]; exact below_alloc2 _ _ _
  have hat : W.heap[w.heap.size]? = some (.cells #[.int .i64 k, .int .i64 h, .string t, .slice la l.length lc, .slice ka ks.length kc, .slice va vs.length vc] 26) := by rw [hW]; exact at_alloc20 _ _ _
  have hat2 : W.heap[w.heap.size + 1]? = some (.cells #[.int .i64 0, .int .i64 0, .string ⟨#[]⟩, .slice none 0 0, .slice none 0 0, .slice none 0 0] 26) := by rw [hW]; exact at_alloc2 _ _ _
  have P := Lib.hid (place_any W k h t la ka va l.length lc vs.length vc kc ks x hks (fun h0 => by
    obtain ⟨b, o, e, hb, hc⟩ := ck h0
    exact ⟨b, o, e, by omega, fun i hi => ((hbel.trans (hbW.mono hB)).cell (p := ⟨b, o + i, none⟩) hb).trans (hc i hi)⟩))
  have Hcv := Lib.hid cv; clear cv
  have Hrv := Lib.hid rv; clear rv
  have Hlen := Lib.hid hlen; clear hlen
  clear ck cl rl hs hk hh ht hl hks hvs
  go_enter Tryz.func25, Tryz.ntmps25
  go_wp2_with fail
  rw [← hW]
  have HW := Lib.hid hW; clear hW
  have hpl := placeI_le ks x
  refine P.out.mono ?_
  rintro e w1 ⟨rfl, hw1⟩
  have hs1 := hw1.size
  have h0 := (hw1.block w.heap.size (by omega)).trans hat
  have h1 := (hw1.block (w.heap.size + 1) (by omega)).trans hat2
  have hb1 : Below w.heap.size w w1 := hbW.trans (hw1.mono (by omega))
  obtain ⟨a0, a1, a2, a3, a4, a5⟩ := of_block6 h0
  obtain ⟨b0, b1, b2, b3, b4, b5⟩ := of_block6 h1
  obtain ⟨f0, f1, f2, f3, f4, f5⟩ := free_block6 h1
  cases hh : hasK ks x with
  | true =>
    have hlt : placeI ks x < ks.length := by
      obtain ⟨hlt, _⟩ := hasK_iff.1 hh
      exact hlt
    have hlt2 : placeI ks x < vs.length := by rw [← Hlen.out]; exact hlt
    have hg : getV ks vs x = vs[placeI ks x] := by unfold getV; rw [if_pos hh, getD_of_lt hlt2]
    obtain ⟨vb, vo, rfl, hvb, hcel⟩ := Hcv.out (by omega)
    have cc := (hcel _ hlt2).below (hbel.trans (hb1.mono hB)) hvb
    have hr := Hrv.out _ hlt2
    rw [← hg] at hr
    obtain ⟨k', h', t', la2, ka2, va2, nl', cl', nk', ck', nv', cv', hCn⟩ := hr.shape
    rw [hCn] at cc hr
    obtain ⟨y0, y1, y2, y3, y4, y5⟩ := cells6 cc
    have Hr := Lib.hid hr; clear hr
    have u1 : ((placeI ks x : Nat) : Int) < (vs.length : Int) := by omega
    have u2 : (0 : Int) ≤ ((placeI ks x : Nat) : Int) := by omega
    have hset := set_row6 h1 (.int .i64 k') (.int .i64 h') (.string t') (.slice la2 nl' cl') (.slice ka2 nk' ck') (.slice va2 nv' cv')
    have hfin := below_set6 hb1 (b := w.heap.size + 1) (by omega) (.int .i64 k') (.int .i64 h') (.string t') (.slice la2 nl' cl') (.slice ka2 nk' ck') (.slice va2 nv' cv')
    have Hset := Lib.hid hset
    have Hfin := Lib.hid hfin
    clear hset hfin hcel cc hCn hg hlt hh Hrv Hcv P hpl
    generalize placeI ks x = n at *
    go_wp2_with fail
    refine bodyPost_ret (v := .agg #[.int .i64 k', .int .i64 h', .string t', .slice la2 nl' cl', .slice ka2 nk' ck', .slice va2 nv' cv']) ?_ rfl ⟨_, _, _, _, _, _, _, _, _, _, _, _, rfl, Hr.out, Hfin.out⟩
    exact results_cell_row (p := 4) (ty := 26) rfl _ _ (w.heap.size + 1) 26 _ (0, 0) _ rfl Hset.out Tryz.underlying26 rfl (by kernel_rfl)
  | false =>
    have hg : getV ks vs x = nullV := by unfold getV; rw [if_neg (by simp [hh])]
    have hset := set_row6 h1 (.int .i64 0) (.int .i64 0) (.string ⟨#[]⟩) (.slice none 0 0) (.slice none 0 0) (.slice none 0 0)
    have hfin := below_set6 hb1 (b := w.heap.size + 1) (by omega) (.int .i64 0) (.int .i64 0) (.string ⟨#[]⟩) (.slice none 0 0) (.slice none 0 0) (.slice none 0 0)
    have Hset := Lib.hid hset
    have Hfin := Lib.hid hfin
    have Hg := Lib.hid hg
    clear hset hfin hg hh Hrv Hcv P hpl
    go_wp2_with fail
    refine bodyPost_ret (v := .agg #[.int .i64 0, .int .i64 0, .string ⟨#[]⟩, .slice none 0 0, .slice none 0 0, .slice none 0 0]) ?_ rfl ⟨_, _, _, _, _, _, _, _, _, _, _, _, rfl, (by rw [Hg.out]; exact rep_null _ _), Hfin.out⟩
    exact results_cell_row (p := 4) (ty := 26) rfl _ _ (w.heap.size + 1) 26 _ (0, 0) _ rfl Hset.out Tryz.underlying26 rfl (by kernel_rfl)

set_option maxHeartbeats 2000000 in
set_option maxRecDepth 100000 in
theorem has_any (w0 : World) (B : Nat) (v : V) (cs : List Value) (hv : RepV w0 B v cs) (x : ByteArray) (w : World) (hbel : Below B w0 w) (hB : B ≤ w.heap.size) :
    Calls Tryz.prog 55 #[.agg cs.toArray, .string x] w (BoolP w (hasK v.keys x)) := by
  cases hv with
  | @mk k h t l ks vs la ka va lc kc vc C D hk hh ht hl hks hvs hs cl rl ck cv rv =>
  simp only [V.keys]
  obtain ⟨W, hW⟩ : ∃ W, W = w.alloc (.cells #[.int .i64 k, .int .i64 h, .string t, .slice la l.length lc, .slice ka ks.length kc, .slice va vs.length vc] 26) := ⟨_, rfl⟩
  have hWs : W.heap.size = w.heap.size + 1 := by rw [hW]; simp
  have hbW : Below w.heap.size w W := by rw [hW]; exact below_alloc1 _ _
  have P := Lib.hid (place_any W k h t la ka va l.length lc vs.length vc kc ks x hks (fun h0 => by
    obtain ⟨b, o, e, hb, hc⟩ := ck h0
    exact ⟨b, o, e, by omega, fun i hi => ((hbel.trans (hbW.mono hB)).cell (p := ⟨b, o + i, none⟩) hb).trans (hc i hi)⟩))
  clear ck cl rl hs hk hh ht hl hks hvs cv rv
  go_enter Tryz.func55, Tryz.ntmps55
  go_wp2_with fail
  rw [← hW]
  have HW := Lib.hid hW; clear hW
  refine P.out.mono ?_
  rintro e w1 ⟨rfl, hw1⟩
  have hb1 : Below w.heap.size w w1 := hbW.trans (hw1.mono (by omega))
  generalize hr : hasK ks x = r
  have Hr := Lib.hid hr; clear hr
  generalize placeI ks x = n
  go_wp2_with fail
  go_ret
  exact ⟨by rw [Hr.out]; rfl, hb1⟩

/-- spec.Whole of a number of an even Half; of what is none. -/
def wholeI (k h : Int) : Int := if k = 3 ∧ h.tmod 2 = 0 then h.tdiv 2 else 0
def wholeB (k h : Int) : Bool := decide (k = 3 ∧ h.tmod 2 = 0)

theorem half_le (h : Int) : (0 ≤ h → 0 ≤ h.tdiv 2 ∧ h.tdiv 2 ≤ h) ∧ (h ≤ 0 → h ≤ h.tdiv 2 ∧ h.tdiv 2 ≤ 0) := by
  refine ⟨fun h0 => ?_, fun h0 => ?_⟩
  · rw [Int.tdiv_eq_ediv_of_nonneg h0]
    omega
  · have := Int.neg_tdiv h 2
    rw [Int.tdiv_eq_ediv_of_nonneg (by omega : 0 ≤ -h)] at this
    omega

set_option maxHeartbeats 2000000 in
set_option maxRecDepth 100000 in
theorem whole_any (k h : Int) (hh : -9223372036854775808 ≤ h ∧ h ≤ 9223372036854775807) (t : ByteArray) (la ka va : Option Addr) (nl cl nk ck nv cv : Nat) (w : World) :
    Calls Tryz.prog 26 #[.agg #[.int .i64 k, .int .i64 h, .string t, .slice la nl cl, .slice ka nk ck, .slice va nv cv]] w
      fun e w' => e = .returned (.tuple #[.int .i64 (wholeI k h), .bool (wholeB k h)]) ∧ Below w.heap.size w w' := by
  have hb := below_alloc1 w (.cells #[.int .i64 k, .int .i64 h, .string t, .slice la nl cl, .slice ka nk ck, .slice va nv cv] 26)
  have Hb := Lib.hid hb; clear hb
  by_cases c : k = 3
  · subst c
    by_cases c2 : h.tmod 2 = 0
    · have Hr := Lib.hid (show Ending.returned (.tuple #[.int .i64 (wholeI 3 h), .bool (wholeB 3 h)]) = .returned (.tuple #[.int .i64 (h.tdiv 2), .bool true]) by simp [wholeI, wholeB, c2])
      have t3 : (h.tmod 2 != 0) = false := by rw [c2]; rfl
      have t4 : (h % 2 != 0) = false := by rw [Int.emod_eq_zero_of_dvd (Int.dvd_of_tmod_eq_zero c2)]; rfl
      have tw : wrap64 (h.tdiv 2) = h.tdiv 2 := by
        have h2 := half_le h
        generalize h.tdiv 2 = q at *
        unfold wrap64
        omega
      clear c2
      go_enter Tryz.func26, Tryz.ntmps26
      go_wp2_with fail
      go_ret2
      exact ⟨by rw [Hr.out]; rfl, Hb.out⟩
    · have Hr := Lib.hid (show Ending.returned (.tuple #[.int .i64 (wholeI 3 h), .bool (wholeB 3 h)]) = .returned (.tuple #[.int .i64 0, .bool false]) by simp [wholeI, wholeB, c2])
      have t3 : (h.tmod 2 != 0) = true := by simpa using c2
      have t4 : (h % 2 != 0) = true := by rw [bne_iff_ne]; exact fun e => c2 (Int.tmod_eq_zero_of_dvd (Int.dvd_of_emod_eq_zero e))
      clear c2
      go_enter Tryz.func26, Tryz.ntmps26
      go_wp2_with fail
      go_ret2
      exact ⟨by rw [Hr.out]; rfl, Hb.out⟩
  · have Hr := Lib.hid (show Ending.returned (.tuple #[.int .i64 (wholeI k h), .bool (wholeB k h)]) = .returned (.tuple #[.int .i64 0, .bool false]) by simp [wholeI, wholeB, c])
    have t3 : (k != 3) = true := by simpa using c
    clear c
    go_enter Tryz.func26, Tryz.ntmps26
    go_wp2_with fail
    go_ret2
    exact ⟨by rw [Hr.out]; rfl, Hb.out⟩

end Go.Proofs.YtiphcojcdegnkaaGreatDoor
