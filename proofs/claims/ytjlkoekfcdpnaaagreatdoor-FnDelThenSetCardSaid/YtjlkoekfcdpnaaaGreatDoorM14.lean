/- Contracts of spec.sign, texts, keys, lists, Cmp, Same, at values that read. -/
/- Contracts of impl.result at what is no error; spec.Same and laws.told at good values. -/
/- laws.told at an error, at what the reference leaves open, and at values. -/
/- What impl.result returns for an answer of the reference; what laws.told says of it. -/
/- What a door of gojq leaves, for impl.result. -/
/- Contracts of gojq.funcDelpaths and ZzDelPaths at places of a value. -/
/- Contract of impl.DelPaths over that of gojq.ZzDelPaths. -/
import Derived.Test.YtjlkoekfcdpnaaaGreatDoorM01
import Derived.Test.YtjlkoekfcdpnaaaGreatDoorM10
import Derived.WalkLawsBesides
import Derived.Test.YtjlkoekfcdpnaaaGreatDoorM13
import Derived.Test.YtjlkoekfcdpnaaaGreatDoorM09
import Derived.Test.YtjlkoekfcdpnaaaGreatDoorM08
namespace Go.Proofs.YtjlkoekfcdpnaaaGreatDoor
open Go Go.RowKit
theorem sign_any (n : Int) (w : World) : Calls Tryz.prog 46 #[.int .i64 n] w fun e w' => e = .returned (.int .i64 (signI n)) ∧ w' = w := by
  by_cases h : n < 0
  · go_enter Tryz.func46, Tryz.ntmps46
    go_wp2_with fail
    go_ret
    exact ⟨by simp [signI, h], rfl⟩
  · by_cases h' : 0 < n
    · go_enter Tryz.func46, Tryz.ntmps46
      go_wp2_with fail
      go_ret
      exact ⟨by simp [signI, h, h'], rfl⟩
    · go_enter Tryz.func46, Tryz.ntmps46
      go_wp2_with fail
      go_ret
      exact ⟨by unfold signI; rw [if_neg (by omega), if_neg (by omega)]; rfl, rfl⟩
theorem texts_any (a b : ByteArray) (w : World) : Calls Tryz.prog 47 #[.string a, .string b] w fun e w' => e = .returned (.int .i64 (textsC a b)) ∧ w' = w := by
  have hsw : Op.bytesLess a.toList b.toList = false → (a.toList == b.toList) = !Op.bytesLess b.toList a.toList := by
    intro h
    by_cases e : a.toList = b.toList
    · rw [e, bLess_eq]; simp [List.lt_irrefl]
    · have : (a.toList == b.toList) = false := by simpa using e
      rw [this]
      rw [bLess_eq] at h ⊢
      simp only [decide_eq_false_iff_not] at h
      symm
      rw [Bool.not_eq_false', decide_eq_true_eq]
      exact Decidable.byContradiction fun h2 => e (List.le_antisymm (List.not_lt.1 h2) (List.not_lt.1 h))
  cases h : Op.bytesLess a.toList b.toList
  · have hs := hsw h
    cases h' : Op.bytesLess b.toList a.toList
    · have hc : textsC a b = 0 := by unfold textsC; rw [h, h']; rfl
      rw [h'] at hs
      have Hc := Lib.hid hc
      clear hc hsw
      go_enter Tryz.func47, Tryz.ntmps47
      go_wp2_with fail
      go_ret
      exact ⟨by rw [Hc.out]; rfl, rfl⟩
    · have hc : textsC a b = 1 := by unfold textsC; rw [h, h']; rfl
      rw [h'] at hs
      have Hc := Lib.hid hc
      clear hc hsw
      go_enter Tryz.func47, Tryz.ntmps47
      go_wp2_with fail
      go_ret
      exact ⟨by rw [Hc.out]; rfl, rfl⟩
  · have hc : textsC a b = -1 := by unfold textsC; rw [h]; rfl
    have Hc := Lib.hid hc
    clear hc hsw
    go_enter Tryz.func47, Tryz.ntmps47
    go_wp2_with fail
    go_ret
    exact ⟨by rw [Hc.out]; rfl, rfl⟩
def TwoLoop (w : World) (n1 n2 : Nat) (rest : Nat → Int) (fin : Int) (i : Value) (wr : World) : Prop :=
  ∃ n : Nat, n ≤ n1 ∧ n ≤ n2 ∧ i = .int .i64 (n : Nat) ∧ Below w.heap.size w wr ∧ rest n = fin
def IntP (w : World) (c : Int) (e : Ending) (w' : World) : Prop := e = .returned (.int .i64 c) ∧ Below w.heap.size w w'
set_option maxHeartbeats 1000000 in
set_option maxRecDepth 100000 in
theorem keys_any (w : World) (ks ks' : List ByteArray) (ka ka' : Option Addr) (kc kc' : Nat) (hl : ks.length * 16 ≤ 140737488351232) (hl' : ks'.length * 16 ≤ 140737488351232)
    (ck : 0 < ks.length → ∃ b o, ka = some ⟨b, o, none⟩ ∧ b < w.heap.size ∧ ∀ i (hi : i < ks.length), w.cell? ⟨b, o + i, none⟩ = some (.string ks[i]))
    (ck' : 0 < ks'.length → ∃ b o, ka' = some ⟨b, o, none⟩ ∧ b < w.heap.size ∧ ∀ i (hi : i < ks'.length), w.cell? ⟨b, o + i, none⟩ = some (.string ks'[i])) :
    Calls Tryz.prog 49 #[.slice ka ks.length kc, .slice ka' ks'.length kc'] w (IntP w (keysC ks ks')) := by
  have Hck := Lib.hid ck; clear ck
  have Hck' := Lib.hid ck'; clear ck'
  go_enter Tryz.func49, Tryz.ntmps49
  go_wp2_with fail
  go_loopw [5] (fun i wr => TwoLoop w ks.length ks'.length (fun n => keysC (ks.drop n) (ks'.drop n)) (keysC ks ks') i wr) (fun i _ => ks.length - (intOf i).toNat)
  case atStart => exact ⟨0, Nat.zero_le _, Nat.zero_le _, rfl, Below.refl _ _, rfl⟩
  case round =>
    obtain ⟨n, hn, hn', rfl, hb, hfin⟩ := hrel
    have Hfin := Lib.hid hfin; clear hfin
    by_cases h1 : n < ks.length
    · by_cases h2 : n < ks'.length
      · obtain ⟨b1, o1, rfl, hb1, c1⟩ := Hck.out (by omega)
        obtain ⟨b2, o2, rfl, hb2, c2⟩ := Hck'.out (by omega)
        have y1 : wr.cell? ⟨b1, o1 + n, none⟩ = some (.string ks[n]) := (hb.cell (p := ⟨b1, o1 + n, none⟩) hb1).trans (c1 n h1)
        have y2 : wr.cell? ⟨b2, o2 + n, none⟩ = some (.string ks'[n]) := (hb.cell (p := ⟨b2, o2 + n, none⟩) hb2).trans (c2 n h2)
        have hd := keysC_drop ks ks' n h1 h2
        have Hd := Lib.hid (Hfin.out.symm.trans hd); clear hd
        have t1 : (n : Int) < (ks.length : Int) := by omega
        have t2 : (n : Int) < (ks'.length : Int) := by omega
        have t3 : (0 : Int) ≤ (n : Int) := by omega
        clear c1 c2
        generalize ks[n] = x at y1 Hd
        generalize ks'[n] = y at y2 Hd
        go_wp2_with fail
        refine wp_region_tail 8 (by kernel_rfl) (by kernel_rfl) ?_
        simp only [List.take_succ_cons, List.take_zero, List.drop_succ_cons, List.drop_zero]
        repeat (go_big_quiet_step (fail))
        refine wpQuiet_nil ?_
        clear t1 t2 t3
        go_wp2_with fail
        refine (texts_any _ _ _).mono ?_
        rintro e w2 ⟨rfl, rfl⟩
        generalize textsC x y = c at Hd
        by_cases hc : c = 0
        · have Hd2 := Lib.hid (Hd.out.trans (if_pos hc)); clear Hd
          subst hc
          go_wp2_with fail
          go_roundw
          case rel => exact ⟨n + 1, by omega, by omega, by go_num, hb.drew, Hd2.out.symm⟩
          case measure => simp [intOf]; omega
        · have Hd2 := Lib.hid (Hd.out.trans (if_neg hc)); clear Hd
          have tc : (c != 0) = true := by simpa using hc
          clear hc
          go_wp2_with fail
          go_ret
          exact ⟨by rw [Hd2.out]; rfl, hb.drew⟩
      · have hd := keysC_end ks ks' n (by omega) hn hn'
        have Hd := Lib.hid (Hfin.out.symm.trans hd); clear hd
        go_wp2_with fail
        go_ret
        exact ⟨by rw [Hd.out]; rfl, hb⟩
    · have hd := keysC_end ks ks' n (by omega) hn hn'
      have Hd := Lib.hid (Hfin.out.symm.trans hd); clear hd
      go_wp2_with fail
      go_ret
      exact ⟨by rw [Hd.out]; rfl, hb⟩
def CmpOK (w0 : World) (B : Nat) (a b : V) (ca cb : List Value) : Prop :=
  ∀ w, Below B w0 w → B ≤ w.heap.size → Calls Tryz.prog 38 #[.agg ca.toArray, .agg cb.toArray] w (IntP w (cmpV a b))
set_option maxHeartbeats 2000000 in
set_option maxRecDepth 100000 in
theorem lists_of (w0 : World) (B : Nat) (l l' : List V) (la la' : Option Addr) (lc lc' : Nat) (C C' : Nat → List Value) (hl : l.length * 104 ≤ 140737488351232) (hl' : l'.length * 104 ≤ 140737488351232)
    (cl : 0 < l.length → ∃ b o, la = some ⟨b, o, none⟩ ∧ b < B ∧ ∀ i, i < l.length → CellsAt w0 b (o + i * 6) (C i)) (rl : ∀ i (hi : i < l.length), RepV w0 B l[i] (C i))
    (cl' : 0 < l'.length → ∃ b o, la' = some ⟨b, o, none⟩ ∧ b < B ∧ ∀ i, i < l'.length → CellsAt w0 b (o + i * 6) (C' i)) (rl' : ∀ i (hi : i < l'.length), RepV w0 B l'[i] (C' i))
    (ih : ∀ i (hi : i < l.length) j (hj : j < l'.length), CmpOK w0 B l[i] l'[j] (C i) (C' j)) (w : World) (hbel : Below B w0 w) (hB : B ≤ w.heap.size) :
    Calls Tryz.prog 48 #[.slice la l.length lc, .slice la' l'.length lc'] w (IntP w (cmpL l l')) := by
  have Hcl := Lib.hid cl; clear cl
  have Hcl' := Lib.hid cl'; clear cl'
  have Hih := Lib.hid ih; clear ih
  have Hbel := Lib.hid hbel; clear hbel
  go_enter Tryz.func48, Tryz.ntmps48
  go_wp2_with fail
  go_loopw [5] (fun i wr => TwoLoop w l.length l'.length (fun n => cmpL (l.drop n) (l'.drop n)) (cmpL l l') i wr) (fun i _ => l.length - (intOf i).toNat)
  case atStart => exact ⟨0, Nat.zero_le _, Nat.zero_le _, rfl, Below.refl _ _, rfl⟩
  case round =>
    obtain ⟨n, hn, hn', rfl, hb, hfin⟩ := hrel
    have Hfin := Lib.hid hfin; clear hfin
    by_cases h1 : n < l.length
    · by_cases h2 : n < l'.length
      · obtain ⟨b1, o1, rfl, hb1, c1⟩ := Hcl.out (by omega)
        obtain ⟨b2, o2, rfl, hb2, c2⟩ := Hcl'.out (by omega)
        have hb0 : Below B w0 wr := Hbel.out.trans (hb.mono hB)
        have cc := (c1 n h1).below hb0 hb1
        have cc' := (c2 n h2).below hb0 hb2
        have ih := Hih.out n h1 n h2 wr.drew hb0.drew (by have := hb.size; show B ≤ wr.heap.size; omega)
        obtain ⟨k1, q1, t1, la1, ka1, va1, nl1, cl1, nk1, ck1, nv1, cv1, hC⟩ := (rl n h1).shape
        obtain ⟨k2, q2, t2, la2, ka2, va2, nl2, cl2, nk2, ck2, nv2, cv2, hC'⟩ := (rl' n h2).shape
        rw [hC] at cc ih
        rw [hC'] at cc' ih
        obtain ⟨y0, y1, y2, y3, y4, y5⟩ := cells6 cc
        obtain ⟨z0, z1, z2, z3, z4, z5⟩ := cells6 cc'
        have HI := Lib.hid ih
        have hd := cmpL_drop l l' n h1 h2
        have Hd := Lib.hid (Hfin.out.symm.trans hd); clear hd
        have u1 : (n : Int) < (l.length : Int) := by omega
        have u2 : (n : Int) < (l'.length : Int) := by omega
        have u3 : (0 : Int) ≤ (n : Int) := by omega
        clear c1 c2 cc cc' ih hC hC' hb0
        go_wp2_with fail
        refine wp_region_tail 8 (by kernel_rfl) (by kernel_rfl) ?_
        simp only [List.take_succ_cons, List.take_zero, List.drop_succ_cons, List.drop_zero]
        repeat (go_big_quiet_step (fail))
        refine wpQuiet_nil ?_
        clear u1 u2 u3 y0 y1 y2 y3 y4 y5 z0 z1 z2 z3 z4 z5
        go_wp2_with fail
        refine HI.out.mono ?_
        rintro e w2 ⟨rfl, hb3⟩
        have hb4 : Below w.heap.size w w2 := hb.drew.trans (hb3.mono hb.size)
        clear HI
        generalize cmpV l[n] l'[n] = c at Hd
        by_cases hc : c = 0
        · have Hd2 := Lib.hid (Hd.out.trans (if_pos hc)); clear Hd
          subst hc
          go_wp2_with fail
          go_roundw
          case rel => exact ⟨n + 1, by omega, by omega, by go_num, hb4, Hd2.out.symm⟩
          case measure => simp [intOf]; omega
        · have Hd2 := Lib.hid (Hd.out.trans (if_neg hc)); clear Hd
          have tc : (c != 0) = true := by simpa using hc
          clear hc
          go_wp2_with fail
          go_ret
          exact ⟨by rw [Hd2.out]; rfl, hb4⟩
      · have hd := cmpL_end l l' n (by omega) hn hn'
        have Hd := Lib.hid (Hfin.out.symm.trans hd); clear hd
        go_wp2_with fail
        go_ret
        exact ⟨by rw [Hd.out]; rfl, hb⟩
    · have hd := cmpL_end l l' n (by omega) hn hn'
      have Hd := Lib.hid (Hfin.out.symm.trans hd); clear hd
      go_wp2_with fail
      go_ret
      exact ⟨by rw [Hd.out]; rfl, hb⟩
set_option maxHeartbeats 4000000 in
set_option maxRecDepth 100000 in
theorem cmp_any (w0 : World) (B : Nat) (a : V) (ca : List Value) (ha : RepV w0 B a ca) : ∀ (b : V) (cb : List Value), RepV w0 B b cb → CmpOK w0 B a b ca cb := by
  induction ha with
  | @mk k h t l ks vs la ka va lc kc vc C D hk hh ht hl hks hvs hs cl rl ck cv rv _ ihl ihv =>
  intro b cb hb
  cases hb with
  | @mk k' h' t' l' ks' vs' la' ka' va' lc' kc' vc' C' D' hk' hh' ht' hl' hks' hvs' hs' cl' rl' ck' cv' rv' =>
  intro w hbel hB
  have hbW := below_alloc2 w (.cells #[.int .i64 k, .int .i64 h, .string t, .slice la l.length lc, .slice ka ks.length kc, .slice va vs.length vc] 26)
    (.cells #[.int .i64 k', .int .i64 h', .string t', .slice la' l'.length lc', .slice ka' ks'.length kc', .slice va' vs'.length vc'] 26)
  have hsW := size_alloc2 w (.cells #[.int .i64 k, .int .i64 h, .string t, .slice la l.length lc, .slice ka ks.length kc, .slice va vs.length vc] 26)
    (.cells #[.int .i64 k', .int .i64 h', .string t', .slice la' l'.length lc', .slice ka' ks'.length kc', .slice va' vs'.length vc'] 26)
  have L := Lib.hid fun w' h1 h2 => lists_of w0 B l l' la la' lc lc' C C' hl hl' cl rl cl' rl' (fun i hi j hj => ihl i hi _ _ (rl' j hj)) w' h1 h2
  have M := Lib.hid fun w' h1 h2 => lists_of w0 B vs vs' va va' vc vc' D D' hvs hvs' cv rv cv' rv' (fun i hi j hj => ihv i hi _ _ (rv' j hj)) w' h1 h2
  have K := Lib.hid fun (w' : World) (h1 : Below B w0 w') (h2 : B ≤ w'.heap.size) => keys_any w' ks ks' ka ka' kc kc' hks hks'
    (fun h0 => by obtain ⟨b, o, e, hb, hc⟩ := ck h0; exact ⟨b, o, e, by omega, fun i hi => (h1.cell (p := ⟨b, o + i, none⟩) hb).trans (hc i hi)⟩)
    (fun h0 => by obtain ⟨b, o, e, hb, hc⟩ := ck' h0; exact ⟨b, o, e, by omega, fun i hi => (h1.cell (p := ⟨b, o + i, none⟩) hb).trans (hc i hi)⟩)
  have Hbel := Lib.hid hbel
  clear ihl ihv cl rl ck cv rv cl' rl' ck' cv' rv' hs hs' hk hh ht hl hks hvs hk' hh' ht' hl' hks' hvs' hbel
  by_cases ek : k = k'
  · have tk : (k != k') = false := by simp [ek]
    have ev : cmpV (.mk k h t l ks vs) (.mk k' h' t' l' ks' vs') = if k = 3 then signI (wrap64 (h - h')) else if k = 4 then textsC t t'
      else if k = 5 then signI (cmpL l l') else if k = 6 then (if keysC ks ks' = 0 then signI (cmpL vs vs') else signI (keysC ks ks')) else 0 := by simp only [cmpV]; rw [if_neg (by simpa using ek)]
    clear ek
    by_cases k3 : k = 3
    · have Hev := Lib.hid (ev.trans (if_pos k3)); clear ev
      subst k3
      go_enter Tryz.func38, Tryz.ntmps38
      go_wp2_with fail
      refine (sign_any _ _).mono ?_
      rintro e w2 ⟨rfl, rfl⟩
      go_wp2_with fail
      go_ret
      exact ⟨by rw [Hev.out]; rfl, hbW⟩
    have ev := ev.trans (if_neg k3)
    have t3 : (k == 3) = false := by simpa using k3
    clear k3
    by_cases k4 : k = 4
    · have Hev := Lib.hid (ev.trans (if_pos k4)); clear ev
      subst k4
      go_enter Tryz.func38, Tryz.ntmps38
      go_wp2_with fail
      refine (texts_any _ _ _).mono ?_
      rintro e w2 ⟨rfl, rfl⟩
      go_wp2_with fail
      go_ret
      exact ⟨by rw [Hev.out]; rfl, hbW⟩
    have ev := ev.trans (if_neg k4)
    have t4 : (k == 4) = false := by simpa using k4
    clear k4
    by_cases k5 : k = 5
    · have Hev := Lib.hid (ev.trans (if_pos k5)); clear ev
      subst k5
      go_enter Tryz.func38, Tryz.ntmps38
      go_wp2_with fail
      refine (L.out _ (Hbel.out.trans (hbW.mono hB)) (by rw [hsW]; omega)).mono ?_
      rintro e w2 ⟨rfl, hb2⟩
      go_wp2_with fail
      refine (sign_any _ _).mono ?_
      rintro e w3 ⟨rfl, rfl⟩
      go_wp2_with fail
      go_ret
      exact ⟨by rw [Hev.out]; rfl, below_next hbW hb2⟩
    have ev := ev.trans (if_neg k5)
    have t5 : (k == 5) = false := by simpa using k5
    clear k5
    by_cases k6 : k = 6
    · have ev := ev.trans (if_pos k6)
      subst k6
      by_cases ec : keysC ks ks' = 0
      · have Hev := Lib.hid (ev.trans (if_pos ec)); clear ev
        have Hec := Lib.hid ec; clear ec
        go_enter Tryz.func38, Tryz.ntmps38
        go_wp2_with fail
        refine (K.out _ (Hbel.out.trans (hbW.mono hB)) (by rw [hsW]; omega)).mono ?_
        rintro e w2 ⟨rfl, hb2⟩
        rw [Hec.out]
        have hb3 := below_next hbW hb2
        obtain ⟨a0, a1, a2, a3, a4, a5⟩ := of_block6 ((hb2.block w.heap.size (by rw [hsW]; omega)).trans (at_alloc20 _ _ _))
        obtain ⟨b0, b1, b2, b3, b4, b5⟩ := of_block6 ((hb2.block (w.heap.size + 1) (by rw [hsW]; omega)).trans (at_alloc2 _ _ _))
        have hs2 : B ≤ w2.heap.size := by have := hb2.size; rw [hsW] at this; omega
        go_wp2_with fail
        refine (M.out _ (Hbel.out.trans (hb3.mono hB)) hs2).mono ?_
        rintro e w3 ⟨rfl, hb4⟩
        go_wp2_with fail
        refine (sign_any _ _).mono ?_
        rintro e w4 ⟨rfl, rfl⟩
        go_wp2_with fail
        go_ret
        exact ⟨by rw [Hev.out]; rfl, below_next hb3 hb4⟩
      · have Hev := Lib.hid (ev.trans (if_neg ec)); clear ev
        have Hec := Lib.hid ec; clear ec
        go_enter Tryz.func38, Tryz.ntmps38
        go_wp2_with fail
        refine (K.out _ (Hbel.out.trans (hbW.mono hB)) (by rw [hsW]; omega)).mono ?_
        rintro e w2 ⟨rfl, hb2⟩
        have tc : (keysC ks ks' != 0) = true := by simpa using Hec.out
        clear Hec K
        generalize keysC ks ks' = c at tc Hev ⊢
        go_wp2_with fail
        refine (sign_any _ _).mono ?_
        rintro e w4 ⟨rfl, rfl⟩
        go_wp2_with fail
        go_ret
        exact ⟨by rw [Hev.out]; rfl, below_next hbW hb2⟩
    have Hev := Lib.hid (ev.trans (if_neg k6)); clear ev
    have t6 : (k == 6) = false := by simpa using k6
    clear k6
    go_enter Tryz.func38, Tryz.ntmps38
    go_wp2_with fail
    go_ret
    exact ⟨by rw [Hev.out]; rfl, hbW⟩
  · have tk : (k != k') = true := by simpa using ek
    have Hev := Lib.hid (show cmpV (.mk k h t l ks vs) (.mk k' h' t' l' ks' vs') = signI (wrap64 (k - k')) by simp only [cmpV]; rw [if_pos ek])
    clear ek
    go_enter Tryz.func38, Tryz.ntmps38
    go_wp2_with fail
    refine (sign_any _ _).mono ?_
    rintro e w2 ⟨rfl, rfl⟩
    go_wp2_with fail
    go_ret
    exact ⟨by rw [Hev.out]; rfl, hbW⟩
/-- Two good values are the same. -/
def sameB (a b : V) : Bool := decide (cmpV a b = 0)
def BoolP (w : World) (x : Bool) (e : Ending) (w' : World) : Prop := e = .returned (.bool x) ∧ Below w.heap.size w w'
set_option maxHeartbeats 1000000 in
set_option maxRecDepth 100000 in
theorem same_any (w0 : World) (B : Nat) (a b : V) (ca cb : List Value) (ha : RepV w0 B a ca) (hb : RepV w0 B b cb) (w : World) (hbel : Below B w0 w) (hB : B ≤ w.heap.size) :
    Calls Tryz.prog 28 #[.agg ca.toArray, .agg cb.toArray] w (BoolP w (sameB a b)) := by
  have H := Lib.hid (cmp_any w0 B a ca ha b cb hb)
  obtain ⟨k, h, t, la, ka, va, nl, cl, nk, ck, nv, cv, rfl⟩ := ha.shape
  obtain ⟨k', h', t', la', ka', va', nl', cl', nk', ck', nv', cv', rfl⟩ := hb.shape
  have hbW := below_alloc2 w (.cells #[.int .i64 k, .int .i64 h, .string t, .slice la nl cl, .slice ka nk ck, .slice va nv cv] 26)
    (.cells #[.int .i64 k', .int .i64 h', .string t', .slice la' nl' cl', .slice ka' nk' ck', .slice va' nv' cv'] 26)
  have hsW := size_alloc2 w (.cells #[.int .i64 k, .int .i64 h, .string t, .slice la nl cl, .slice ka nk ck, .slice va nv cv] 26)
    (.cells #[.int .i64 k', .int .i64 h', .string t', .slice la' nl' cl', .slice ka' nk' ck', .slice va' nv' cv'] 26)
  have Hbel := Lib.hid hbel
  clear ha hb hbel
  go_enter Tryz.func28, Tryz.ntmps28
  go_wp2_with fail
  refine (H.out _ (Hbel.out.trans (hbW.mono hB)) (by rw [hsW]; omega)).mono ?_
  rintro e w2 ⟨rfl, hb2⟩
  generalize hc : cmpV a b = c
  have Hc := Lib.hid hc; clear hc
  go_wp2_with fail
  go_ret
  exact ⟨by rw [show sameB a b = (c == 0) from by unfold sameB; rw [Hc.out]; rfl]; rfl, below_next hbW hb2⟩
theorem sameB_iff {a b : V} (ga : Good a) (gb : Good b) : sameB a b = true ↔ a = b := by
  unfold sameB
  rw [decide_eq_true_eq, cmpV_zero ga gb]
end Go.Proofs.YtjlkoekfcdpnaaaGreatDoor

namespace Go.Proofs.YtjlkoekfcdpnaaaGreatDoor
open Go Go.RowKit Go.Maps Go.Deep
/-- x is no error. -/
def NoErr (x : Value) : Prop := ∀ w : World, (Instr.typeAssert x 20 57 true).run Tryz.prog w = .ok (.tuple #[.nilIface, .bool false]) w
theorem isnt_hole (v : Value) (w : World) : (Instr.typeAssert (.iface 85 v) 20 57 true).run Tryz.prog w = .ok (.tuple #[.nilIface, .bool false]) w :=
  run_assert_iface Tryz.underlying57 (by simp) (fun _ => by kernel_rfl) (by kernel_rfl) v w
theorem RepJ.noErr {w : World} {S : Nat → Prop} {j : J} {x : Value} (h : RepJ w S j x) : NoErr x := by
  intro w
  cases h with
  | null => exact isnt_nil w
  | bool => exact isnt_bool _ w
  | int => exact isnt_int _ w
  | flt => exact isnt_float _ w
  | str => exact isnt_string _ w
  | arr => exact isnt_slice _ w
  | obj => exact isnt_map _ w
  | hole => exact isnt_hole _ w
/-- What impl gives where it gives v. -/
def ResV (w : World) (v : V) (e : Ending) (w' : World) : Prop :=
  ∃ c0 c1 c2 c3 c4 c5, e = .returned (.agg #[c0, c1, c2, c3, c4, c5, .int .i64 0]) ∧ RepS w' (FreshS w.heap.size w'.heap.size) v [c0, c1, c2, c3, c4, c5] ∧ Below w.heap.size w w'
theorem set7_other (w : World) (b k : Nat) (v0 v1 v2 v3 v4 v5 v6 : Value) (h : k ≠ b) :
    (((((((w.setCell ⟨b, 0, none⟩ v0).setCell ⟨b, 1, none⟩ v1).setCell ⟨b, 2, none⟩ v2).setCell ⟨b, 3, none⟩ v3).setCell ⟨b, 4, none⟩ v4).setCell ⟨b, 5, none⟩ v5).setCell ⟨b, 6, none⟩ v6).heap[k]? = w.heap[k]? := by
  rw [Below.heap_setCell _ _ _ _ h, set6_other _ _ _ _ _ _ _ _ _ h]
theorem set7_size (w : World) (b : Nat) (v0 v1 v2 v3 v4 v5 v6 : Value) :
    (((((((w.setCell ⟨b, 0, none⟩ v0).setCell ⟨b, 1, none⟩ v1).setCell ⟨b, 2, none⟩ v2).setCell ⟨b, 3, none⟩ v3).setCell ⟨b, 4, none⟩ v4).setCell ⟨b, 5, none⟩ v5).setCell ⟨b, 6, none⟩ v6).heap.size = w.heap.size := by simp [World.setCell]
set_option maxHeartbeats 4000000 in
set_option maxRecDepth 100000 in
theorem result_val {x : Value} {v : V} (ht : NoErr x) (hf : x = .nilIface ∨ ∃ t y, x = .iface t y) (w0 : World) (B : Nat) (H : FromOK w0 B v x) (w : World) (hbel : Below B w0 w) (hB : B ≤ w.heap.size) : Calls Tryz.prog 17 #[x] w (ResV w v) := by
  have h := ht
  unfold NoErr at h
  have HH := Lib.hid (H _ (hbel.trans ((below_alloc1 w (.cells #[.int .i64 0, .int .i64 0, .string ⟨#[]⟩, .slice none 0 0, .slice none 0 0, .slice none 0 0, .int .i64 0] 32)).mono hB)) (by simp; omega))
  clear H hbel ht
  rcases hf with rfl | ⟨ty, y, rfl⟩
  all_goals
    go_enter Tryz.func17, Tryz.ntmps17
    go_wp2_with fail
    refine HH.out.mono ?_
    rintro e w2 ⟨cs, rfl, hx, hw2⟩
    have hat := (hw2.block w.heap.size (by simp)).trans (at_alloc w _)
    obtain ⟨e0, e1, e2, e3, e4, e5, e6⟩ := of_block7 hat
    obtain ⟨z0, z1, z2, z3, z4, z5, z6⟩ := free_block7 hat
    have hlt : w.heap.size < w2.heap.size := by have := hw2.size; simp at this; omega
    have hne : ¬ (w.heap.size = w2.heap.size) := by omega
    obtain ⟨k, hh, t, la', ka', va', nl, cl, nk, ck, nv, cv, hcs⟩ := hx.shape
    have Hx := Lib.hid hx
    have Hat := Lib.hid hat
    have Hw2 := Lib.hid hw2
    clear hat hw2 hx
    subst hcs
    go_wp2_with fail
    refine bodyPost_ret (v := .agg #[.int .i64 k, .int .i64 hh, .string t, .slice la' nl cl, .slice ka' nk ck, .slice va' nv cv, .int .i64 0]) ?_ rfl ⟨_, _, _, _, _, _, rfl, ?_, ?_⟩
    · refine results_cell_row (p := 2) (ty := 32) rfl _ _ w.heap.size 32 _ (0, 0) _ rfl ?_ Tryz.underlying32 rfl (by kernel_rfl)
      rw [heap_alloc_old _ _ (by rw [set7_size]; exact hlt)]
      exact set_row7 Hat.out _ _ _ _ _ _ _
    · refine Hx.out.turn fun q hq => ⟨?_, ?_⟩
      · have := hq.1
        simp at this
        rw [heap_alloc_old _ _ (by rw [set7_size]; exact hq.2), set7_other _ _ _ _ _ _ _ _ _ _ (by omega)]
      · have h1 := hq.1
        have h2 := hq.2
        simp only [World.size_alloc] at h1
        refine ⟨by omega, ?_⟩
        rw [size_alloc1, set7_size]
        omega
    · have hb : Below w.heap.size w w2 := below_next (below_alloc1 w _) Hw2.out
      refine Below.alloc ?_ (by rw [set7_size]; omega) _
      exact ((((((hb.setCell (Nat.le_refl _) _).setCell (Nat.le_refl _) _).setCell (Nat.le_refl _) _).setCell (Nat.le_refl _) _).setCell (Nat.le_refl _) _).setCell (Nat.le_refl _) _).setCell (Nat.le_refl _) _
end Go.Proofs.YtjlkoekfcdpnaaaGreatDoor

namespace Go.Proofs.YtjlkoekfcdpnaaaGreatDoor
open Go Go.RowKit
def Yes (w : World) (e : Ending) (w' : World) : Prop := e = .returned (.bool true) ∧ Below w.heap.size w w'
set_option maxRecDepth 100000 in
theorem told_raises (k h k' h' : Int) (t t' : ByteArray) (la ka va la' ka' va' : Option Addr) (nl cl nk ck nv cv nl' cl' nk' ck' nv' cv' : Nat) (w : World) :
    Calls Tryz.prog 20 #[.agg #[.int .i64 k, .int .i64 h, .string t, .slice la nl cl, .slice ka nk ck, .slice va nv cv, .int .i64 1], .agg #[.int .i64 k', .int .i64 h', .string t', .slice la' nl' cl', .slice ka' nk' ck', .slice va' nv' cv'], .int .i64 1] w (Yes w) := by
  go_enter Tryz.func20, Tryz.ntmps20
  go_wp2_with fail
  go_ret
  exact ⟨rfl, below_alloc2 _ _ _⟩
set_option maxRecDepth 100000 in
theorem told_silent (k h k' h' n : Int) (t t' : ByteArray) (la ka va la' ka' va' : Option Addr) (nl cl nk ck nv cv nl' cl' nk' ck' nv' cv' : Nat) (w : World) :
    Calls Tryz.prog 20 #[.agg #[.int .i64 k, .int .i64 h, .string t, .slice la nl cl, .slice ka nk ck, .slice va nv cv, .int .i64 n], .agg #[.int .i64 k', .int .i64 h', .string t', .slice la' nl' cl', .slice ka' nk' ck', .slice va' nv' cv'], .int .i64 2] w (Yes w) := by
  go_enter Tryz.func20, Tryz.ntmps20
  go_wp2_with fail
  go_ret
  exact ⟨rfl, below_alloc2 _ _ _⟩
set_option maxRecDepth 100000 in
theorem told_val (w : World) (a b : V) (c0 c1 c2 c3 c4 c5 : Value) (cb : List Value) (ha : RepV w w.heap.size a [c0, c1, c2, c3, c4, c5]) (hb : RepV w w.heap.size b cb) :
    Calls Tryz.prog 20 #[.agg #[c0, c1, c2, c3, c4, c5, .int .i64 0], .agg cb.toArray, .int .i64 0] w (BoolP w (sameB a b)) := by
  have H := Lib.hid (same_any w w.heap.size a b _ _ ha hb)
  obtain ⟨k, h, t, la, ka, va, nl, cl, nk, ck, nv, cv, e⟩ := ha.shape
  obtain ⟨k', h', t', la', ka', va', nl', cl', nk', ck', nv', cv', rfl⟩ := hb.shape
  simp only [List.cons.injEq, and_true] at e
  obtain ⟨rfl, rfl, rfl, rfl, rfl, rfl⟩ := e
  clear ha hb
  have hbW := below_alloc2 w (.cells #[.int .i64 k, .int .i64 h, .string t, .slice la nl cl, .slice ka nk ck, .slice va nv cv, .int .i64 0] 32)
    (.cells #[.int .i64 k', .int .i64 h', .string t', .slice la' nl' cl', .slice ka' nk' ck', .slice va' nv' cv'] 26)
  go_enter Tryz.func20, Tryz.ntmps20
  go_wp2_with fail
  refine (H.out _ hbW (by simp; omega)).mono ?_
  rintro e w2 ⟨rfl, hw⟩
  go_wp2_with fail
  go_ret
  exact ⟨rfl, below_next hbW hw⟩
end Go.Proofs.YtjlkoekfcdpnaaaGreatDoor

namespace Go.Proofs.YtjlkoekfcdpnaaaGreatDoor
open Go Go.RowKit Go.Maps Go.Deep
/-- What impl.result returns where the answer is an. -/
def ResQ (w : World) (an : Ans) (e : Ending) (w' : World) : Prop :=
  ∃ (k h : Int) (t : ByteArray) (la ka va : Option Addr) (nl cl nk ck nv cv : Nat) (n : Int), e = .returned (.agg #[.int .i64 k, .int .i64 h, .string t, .slice la nl cl, .slice ka nk ck, .slice va nv cv, .int .i64 n]) ∧
    ((∀ v, an = .fine v → n = 0 ∧ RepS w' (FreshS w.heap.size w'.heap.size) v [.int .i64 k, .int .i64 h, .string t, .slice la nl cl, .slice ka nk ck, .slice va nv cv]) ∧ (an = .raises → n = 1)) ∧ Below w.heap.size w w'
theorem resQ_val {w : World} {x : Value} {v : V} {an : Ans} (h : Calls Tryz.prog 17 #[x] w (ResV w v)) (ha : an = .fine v ∨ an = .silent) : Calls Tryz.prog 17 #[x] w (ResQ w an) := by
  refine h.mono ?_
  rintro e w' ⟨c0, c1, c2, c3, c4, c5, rfl, hr, hb⟩
  obtain ⟨k, h, t, la, ka, va, nl, cl, nk, ck, nv, cv, e⟩ := hr.shape
  simp only [List.cons.injEq, and_true] at e
  obtain ⟨rfl, rfl, rfl, rfl, rfl, rfl⟩ := e
  refine ⟨_, _, _, _, _, _, _, _, _, _, _, _, _, rfl, ⟨fun v' hv => ?_, fun hv => ?_⟩, hb⟩
  · rcases ha with ha | ha
    · rw [ha] at hv
      cases hv
      exact ⟨rfl, hr⟩
    · rw [ha] at hv; cases hv
  · rcases ha with ha | ha <;> (rw [ha] at hv; cases hv)
theorem resQ_err {u : Value} (hu : ErrV u) (w : World) : Calls Tryz.prog 17 #[u] w (ResQ w .raises) :=
  (result_err u hu w).mono fun e w' ⟨he, hb⟩ => ⟨_, _, _, _, _, _, _, _, _, _, _, _, _, he, ⟨fun v hv => (by cases hv), fun _ => rfl⟩, hb⟩
/-- What a callback leaves, for impl.result. -/
abbrev SubR (w : World) (an : Ans) (v : Value) (w' : World) : Prop := (v = .nilIface ∨ ∃ t y, v = .iface t y) ∧ Calls Tryz.prog 17 #[v] w' (ResQ w' an) ∧ Below w.heap.size w w'
theorem resQ_store {w w3 w4 : World} {an : Ans} {z : Nat} {k h : Int} {t : ByteArray} {la ka va : Option Addr} {nl cl nk ck nv cv : Nat} {n : Int} (hz : w.heap.size ≤ z) (hz2 : z < w3.heap.size) (hb3 : Below w.heap.size w w3) (hb4 : Below w3.heap.size w3 w4)
    (hR : (∀ v, an = .fine v → n = 0 ∧ RepS w4 (FreshS w3.heap.size w4.heap.size) v [.int .i64 k, .int .i64 h, .string t, .slice la nl cl, .slice ka nk ck, .slice va nv cv]) ∧ (an = .raises → n = 1)) :
    ResQ w an (.returned (.agg #[.int .i64 k, .int .i64 h, .string t, .slice la nl cl, .slice ka nk ck, .slice va nv cv, .int .i64 n]))
      (((((((w4.setCell ⟨z, 0, none⟩ (.int .i64 k)).setCell ⟨z, 1, none⟩ (.int .i64 h)).setCell ⟨z, 2, none⟩ (.string t)).setCell ⟨z, 3, none⟩ (.slice la nl cl)).setCell ⟨z, 4, none⟩ (.slice ka nk ck)).setCell ⟨z, 5, none⟩ (.slice va nv cv)).setCell ⟨z, 6, none⟩ (.int .i64 n)) := by
  have h3 := hb3.size
  have h4 := hb4.size
  refine ⟨_, _, _, _, _, _, _, _, _, _, _, _, _, rfl, ⟨fun v hv => ?_, hR.2⟩, ?_⟩
  · obtain ⟨e, hr⟩ := hR.1 v hv
    refine ⟨e, hr.turn fun q hq => ⟨set7_other _ _ _ _ _ _ _ _ _ _ ?_, ?_⟩⟩
    · unfold FreshS at hq; omega
    · unfold FreshS at hq ⊢
      rw [set7_size]
      omega
  · exact (((((((hb3.trans (hb4.mono h3)).setCell (by simp; omega) _).setCell (by simp; omega) _).setCell (by simp; omega) _).setCell (by simp; omega) _).setCell (by simp; omega) _).setCell (by simp; omega) _).setCell (by simp; omega) _
/-- What a result of seven cells says, where the answer is an. -/
def Got (w : World) (an : Ans) (k h : Int) (t : ByteArray) (la ka va : Option Addr) (nl cl nk ck nv cv : Nat) (n : Int) : Prop :=
  (∀ v, an = .fine v → n = 0 ∧ RepV w w.heap.size v [.int .i64 k, .int .i64 h, .string t, .slice la nl cl, .slice ka nk ck, .slice va nv cv]) ∧ (an = .raises → n = 1)
/-- A result of seven cells; new memory alone since W. -/
def GotFrom (W : World) (an : Ans) (e : Ending) (w' : World) : Prop :=
  ∃ (k h : Int) (t : ByteArray) (la ka va : Option Addr) (nl cl nk ck nv cv : Nat) (n : Int), e = .returned (.agg #[.int .i64 k, .int .i64 h, .string t, .slice la nl cl, .slice ka nk ck, .slice va nv cv, .int .i64 n]) ∧
    Got w' an k h t la ka va nl cl nk ck nv cv n ∧ Below W.heap.size W w'
theorem ResQ.from {W w : World} {an : Ans} {e : Ending} {w' : World} (h : ResQ w an e w') (hw : Below W.heap.size W w) : GotFrom W an e w' := by
  obtain ⟨k, h, t, la, ka, va, nl, cl, nk, ck, nv, cv, n, he, hR, hb⟩ := h
  exact ⟨k, h, t, la, ka, va, nl, cl, nk, ck, nv, cv, n, he, ⟨fun v hv => ⟨(hR.1 v hv).1, (hR.1 v hv).2.toV fun q hq => hq.2⟩, hR.2⟩, hw.trans (hb.mono hw.size)⟩
theorem told_ans {w : World} {an : Ans} (hg : ∀ v, an = .fine v → Good v) {k h n k1 h1 : Int} {t t1 : ByteArray} {la ka va la1 ka1 va1 : Option Addr} {nl cl nk ck nv cv nl1 cl1 nk1 ck1 nv1 cv1 : Nat}
    (hR : Got w an k h t la ka va nl cl nk ck nv cv n) (hP : ∀ v, an = .fine v → RepV w w.heap.size v [.int .i64 k1, .int .i64 h1, .string t1, .slice la1 nl1 cl1, .slice ka1 nk1 ck1, .slice va1 nv1 cv1]) :
    Calls Tryz.prog 20 #[.agg #[.int .i64 k, .int .i64 h, .string t, .slice la nl cl, .slice ka nk ck, .slice va nv cv, .int .i64 n], .agg #[.int .i64 k1, .int .i64 h1, .string t1, .slice la1 nl1 cl1, .slice ka1 nk1 ck1, .slice va1 nv1 cv1], .int .i64 an.how] w (Yes w) := by
  cases an with
  | raises =>
    obtain rfl := hR.2 rfl
    exact told_raises _ _ _ _ _ _ _ _ _ _ _ _ _ _ _ _ _ _ _ _ _ _ _ _ w
  | silent => exact told_silent _ _ _ _ _ _ _ _ _ _ _ _ _ _ _ _ _ _ _ _ _ _ _ _ _ w
  | fine v =>
    obtain ⟨rfl, r1⟩ := hR.1 v rfl
    have := told_val w v v _ _ _ _ _ _ _ r1 (hP v rfl)
    rw [(sameB_iff (hg v rfl) (hg v rfl)).2 rfl] at this
    exact this
end Go.Proofs.YtjlkoekfcdpnaaaGreatDoor

namespace Go.Proofs.YtjlkoekfcdpnaaaGreatDoor
open Go Go.RowKit Go.Deep
def JR (w : World) (an : Ans) (v : Value) (w' : World) : Prop := Below w.heap.size w w' ∧ (∀ y, an = .fine y → RepJ w' (· < w'.heap.size) (toJ y) v) ∧ (an = .raises → ErrV v)
theorem jr_err {w w' : World} {an : Ans} (ha : an = .raises) {v : Value} (hv : ErrV v) (hb : Below w.heap.size w w') : JR w an v w' :=
  ⟨hb, fun y e => (by rw [ha] at e; cases e), fun _ => hv⟩
theorem small_row {l : List V} (hl : l.length * 104 ≤ 140737488351232) (h : ∀ x ∈ l, Small x) : Small (.mk 5 0 ⟨#[]⟩ l [] []) :=
  .mk hl (by simp) (by simp) (fun i hi => h _ (List.getElem_mem hi)) (fun i hi => by simp at hi)
theorem small_null : Small nullV := .mk (by simp) (by simp) (by simp) (fun i hi => by simp at hi) (fun i hi => by simp at hi)
theorem Small.parts {v : V} (h : Small v) : v.list.length * 104 ≤ 140737488351232 ∧ (∀ x ∈ v.list, Small x) ∧ ∀ x ∈ v.vals, Small x := by
  cases h with
  | mk hl hks hvs sl sv =>
    refine ⟨hl, fun x hx => ?_, fun x hx => ?_⟩
    · obtain ⟨i, hi, rfl⟩ := List.mem_iff_getElem.1 hx
      exact sl i hi
    · obtain ⟨i, hi, rfl⟩ := List.mem_iff_getElem.1 hx
      exact sv i hi
theorem stepA_small {v k x : V} (s : Small v) (h : stepA v k = .fine x) : Small x := by
  obtain ⟨hl, sl, sv⟩ := s.parts
  refine stepA_own (P := Small) small_null s sl sv (fun a n => small_row ?_ fun y hy => sl y (List.mem_of_mem_drop (List.mem_of_mem_take hy))) h
  have : ((v.list.drop a).take n).length ≤ v.list.length := by simp; omega
  omega
theorem pathA_small : ∀ {p : List V} {v x : V}, Small v → pathA v p = .fine x → Small x
  | [], v, x, g, h => by cases h; exact g
  | k :: p, v, x, g, h => by
    simp only [pathA] at h
    cases hs : stepA v k with
    | fine y => rw [hs] at h; exact pathA_small (stepA_small g hs) h
    | raises => rw [hs] at h; cases h
    | silent => rw [hs] at h; cases h
theorem subR_of {w w' : World} {an : Ans} {v : Value} (hg : ∀ y, an = .fine y → Good y ∧ Small y) (hns : an ≠ .silent) (h : JR w an v w') : SubR w an v w' := by
  obtain ⟨hb, hf, hr⟩ := h
  cases an with
  | fine y =>
    have hj := hf y rfl
    obtain ⟨gy, sy⟩ := hg y rfl
    exact ⟨hj.form, resQ_val (result_val hj.noErr hj.form w' w'.heap.size (fromGo_any gy sy w' w'.heap.size _ _ hj (fun k hk => hk)) w' (Below.refl _ _) (Nat.le_refl _)) (.inl rfl), hb⟩
  | raises =>
    have hv := hr rfl
    exact ⟨by obtain ⟨t, a, rfl⟩ := hv.form; exact .inr ⟨_, _, rfl⟩, resQ_err hv _, hb⟩
  | silent => exact absurd rfl hns
end Go.Proofs.YtjlkoekfcdpnaaaGreatDoor

namespace Go.Proofs.YtjlkoekfcdpnaaaGreatDoor
open Go Go.RowKit Go.Maps Go.Deep Go.WideMaps
attribute [local go_sem] assert_sl assert_sl_nil
set_option maxHeartbeats 2000000 in
set_option maxRecDepth 100000 in
theorem zzDel_walk {R : Value → World → Prop} {x p : Value} {w : World} (fx : IsI x) (fp : IsI p) (H : Calls Tryz.prog 36 #[x, p, .map (some w.heap.size)] (w.alloc (.map #[] 0)) (Ret R)) (hR : ∀ u w', R u w' → IsI u) : Calls Tryz.prog 18 #[x, p] w (Ret R) := by
  have hmm := @run_makeMap Tryz.prog
  have F : Calls Tryz.prog 26 #[x, p] w (Ret R) := by
    have HH := Lib.hid H
    have HR := Lib.hid hR
    clear H hR
    rcases fx with rfl | ⟨tx, x, rfl⟩ <;> rcases fp with rfl | ⟨tp, p, rfl⟩
    all_goals
      go_enter Tryz.func26, Tryz.ntmps26
      go_wp2_with fail
      refine HH.out.mono ?_
      rintro e w1 ⟨u, rfl, hr⟩
      have fu := HR.out u w1 hr
      have Hr := Lib.hid hr
      clear hr HH
      rcases fu with rfl | ⟨tu, u, rfl⟩
      all_goals
        go_wp2_with fail
        go_ret
        exact ⟨_, rfl, Hr.out⟩
  have HH := Lib.hid F
  have HR := Lib.hid hR
  clear H hR F hmm
  rcases fx with rfl | ⟨tx, x, rfl⟩ <;> rcases fp with rfl | ⟨tp, p, rfl⟩
  all_goals
    go_enter Tryz.func18, Tryz.ntmps18
    go_wp2_with fail
    refine HH.out.mono ?_
    rintro e w1 ⟨u, rfl, hr⟩
    have fu := HR.out u w1 hr
    have Hr := Lib.hid hr
    clear hr HH
    rcases fu with rfl | ⟨tu, u, rfl⟩
    all_goals
      go_wp2_with fail
      go_ret
      exact ⟨_, rfl, Hr.out⟩
/-- What is left by these paths: v itself, or v without what stands at them. -/
def LeftBy (v : V) (ss : List (List Stp)) (r : V) : Prop := (ss = [] ∧ r = v) ∨ (ss ≠ [] ∧ ∃ j, delJ (toJ v) ss = some j ∧ Hol v j r)
/-- What ZzDelPaths leaves, for impl.result; old memory stands below lo. -/
abbrev SubB (lo : Nat) (w : World) (an : Ans) (v : Value) (w' : World) : Prop := (v = .nilIface ∨ ∃ t y, v = .iface t y) ∧ Calls Tryz.prog 17 #[v] w' (ResQ w' an) ∧ Below lo w w'
end Go.Proofs.YtjlkoekfcdpnaaaGreatDoor

namespace Go.Proofs.YtjlkoekfcdpnaaaGreatDoor
open Go Go.RowKit Go.Deep
set_option maxHeartbeats 1000000 in
set_option maxRecDepth 100000 in
theorem implDel_walk {w0 : World} {B : Nat} {a b : V} {ca cb : List Value} (ha : RepV w0 B a ca) (hb : RepV w0 B b cb) (an : Ans)
    (ta : ToGoOK w0 B a ca) (tb : ToGoOK w0 B b cb)
    (hz : ∀ w (lo N : Nat) x y, lo ≤ N → N ≤ w.heap.size → RepJ w (fun k => lo ≤ k ∧ k < N) (toJ a) x → RepJ w (fun k => N ≤ k ∧ k < w.heap.size) (toJ b) y → Calls Tryz.prog 18 #[x, y] w (Ret (SubB lo w an)))
    (w : World) (hbel : Below B w0 w) (hB : B ≤ w.heap.size) : Calls Tryz.prog 9 #[.agg ca.toArray, .agg cb.toArray] w (ResQ w an) := by
  have Ta := Lib.hid ta; clear ta
  have Tb := Lib.hid tb; clear tb
  have Hz := Lib.hid hz; clear hz
  have Hbel := Lib.hid hbel; clear hbel
  obtain ⟨k, h, t, la, ka, va, nl, cl, nk, ck, nv, cv, rfl⟩ := ha.shape
  obtain ⟨k', h', t', la', ka', va', nl', cl', nk', ck', nv', cv', rfl⟩ := hb.shape
  clear ha hb
  go_enter Tryz.func9, Tryz.ntmps9
  go_wp2_with fail
  have h0 := at_alloc3 w (.cells #[.int .i64 k, .int .i64 h, .string t, .slice la nl cl, .slice ka nk ck, .slice va nv cv] 26)
    (.cells #[.int .i64 k', .int .i64 h', .string t', .slice la' nl' cl', .slice ka' nk' ck', .slice va' nv' cv'] 26)
    (.cells #[.int .i64 0, .int .i64 0, .string ⟨#[]⟩, .slice none 0 0, .slice none 0 0, .slice none 0 0, .int .i64 0] 32)
  obtain ⟨hbW, hsW, hx1, hx2⟩ := h0
  refine (Ta.out _ (Hbel.out.trans (hbW.mono hB)) (by rw [hsW]; omega)).mono ?_
  generalize ((w.alloc _).alloc _).alloc _ = W at *
  rintro e w1 ⟨x, rfl, jx, hw1⟩
  have hs1 : w.heap.size + 3 ≤ w1.heap.size := by have := hw1.size; omega
  have y1 := (hw1.block (w.heap.size + 1) (by omega)).trans hx1
  have y2 := (hw1.block (w.heap.size + 1 + 1) (by omega)).trans hx2
  have hb1 : Below w.heap.size w w1 := hbW.trans (hw1.mono (by omega))
  obtain ⟨e0, e1, e2, e3, e4, e5⟩ := of_block6 y1
  have fx := jx.form
  have Jx := Lib.hid jx; clear jx
  have Hw1 := Lib.hid hw1; clear hw1
  go_wp2_with fail
  refine (Tb.out _ (Hbel.out.trans (hb1.mono hB)) (by omega)).mono ?_
  rintro e w2 ⟨y, rfl, jy, hw2⟩
  have hs2 : w.heap.size + 3 ≤ w2.heap.size := by have := hw2.size; omega
  have z2 := (hw2.block (w.heap.size + 1 + 1) (by omega)).trans y2
  have hb2 : Below w.heap.size w w2 := hb1.trans (hw2.mono (by omega))
  have jx2 := Jx.out.under hw2 (fun k hk => hk.2)
  have fy := jy.form
  have Z := Lib.hid (Hz.out w2 (w.heap.size + 3) w1.heap.size _ _ hs1 hw2.size (jx2.mono (fun k hk => ⟨by have := hk.1; omega, hk.2⟩)) jy)
  clear jx2 jy Jx
  rcases fx with rfl | ⟨tx, x, rfl⟩ <;> rcases fy with rfl | ⟨ty, y, rfl⟩
  all_goals
    go_wp2_with fail
    refine Z.out.mono ?_
    rintro e w3 ⟨u, rfl, hfu, hu, hw3⟩
    have hw3s := hw3.size
    have hs3 : w.heap.size + 3 ≤ w3.heap.size := by omega
    have z3 := (hw3.block (w.heap.size + 1 + 1) (by omega)).trans z2
    have hb3 : Below w.heap.size w w3 := hb2.trans (hw3.mono (by omega))
    have U := Lib.hid hu
    clear hu
    rcases hfu with rfl | ⟨tu, u, rfl⟩
    all_goals
      go_wp2_with fail
      refine U.out.mono ?_
      rintro e w4 ⟨k, h, t, la, ka, va, nl, cl, nk, ck, nv, cv, n, rfl, hR, hw4⟩
      have hs4 : w.heap.size + 3 ≤ w4.heap.size := by have := hw4.size; omega
      have z4 := (hw4.block (w.heap.size + 1 + 1) (by omega)).trans z3
      obtain ⟨e0, e1, e2, e3, e4, e5, e6⟩ := of_block7 z4
      obtain ⟨f0, f1, f2, f3, f4, f5, f6⟩ := free_block7 z4
      have Hst := Lib.hid (resQ_store (z := w.heap.size + 1 + 1) (by omega) (by omega) hb3 hw4 hR)
      clear hR
      go_wp2_with fail
      refine bodyPost_ret (v := .agg #[.int .i64 k, .int .i64 h, .string t, .slice la nl cl, .slice ka nk ck, .slice va nv cv, .int .i64 n]) ?_ rfl Hst.out
      exact results_cell_row (p := 4) (ty := 32) rfl _ _ (w.heap.size + 1 + 1) 32 _ (0, 0) _ rfl (set_row7 z4 _ _ _ _ _ _ _) Tryz.underlying32 rfl (by kernel_rfl)
theorem LeftBy.rest {v r : V} {ss : List (List Stp)} (g : Good v) (h : LeftBy v ss r) : Rest v r := by
  rcases h with ⟨_, rfl⟩ | ⟨_, j, _, hr⟩
  · exact rest_refl r g
  · exact hol_rest v j r hr
end Go.Proofs.YtjlkoekfcdpnaaaGreatDoor
