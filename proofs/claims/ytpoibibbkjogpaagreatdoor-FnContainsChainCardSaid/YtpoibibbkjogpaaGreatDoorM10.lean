/- Contracts of spec.sign, texts, keys, lists, Cmp, Same, at values that read. -/
/- Contracts of impl.result at what is no error; spec.Same and laws.told at good values. -/
import Derived.Test.YtpoibibbkjogpaaGreatDoorM01
import Derived.Test.YtpoibibbkjogpaaGreatDoorM05
import Derived.WalkLawsBesides
import Derived.Test.YtpoibibbkjogpaaGreatDoorM09
namespace Go.Proofs.YtpoibibbkjogpaaGreatDoor
open Go Go.RowKit

theorem sign_any (n : Int) (w : World) : Calls Tryz.prog 75 #[.int .i64 n] w fun e w' => e = .returned (.int .i64 (signI n)) ∧ w' = w := by
  by_cases h : n < 0
  · go_enter Tryz.func75, Tryz.ntmps75
    go_wp2_with fail
    go_ret
    exact ⟨by simp [signI, h], rfl⟩
  · by_cases h' : 0 < n
    · go_enter Tryz.func75, Tryz.ntmps75
      go_wp2_with fail
      go_ret
      exact ⟨by simp [signI, h, h'], rfl⟩
    · go_enter Tryz.func75, Tryz.ntmps75
      go_wp2_with fail
      go_ret
      exact ⟨by unfold signI; rw [if_neg (by omega), if_neg (by omega)]; rfl, rfl⟩

theorem texts_any (a b : ByteArray) (w : World) : Calls Tryz.prog 76 #[.string a, .string b] w fun e w' => e = .returned (.int .i64 (textsC a b)) ∧ w' = w := by
  have hsw : Op.bytesLess a.toList b.toList = false → (a.toList == b.toList) = !Op.bytesLess b.toList a.toList := by
    intro h
    by_cases e : a.toList = b.toList
    · rw [e, bLess_eq]; simp [List.lt_irrefl]
    · have : (a.toList == b.toList) = false := by simpa using e
      rw [this]
      rw [bLess_eq] at h ⊢
      simp only [decide_eq_false_iff_not] at h
      symm
      rw [Bool.not_eq_false', decide_eq_true_eq]
      exact Decidable.byContradiction fun h2 => e (List.le_antisymm (List.not_lt.1 h2) (List.not_lt.1 h))
  cases h : Op.bytesLess a.toList b.toList
  · have hs := hsw h
    cases h' : Op.bytesLess b.toList a.toList
    · have hc : textsC a b = 0 := by unfold textsC; rw [h, h']; rfl
      rw [h'] at hs
      have Hc := Lib.hid hc
      clear hc hsw
      go_enter Tryz.func76, Tryz.ntmps76
      go_wp2_with fail
      go_ret
      exact ⟨by rw [Hc.out]; rfl, rfl⟩
    · have hc : textsC a b = 1 := by unfold textsC; rw [h, h']; rfl
      rw [h'] at hs
      have Hc := Lib.hid hc
      clear hc hsw
      go_enter Tryz.func76, Tryz.ntmps76
      go_wp2_with fail
      go_ret
      exact ⟨by rw [Hc.out]; rfl, rfl⟩
  · have hc : textsC a b = -1 := by unfold textsC; rw [h]; rfl
    have Hc := Lib.hid hc
    clear hc hsw
    go_enter Tryz.func76, Tryz.ntmps76
    go_wp2_with fail
    go_ret
    exact ⟨by rw [Hc.out]; rfl, rfl⟩

def TwoLoop (w : World) (n1 n2 : Nat) (rest : Nat → Int) (fin : Int) (i : Value) (wr : World) : Prop :=
  ∃ n : Nat, n ≤ n1 ∧ n ≤ n2 ∧ i = .int .i64 (n : Nat) ∧ Below w.heap.size w wr ∧ rest n = fin

def IntP (w : World) (c : Int) (e : Ending) (w' : World) : Prop := e = .returned (.int .i64 c) ∧ Below w.heap.size w w'

set_option maxHeartbeats 1000000 in
set_option maxRecDepth 100000 in
theorem keys_any (w : World) (ks ks' : List ByteArray) (ka ka' : Option Addr) (kc kc' : Nat) (hl : ks.length * 16 ≤ 140737488351232) (hl' : ks'.length * 16 ≤ 140737488351232)
    (ck : 0 < ks.length → ∃ b o, ka = some ⟨b, o, none⟩ ∧ b < w.heap.size ∧ ∀ i (hi : i < ks.length), w.cell? ⟨b, o + i, none⟩ = some (.string ks[i]))
    (ck' : 0 < ks'.length → ∃ b o, ka' = some ⟨b, o, none⟩ ∧ b < w.heap.size ∧ ∀ i (hi : i < ks'.length), w.cell? ⟨b, o + i, none⟩ = some (.string ks'[i])) :
    Calls Tryz.prog 78 #[.slice ka ks.length kc, .slice ka' ks'.length kc'] w (IntP w (keysC ks ks')) := by
  have Hck := Lib.hid ck; clear ck
  have Hck' := Lib.hid ck'; clear ck'
  go_enter Tryz.func78, Tryz.ntmps78
  go_wp2_with fail
  go_loopw [5] (fun i wr => TwoLoop w ks.length ks'.length (fun n => keysC (ks.drop n) (ks'.drop n)) (keysC ks ks') i wr) (fun i _ => ks.length - (intOf i).toNat)
  case atStart => exact ⟨0, Nat.zero_le _, Nat.zero_le _, rfl, Below.refl _ _, rfl⟩
  case round =>
    obtain ⟨n, hn, hn', rfl, hb, hfin⟩ := hrel
    have Hfin := Lib.hid hfin; clear hfin
    by_cases h1 : n < ks.length
    · by_cases h2 : n < ks'.length
      · obtain ⟨b1, o1, rfl, hb1, c1⟩ := Hck.out (by omega)
        obtain ⟨b2, o2, rfl, hb2, c2⟩ := Hck'.out (by omega)
        have y1 : wr.cell? ⟨b1, o1 + n, none⟩ = some (.string ks[n]) := (hb.cell (p := ⟨b1, o1 + n, none⟩) hb1).trans (c1 n h1)
        have y2 : wr.cell? ⟨b2, o2 + n, none⟩ = some (.string ks'[n]) := (hb.cell (p := ⟨b2, o2 + n, none⟩) hb2).trans (c2 n h2)
        have hd := keysC_drop ks ks' n h1 h2
        have Hd := Lib.hid (Hfin.out.symm.trans hd); clear hd
        have t1 : (n : Int) < (ks.length : Int) := by omega
        have t2 : (n : Int) < (ks'.length : Int) := by omega
        have t3 : (0 : Int) ≤ (n : Int) := by omega
        clear c1 c2
        generalize ks[n] = x at y1 Hd
        generalize ks'[n] = y at y2 Hd
        go_wp2_with fail
        refine wp_region_tail 8 (by kernel_rfl) (by kernel_rfl) ?_
        simp only [List.take_succ_cons, List.take_zero, List.drop_succ_cons, List.drop_zero]
        repeat (go_big_quiet_step (fail))
        refine wpQuiet_nil ?_
        clear t1 t2 t3
        go_wp2_with fail
        refine (texts_any _ _ _).mono ?_
        rintro e w2 ⟨rfl, rfl⟩
        generalize textsC x y = c at Hd
        by_cases hc : c = 0
        · have Hd2 := Lib.hid (Hd.out.trans (if_pos hc)); clear Hd
          subst hc
          go_wp2_with fail
          go_roundw
          case rel => exact ⟨n + 1, by omega, by omega, by go_num, hb.drew, Hd2.out.symm⟩
          case measure => simp [intOf]; omega
        · have Hd2 := Lib.hid (Hd.out.trans (if_neg hc)); clear Hd
          have tc : (c != 0) = true := by simpa using hc
          clear hc
          go_wp2_with fail
          go_ret
          exact ⟨by rw [Hd2.out]; rfl, hb.drew⟩
      · have hd := keysC_end ks ks' n (by omega) hn hn'
        have Hd := Lib.hid (Hfin.out.symm.trans hd); clear hd
        go_wp2_with fail
        go_ret
        exact ⟨by rw [Hd.out]; rfl, hb⟩
    · have hd := keysC_end ks ks' n (by omega) hn hn'
      have Hd := Lib.hid (Hfin.out.symm.trans hd); clear hd
      go_wp2_with fail
      go_ret
      exact ⟨by rw [Hd.out]; rfl, hb⟩

def CmpOK (w0 : World) (B : Nat) (a b : V) (ca cb : List Value) : Prop :=
  ∀ w, Below B w0 w → B ≤ w.heap.size → Calls Tryz.prog 58 #[.agg ca.toArray, .agg cb.toArray] w (IntP w (cmpV a b))

set_option maxHeartbeats 2000000 in
set_option maxRecDepth 100000 in
theorem lists_of (w0 : World) (B : Nat) (l l' : List V) (la la' : Option Addr) (lc lc' : Nat) (C C' : Nat → List Value) (hl : l.length * 104 ≤ 140737488351232) (hl' : l'.length * 104 ≤ 140737488351232)
    (cl : 0 < l.length → ∃ b o, la = some ⟨b, o, none⟩ ∧ b < B ∧ ∀ i, i < l.length → CellsAt w0 b (o + i * 6) (C i)) (rl : ∀ i (hi : i < l.length), RepV w0 B l[i] (C i))
    (cl' : 0 < l'.length → ∃ b o, la' = some ⟨b, o, none⟩ ∧ b < B ∧ ∀ i, i < l'.length → CellsAt w0 b (o + i * 6) (C' i)) (rl' : ∀ i (hi : i < l'.length), RepV w0 B l'[i] (C' i))
    (ih : ∀ i (hi : i < l.length) j (hj : j < l'.length), CmpOK w0 B l[i] l'[j] (C i) (C' j)) (w : World) (hbel : Below B w0 w) (hB : B ≤ w.heap.size) :
    Calls Tryz.prog 77 #[.slice la l.length lc, .slice la' l'.length lc'] w (IntP w (cmpL l l')) := by
  have Hcl := Lib.hid cl; clear cl
  have Hcl' := Lib.hid cl'; clear cl'
  have Hih := Lib.hid ih; clear ih
  have Hbel := Lib.hid hbel; clear hbel
  go_enter Tryz.func77, Tryz.ntmps77
  go_wp2_with fail
  go_loopw [5] (fun i wr => TwoLoop w l.length l'.length (fun n => cmpL (l.drop n) (l'.drop n)) (cmpL l l') i wr) (fun i _ => l.length - (intOf i).toNat)
  case atStart => exact ⟨0, Nat.zero_le _, Nat.zero_le _, rfl, Below.refl _ _, rfl⟩
  case round =>
    obtain ⟨n, hn, hn', rfl, hb, hfin⟩ := hrel
    have Hfin := Lib.hid hfin; clear hfin
    by_cases h1 : n < l.length
    · by_cases h2 : n < l'.length
      · obtain ⟨b1, o1, rfl, hb1, c1⟩ := Hcl.out (by omega)
        obtain ⟨b2, o2, rfl, hb2, c2⟩ := Hcl'.out (by omega)
        have hb0 : Below B w0 wr := Hbel.out.trans (hb.mono hB)
        have cc := (c1 n h1).below hb0 hb1
        have cc' := (c2 n h2).below hb0 hb2
        have ih := Hih.out n h1 n h2 wr.drew hb0.drew (by have := hb.size; show B ≤ wr.heap.size; omega)
        obtain ⟨k1, q1, t1, la1, ka1, va1, nl1, cl1, nk1, ck1, nv1, cv1, hC⟩ := (rl n h1).shape
        obtain ⟨k2, q2, t2, la2, ka2, va2, nl2, cl2, nk2, ck2, nv2, cv2, hC'⟩ := (rl' n h2).shape
        rw [hC] at cc ih
        rw [hC'] at cc' ih
        obtain ⟨y0, y1, y2, y3, y4, y5⟩ := cells6 cc
        obtain ⟨z0, z1, z2, z3, z4, z5⟩ := cells6 cc'
        have HI := Lib.hid ih
        have hd := cmpL_drop l l' n h1 h2
        have Hd := Lib.hid (Hfin.out.symm.trans hd); clear hd
        have u1 : (n : Int) < (l.length : Int) := by omega
        have u2 : (n : Int) < (l'.length : Int) := by omega
        have u3 : (0 : Int) ≤ (n : Int) := by omega
        clear c1 c2 cc cc' ih hC hC' hb0
        go_wp2_with fail
        refine wp_region_tail 8 (by kernel_rfl) (by kernel_rfl) ?_
        simp only [List.take_succ_cons, List.take_zero, List.drop_succ_cons, List.drop_zero]
        repeat (go_big_quiet_step (fail))
        refine wpQuiet_nil ?_
        clear u1 u2 u3 y0 y1 y2 y3 y4 y5 z0 z1 z2 z3 z4 z5
        go_wp2_with fail
        refine HI.out.mono ?_
        rintro e w2 ⟨rfl, hb3⟩
        have hb4 : Below w.heap.size w w2 := hb.drew.trans (hb3.mono hb.size)
        clear HI
        generalize cmpV l[n] l'[n] = c at Hd
        by_cases hc : c = 0
        · have Hd2 := Lib.hid (Hd.out.trans (if_pos hc)); clear Hd
          subst hc
          go_wp2_with fail
          go_roundw
          case rel => exact ⟨n + 1, by omega, by omega, by go_num, hb4, Hd2.out.symm⟩
          case measure => simp [intOf]; omega
        · have Hd2 := Lib.hid (Hd.out.trans (if_neg hc)); clear Hd
          have tc : (c != 0) = true := by simpa using hc
          clear hc
          go_wp2_with fail
          go_ret
          exact ⟨by rw [Hd2.out]; rfl, hb4⟩
      · have hd := cmpL_end l l' n (by omega) hn hn'
        have Hd := Lib.hid (Hfin.out.symm.trans hd); clear hd
        go_wp2_with fail
        go_ret
        exact ⟨by rw [Hd.out]; rfl, hb⟩
    · have hd := cmpL_end l l' n (by omega) hn hn'
      have Hd := Lib.hid (Hfin.out.symm.trans hd); clear hd
      go_wp2_with fail
      go_ret
      exact ⟨by rw [Hd.out]; rfl, hb⟩

set_option maxHeartbeats 4000000 in
set_option maxRecDepth 100000 in
theorem cmp_any (w0 : World) (B : Nat) (a : V) (ca : List Value) (ha : RepV w0 B a ca) : ∀ (b : V) (cb : List Value), RepV w0 B b cb → CmpOK w0 B a b ca cb := by
  induction ha with
  | @mk k h t l ks vs la ka va lc kc vc C D hk hh ht hl hks hvs hs cl rl ck cv rv _ ihl ihv =>
  intro b cb hb
  cases hb with
  | @mk k' h' t' l' ks' vs' la' ka' va' lc' kc' vc' C' D' hk' hh' ht' hl' hks' hvs' hs' cl' rl' ck' cv' rv' =>
  intro w hbel hB
  have hbW := below_alloc2 w (.cells #[.int .i64 k, .int .i64 h, .string t, .slice la l.length lc, .slice ka ks.length kc, .slice va vs.length vc] 26)
    (.cells #[.int .i64 k', .int .i64 h', .string t', .slice la' l'.length lc', .slice ka' ks'.length kc', .slice va' vs'.length vc'] 26)
  have hsW := size_alloc2 w (.cells #[.int .i64 k, .int .i64 h, .string t, .slice la l.length lc, .slice ka ks.length kc, .slice va vs.length vc] 26)
    (.cells #[.int .i64 k', .int .i64 h', .string t', .slice la' l'.length lc', .slice ka' ks'.length kc', .slice va' vs'.length vc'] 26)
  have L := Lib.hid fun w' h1 h2 => lists_of w0 B l l' la la' lc lc' C C' hl hl' cl rl cl' rl' (fun i hi j hj => ihl i hi _ _ (rl' j hj)) w' h1 h2
  have M := Lib.hid fun w' h1 h2 => lists_of w0 B vs vs' va va' vc vc' D D' hvs hvs' cv rv cv' rv' (fun i hi j hj => ihv i hi _ _ (rv' j hj)) w' h1 h2
  have K := Lib.hid fun (w' : World) (h1 : Below B w0 w') (h2 : B ≤ w'.heap.size) => keys_any w' ks ks' ka ka' kc kc' hks hks'
    (fun h0 => by obtain ⟨b, o, e, hb, hc⟩ := ck h0; exact ⟨b, o, e, by omega, fun i hi => (h1.cell (p := ⟨b, o + i, none⟩) hb).trans (hc i hi)⟩)
    (fun h0 => by obtain ⟨b, o, e, hb, hc⟩ := ck' h0; exact ⟨b, o, e, by omega, fun i hi => (h1.cell (p := ⟨b, o + i, none⟩) hb).trans (hc i hi)⟩)
  have Hbel := Lib.hid hbel
  clear ihl ihv cl rl ck cv rv cl' rl' ck' cv' rv' hs hs' hk hh ht hl hks hvs hk' hh' ht' hl' hks' hvs' hbel
  by_cases ek : k = k'
  · have tk : (k != k') = false := by simp [ek]
    have ev : cmpV (.mk k h t l ks vs) (.mk k' h' t' l' ks' vs') = if k = 3 then signI (wrap64 (h - h')) else if k = 4 then textsC t t'
      else if k = 5 then signI (cmpL l l') else if k = 6 then (if keysC ks ks' = 0 then signI (cmpL vs vs') else signI (keysC ks ks')) else 0 := by simp only [cmpV]; rw [if_neg (by simpa using ek)]
    clear ek
    by_cases k3 : k = 3
    · have Hev := Lib.hid (ev.trans (if_pos k3)); clear ev
      subst k3
      go_enter Tryz.func58, Tryz.ntmps58
      go_wp2_with fail
      refine (sign_any _ _).mono ?_
      rintro e w2 ⟨rfl, rfl⟩
      go_wp2_with fail
      go_ret
      exact ⟨by rw [Hev.out]; rfl, hbW⟩
    have ev := ev.trans (if_neg k3)
    have t3 : (k == 3) = false := by simpa using k3
    clear k3
    by_cases k4 : k = 4
    · have Hev := Lib.hid (ev.trans (if_pos k4)); clear ev
      subst k4
      go_enter Tryz.func58, Tryz.ntmps58
      go_wp2_with fail
      refine (texts_any _ _ _).mono ?_
      rintro e w2 ⟨rfl, rfl⟩
      go_wp2_with fail
      go_ret
      exact ⟨by rw [Hev.out]; rfl, hbW⟩
    have ev := ev.trans (if_neg k4)
    have t4 : (k == 4) = false := by simpa using k4
    clear k4
    by_cases k5 : k = 5
    · have Hev := Lib.hid (ev.trans (if_pos k5)); clear ev
      subst k5
      go_enter Tryz.func58, Tryz.ntmps58
      go_wp2_with fail
      refine (L.out _ (Hbel.out.trans (hbW.mono hB)) (by rw [hsW]; omega)).mono ?_
      rintro e w2 ⟨rfl, hb2⟩
      go_wp2_with fail
      refine (sign_any _ _).mono ?_
      rintro e w3 ⟨rfl, rfl⟩
      go_wp2_with fail
      go_ret
      exact ⟨by rw [Hev.out]; rfl, below_next hbW hb2⟩
    have ev := ev.trans (if_neg k5)
    have t5 : (k == 5) = false := by simpa using k5
    clear k5
    by_cases k6 : k = 6
    · have ev := ev.trans (if_pos k6)
      subst k6
      by_cases ec : keysC ks ks' = 0
      · have Hev := Lib.hid (ev.trans (if_pos ec)); clear ev
        have Hec := Lib.hid ec; clear ec
        go_enter Tryz.func58, Tryz.ntmps58
        go_wp2_with fail
        refine (K.out _ (Hbel.out.trans (hbW.mono hB)) (by rw [hsW]; omega)).mono ?_
        rintro e w2 ⟨rfl, hb2⟩
        rw [Hec.out]
        have hb3 := below_next hbW hb2
        obtain ⟨a0, a1, a2, a3, a4, a5⟩ := of_block6 ((hb2.block w.heap.size (by rw [hsW]; omega)).trans (at_alloc20 _ _ _))
        obtain ⟨b0, b1, b2, b3, b4, b5⟩ := of_block6 ((hb2.block (w.heap.size + 1) (by rw [hsW]; omega)).trans (at_alloc2 _ _ _))
        have hs2 : B ≤ w2.heap.size := by have := hb2.size; rw [hsW] at this; omega
        go_wp2_with fail
        refine (M.out _ (Hbel.out.trans (hb3.mono hB)) hs2).mono ?_
        rintro e w3 ⟨rfl, hb4⟩
        go_wp2_with fail
        refine (sign_any _ _).mono ?_
        rintro e w4 ⟨rfl, rfl⟩
        go_wp2_with fail
        go_ret
        exact ⟨by rw [Hev.out]; rfl, below_next hb3 hb4⟩
      · have Hev := Lib.hid (ev.trans (if_neg ec)); clear ev
        have Hec := Lib.hid ec; clear ec
        go_enter Tryz.func58, Tryz.ntmps58
        go_wp2_with fail
        refine (K.out _ (Hbel.out.trans (hbW.mono hB)) (by rw [hsW]; omega)).mono ?_
        rintro e w2 ⟨rfl, hb2⟩
        have tc : (keysC ks ks' != 0) = true := by simpa using Hec.out
        clear Hec K
        generalize keysC ks ks' = c at tc Hev ⊢
        go_wp2_with fail
        refine (sign_any _ _).mono ?_
        rintro e w4 ⟨rfl, rfl⟩
        go_wp2_with fail
        go_ret
        exact ⟨by rw [Hev.out]; rfl, below_next hbW hb2⟩
    have Hev := Lib.hid (ev.trans (if_neg k6)); clear ev
    have t6 : (k == 6) = false := by simpa using k6
    clear k6
    go_enter Tryz.func58, Tryz.ntmps58
    go_wp2_with fail
    go_ret
    exact ⟨by rw [Hev.out]; rfl, hbW⟩
  · have tk : (k != k') = true := by simpa using ek
    have Hev := Lib.hid (show cmpV (.mk k h t l ks vs) (.mk k' h' t' l' ks' vs') = signI (wrap64 (k - k')) by simp only [cmpV]; rw [if_pos ek])
    clear ek
    go_enter Tryz.func58, Tryz.ntmps58
    go_wp2_with fail
    refine (sign_any _ _).mono ?_
    rintro e w2 ⟨rfl, rfl⟩
    go_wp2_with fail
    go_ret
    exact ⟨by rw [Hev.out]; rfl, hbW⟩

/-- Two good values are the same. -/
def sameB (a b : V) : Bool := decide (cmpV a b = 0)

def BoolP (w : World) (x : Bool) (e : Ending) (w' : World) : Prop := e = .returned (.bool x) ∧ Below w.heap.size w w'

set_option maxHeartbeats 1000000 in
set_option maxRecDepth 100000 in
theorem same_any (w0 : World) (B : Nat) (a b : V) (ca cb : List Value) (ha : RepV w0 B a ca) (hb : RepV w0 B b cb) (w : World) (hbel : Below B w0 w) (hB : B ≤ w.heap.size) :
    Calls Tryz.prog 37 #[.agg ca.toArray, .agg cb.toArray] w (BoolP w (sameB a b)) := by
  have H := Lib.hid (cmp_any w0 B a ca ha b cb hb)
  obtain ⟨k, h, t, la, ka, va, nl, cl, nk, ck, nv, cv, rfl⟩ := ha.shape
  obtain ⟨k', h', t', la', ka', va', nl', cl', nk', ck', nv', cv', rfl⟩ := hb.shape
  have hbW := below_alloc2 w (.cells #[.int .i64 k, .int .i64 h, .string t, .slice la nl cl, .slice ka nk ck, .slice va nv cv] 26)
    (.cells #[.int .i64 k', .int .i64 h', .string t', .slice la' nl' cl', .slice ka' nk' ck', .slice va' nv' cv'] 26)
  have hsW := size_alloc2 w (.cells #[.int .i64 k, .int .i64 h, .string t, .slice la nl cl, .slice ka nk ck, .slice va nv cv] 26)
    (.cells #[.int .i64 k', .int .i64 h', .string t', .slice la' nl' cl', .slice ka' nk' ck', .slice va' nv' cv'] 26)
  have Hbel := Lib.hid hbel
  clear ha hb hbel
  go_enter Tryz.func37, Tryz.ntmps37
  go_wp2_with fail
  refine (H.out _ (Hbel.out.trans (hbW.mono hB)) (by rw [hsW]; omega)).mono ?_
  rintro e w2 ⟨rfl, hb2⟩
  generalize hc : cmpV a b = c
  have Hc := Lib.hid hc; clear hc
  go_wp2_with fail
  go_ret
  exact ⟨by rw [show sameB a b = (c == 0) from by unfold sameB; rw [Hc.out]; rfl]; rfl, below_next hbW hb2⟩

theorem sameB_iff {a b : V} (ga : Good a) (gb : Good b) : sameB a b = true ↔ a = b := by
  unfold sameB
  rw [decide_eq_true_eq, cmpV_zero ga gb]

end Go.Proofs.YtpoibibbkjogpaaGreatDoor

namespace Go.Proofs.YtpoibibbkjogpaaGreatDoor
open Go Go.RowKit Go.Maps Go.Deep

/-- x is no error. -/
def NoErr (x : Value) : Prop := ∀ w : World, (Instr.typeAssert x 20 66 true).run Tryz.prog w = .ok (.tuple #[.nilIface, .bool false]) w

theorem isnt_hole (v : Value) (w : World) : (Instr.typeAssert (.iface 108 v) 20 66 true).run Tryz.prog w = .ok (.tuple #[.nilIface, .bool false]) w :=
  run_assert_iface Tryz.underlying66 (by simp) (fun _ => by kernel_rfl) (by kernel_rfl) v w
theorem RepJ.noErr {w : World} {S : Nat → Prop} {j : J} {x : Value} (h : RepJ w S j x) : NoErr x := by
  intro w
  cases h with
  | null => exact isnt_nil w
  | bool => exact isnt_bool _ w
  | int => exact isnt_int _ w
  | flt => exact isnt_float _ w
  | str => exact isnt_string _ w
  | arr => exact isnt_slice _ w
  | obj => exact isnt_map _ w
  | hole => exact isnt_hole _ w

/-- What impl gives where it gives v. -/
def ResV (w : World) (v : V) (e : Ending) (w' : World) : Prop :=
  ∃ c0 c1 c2 c3 c4 c5, e = .returned (.agg #[c0, c1, c2, c3, c4, c5, .int .i64 0]) ∧ RepS w' (FreshS w.heap.size w'.heap.size) v [c0, c1, c2, c3, c4, c5] ∧ Below w.heap.size w w'

theorem set7_other (w : World) (b k : Nat) (v0 v1 v2 v3 v4 v5 v6 : Value) (h : k ≠ b) :
    (((((((w.setCell ⟨b, 0, none⟩ v0).setCell ⟨b, 1, none⟩ v1).setCell ⟨b, 2, none⟩ v2).setCell ⟨b, 3, none⟩ v3).setCell ⟨b, 4, none⟩ v4).setCell ⟨b, 5, none⟩ v5).setCell ⟨b, 6, none⟩ v6).heap[k]? = w.heap[k]? := by
  rw [Below.heap_setCell _ _ _ _ h, set6_other _ _ _ _ _ _ _ _ _ h]
theorem set7_size (w : World) (b : Nat) (v0 v1 v2 v3 v4 v5 v6 : Value) :
    (((((((w.setCell ⟨b, 0, none⟩ v0).setCell ⟨b, 1, none⟩ v1).setCell ⟨b, 2, none⟩ v2).setCell ⟨b, 3, none⟩ v3).setCell ⟨b, 4, none⟩ v4).setCell ⟨b, 5, none⟩ v5).setCell ⟨b, 6, none⟩ v6).heap.size = w.heap.size := by simp [World.setCell]

set_option maxHeartbeats 4000000 in
set_option maxRecDepth 100000 in
theorem result_val {x : Value} {v : V} (ht : NoErr x) (hf : x = .nilIface ∨ ∃ t y, x = .iface t y) (w0 : World) (B : Nat) (H : FromOK w0 B v x) (w : World) (hbel : Below B w0 w) (hB : B ≤ w.heap.size) : Calls Tryz.prog 22 #[x] w (ResV w v) := by
  have h := ht
  unfold NoErr at h
  have HH := Lib.hid (H _ (hbel.trans ((below_alloc1 w (.cells #[.int .i64 0, .int .i64 0, .string ⟨#[]⟩, .slice none 0 0, .slice none 0 0, .slice none 0 0, .int .i64 0] 31)).mono hB)) (by simp; omega))
  clear H hbel ht
  rcases hf with rfl | ⟨ty, y, rfl⟩
  all_goals
    go_enter Tryz.func22, Tryz.ntmps22
    go_wp2_with fail
    refine HH.out.mono ?_
    rintro e w2 ⟨cs, rfl, hx, hw2⟩
    have hat := (hw2.block w.heap.size (by simp)).trans (at_alloc w _)
    obtain ⟨e0, e1, e2, e3, e4, e5, e6⟩ := of_block7 hat
    obtain ⟨z0, z1, z2, z3, z4, z5, z6⟩ := free_block7 hat
    have hlt : w.heap.size < w2.heap.size := by have := hw2.size; simp at this; omega
    have hne : ¬ (w.heap.size = w2.heap.size) := by omega
    obtain ⟨k, hh, t, la', ka', va', nl, cl, nk, ck, nv, cv, hcs⟩ := hx.shape
    have Hx := Lib.hid hx
    have Hat := Lib.hid hat
    have Hw2 := Lib.hid hw2
    clear hat hw2 hx
    subst hcs
    go_wp2_with fail
    refine bodyPost_ret (v := .agg #[.int .i64 k, .int .i64 hh, .string t, .slice la' nl cl, .slice ka' nk ck, .slice va' nv cv, .int .i64 0]) ?_ rfl ⟨_, _, _, _, _, _, rfl, ?_, ?_⟩
    · refine results_cell_row (p := 2) (ty := 31) rfl _ _ w.heap.size 31 _ (0, 0) _ rfl ?_ Tryz.underlying31 rfl (by kernel_rfl)
      rw [heap_alloc_old _ _ (by rw [set7_size]; exact hlt)]
      exact set_row7 Hat.out _ _ _ _ _ _ _
    · refine Hx.out.turn fun q hq => ⟨?_, ?_⟩
      · have := hq.1
        simp at this
        rw [heap_alloc_old _ _ (by rw [set7_size]; exact hq.2), set7_other _ _ _ _ _ _ _ _ _ _ (by omega)]
      · have h1 := hq.1
        have h2 := hq.2
        simp only [World.size_alloc] at h1
        refine ⟨by omega, ?_⟩
        rw [size_alloc1, set7_size]
        omega
    · have hb : Below w.heap.size w w2 := below_next (below_alloc1 w _) Hw2.out
      refine Below.alloc ?_ (by rw [set7_size]; omega) _
      exact ((((((hb.setCell (Nat.le_refl _) _).setCell (Nat.le_refl _) _).setCell (Nat.le_refl _) _).setCell (Nat.le_refl _) _).setCell (Nat.le_refl _) _).setCell (Nat.le_refl _) _).setCell (Nat.le_refl _) _

/-- impl.Res of a float: its Half, or that it cannot be said. -/
def resHalf (b : Bool) (h : Int) : Value := .agg #[.int .i64 (if b then 3 else 0), .int .i64 (if b then h else 0), .string ⟨#[]⟩, .slice none 0 0, .slice none 0 0, .slice none 0 0, .int .i64 (if b then 0 else 3)]

set_option maxHeartbeats 4000000 in
set_option maxRecDepth 100000 in
theorem result_half {x : Nat} (P : Bool → Int → Prop) (H : ∀ w : World, Calls Tryz.prog 33 #[.iface 58 (.float .f64 x)] w fun e w' => ∃ b h, P b h ∧ e = .returned (HalfV b h) ∧ Below w.heap.size w w') (w : World) :
    Calls Tryz.prog 22 #[.iface 58 (.float .f64 x)] w fun e w' => ∃ b h, P b h ∧ e = .returned (resHalf b h) ∧ Below w.heap.size w w' := by
  have h := isnt_float (.float .f64 x)
  have HH := Lib.hid H; clear H
  go_enter Tryz.func22, Tryz.ntmps22
  go_wp2_with fail
  refine (HH.out _).mono ?_
  rintro e w2 ⟨b, hh, hP, rfl, hw2⟩
  have hat := (hw2.block w.heap.size (by simp)).trans (at_alloc w _)
  obtain ⟨e0, e1, e2, e3, e4, e5, e6⟩ := of_block7 hat
  obtain ⟨z0, z1, z2, z3, z4, z5, z6⟩ := free_block7 hat
  have hlt : w.heap.size < w2.heap.size := by have := hw2.size; simp at this; omega
  have hne : ¬ (w.heap.size = w2.heap.size) := by omega
  have HP := Lib.hid hP
  have Hat := Lib.hid hat
  have Hw2 := Lib.hid hw2
  clear hat hw2 hP
  cases b
  all_goals
    simp only [HalfV, Bool.false_eq_true, if_false, if_true]
    go_wp2_with fail
    refine bodyPost_ret (v := resHalf _ hh) ?_ rfl ⟨_, hh, HP.out, rfl, ?_⟩
    · refine results_cell_row (p := 2) (ty := 31) rfl _ _ w.heap.size 31 _ (0, 0) _ rfl ?_ Tryz.underlying31 rfl (by kernel_rfl)
      rw [heap_alloc_old _ _ (by rw [set7_size]; exact hlt)]
      exact set_row7 Hat.out _ _ _ _ _ _ _
    · have hb : Below w.heap.size w w2 := below_next (below_alloc1 w _) Hw2.out
      refine Below.alloc ?_ (by rw [set7_size]; omega) _
      exact ((((((hb.setCell (Nat.le_refl _) _).setCell (Nat.le_refl _) _).setCell (Nat.le_refl _) _).setCell (Nat.le_refl _) _).setCell (Nat.le_refl _) _).setCell (Nat.le_refl _) _).setCell (Nat.le_refl _) _

end Go.Proofs.YtpoibibbkjogpaaGreatDoor
