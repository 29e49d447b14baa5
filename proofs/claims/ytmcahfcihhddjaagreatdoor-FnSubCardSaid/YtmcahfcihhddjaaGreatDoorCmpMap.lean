/- Contract of Compare's callback at maps, over what Compare says of their values. -/
import Derived.Test.YtmcahfcihhddjaaGreatDoorDisp
import Derived.Test.YtmcahfcihhddjaaGreatDoorKeys1
namespace Go.Proofs.YtmcahfcihhddjaaGreatDoor
open Go Go.RowKit Go.Maps Go.Deep
attribute [local go_sem] assert_jsonNumber assert_jsonNumber_nil assert_int assert_int_nil assert_float64 assert_float64_nil assert_pbigInt assert_pbigInt_nil assert_string assert_string_nil assert_sl assert_sl_nil assert_m assert_m_nil assert_bool assert_bool_nil

theorem run_assert1 {P : Program} {T xT : TypeId} {d : TypeDesc} (hd : P.underlying T = some d) (hni : ∀ ms, d ≠ .interface ms) (v : Value) (w : World) :
    (Instr.typeAssert (.iface T v) xT T false).run P w = .ok v w := by
  unfold Instr.typeAssert
  cases d <;> first | (exact absurd rfl (hni _)) | simp [run_underlying hd, Result.andThen]

theorem assert1_sl (v : Value) (w : World) : (Instr.typeAssert (.iface 64 v) 20 64 false).run Tryz.prog w = .ok v w := run_assert1 Tryz.underlying64 (fun _ h => by cases h) v w
theorem assert1_str (v : Value) (w : World) : (Instr.typeAssert (.iface 9 v) 20 9 false).run Tryz.prog w = .ok v w := run_assert1 Tryz.underlying9 (fun _ h => by cases h) v w

attribute [local go_sem] assert1_sl assert1_str
theorem cmp_strs (s t : ByteArray) (w : World) : Calls Tryz.prog 75 #[.iface 9 (.string s), .iface 9 (.string t)] w (IntP w (textsC s t)) :=
  compare_of _ _ _ w (bini_ss _ _ _ _ _ _ _ _ _ w _ (enters_of Tryz.func93 (by kernel_rfl) rfl) (same_ret (cmps_any _ _ w)))

theorem signI_texts (a b : ByteArray) : signI (textsC a b) = textsC a b := by
  unfold textsC signI
  split
  · rfl
  · split <;> rfl

def keyC (ks ks' : List ByteArray) (i : Nat) : Int := if h : i < ks.length ∧ i < ks'.length then textsC (ks[i]'h.1) (ks'[i]'h.2) else 0
theorem keyC_at (ks ks' : List ByteArray) (i : Nat) (h1 : i < ks.length) (h2 : i < ks'.length) : keyC ks ks' i = textsC ks[i] ks'[i] := dif_pos ⟨h1, h2⟩
theorem keys_firsts (ks ks' : List ByteArray) : Firsts ks.length ks'.length (keyC ks ks') (fun n => signI (keysC (ks.drop n) (ks'.drop n))) := by
  refine ⟨fun n h1 h2 => ?_, fun n h h1 h2 => ?_⟩
  · simp only [keyC_at ks ks' n h1 h2, keysC_drop ks ks' n h1 h2]
    split
    · rfl
    · exact signI_texts _ _
  · show signI _ = _
    rw [keysC_end ks ks' n h h1 h2]

theorem keys_cmp (ks ks' : List ByteArray) (b b' : Nat) (hl : ks.length * 16 ≤ 140737488351232) (w : World) (hr : w.rowIs b 20 ks.length (anyKey ks)) (hr' : w.rowIs b' 20 ks'.length (anyKey ks')) :
    Calls Tryz.prog 75 #[.iface 64 (.slice (some ⟨b, 0, none⟩) ks.length ks.length), .iface 64 (.slice (some ⟨b', 0, none⟩) ks'.length ks'.length)] w (IntP w (signI (keysC ks ks'))) := by
  refine compare_of _ _ _ w (bini_aa _ _ _ _ _ _ _ _ _ _ _ _ _ w _ (enters_of Tryz.func94 (by kernel_rfl) rfl) (intp_ret ?_))
  refine arrs_of w w.heap.size ks.length ks'.length _ _ _ _ (anyKey ks) (anyKey ks') (fun _ => ⟨b, 0, rfl, hr.lt, fun i hi => by rw [Nat.zero_add]; exact hr.cell hi⟩) (fun _ => ⟨b', 0, rfl, hr'.lt, fun i hi => by rw [Nat.zero_add]; exact hr'.cell hi⟩)
    (fun i hi => by unfold anyKey; rw [dif_pos hi]; rfl) (fun i hi => by unfold anyKey; rw [dif_pos hi]; rfl) _ _ (fun i h1 h2 w' _ _ => ?_) (keys_firsts ks ks') hl w (Below.refl _ _) (Nat.le_refl _)
  unfold anyKey
  rw [dif_pos h1, dif_pos h2]
  rw [keyC_at ks ks' i h1 h2]
  exact cmp_strs _ _ w'

def MRest (c : Int) (rest : Nat → Int) : Int := if c = 0 then rest 0 else c

set_option maxHeartbeats 4000000 in
set_option maxRecDepth 100000 in
theorem maps_of (w0 : World) (B r r' : Nat) (ks ks' : List ByteArray) (vs vs' : List V) (E E' : Nat → Value) (hm : MapAt w0 r (toJM ks vs) E) (hm' : MapAt w0 r' (toJM ks' vs') E') (hr : r < B) (hr' : r' < B)
    (p : ks.length = vs.length) (p' : ks'.length = vs'.length) (rise : ∀ i (hi : i + 1 < ks.length), Op.bytesLess ks[i].toList ks[i + 1].toList = true) (rise' : ∀ i (hi : i + 1 < ks'.length), Op.bytesLess ks'[i].toList ks'[i + 1].toList = true)
    (hl : ks.length * 16 ≤ 140737488351232) (hl' : ks'.length * 16 ≤ 140737488351232) (hs : ∀ s ∈ ks, s.size ≤ 140737488351232) (hs' : ∀ s ∈ ks', s.size ≤ 140737488351232)
    (C rest : Nat → Int) (hC : ks = ks' → ∀ i, i < ks.length → CmpAt w0 B (E i) (E' i) (C i)) (hrest : Firsts ks.length ks.length C rest) (w : World) (hbel : Below B w0 w) (hB : B ≤ w.heap.size) :
    Calls Tryz.prog 95 #[.map (some r), .map (some r')] w (IntP w (MRest (signI (keysC ks ks')) rest)) := by
  have ml := toJM_len ks vs p
  have ml' := toJM_len ks' vs' p'
  have hk1 : (toJM ks vs).map (fun p => p.1.data.toList) = ks.map fun k => k.data.toList := by
    apply List.ext_getElem (by simp [ml])
    intro i h1 h2
    simp only [List.getElem_map]
    rw [toJM_get ks vs p i (by simpa using h2)]
  have hk2 : (toJM ks' vs').map (fun p => p.1.data.toList) = ks'.map fun k => k.data.toList := by
    apply List.ext_getElem (by simp [ml'])
    intro i h1 h2
    simp only [List.getElem_map]
    rw [toJM_get ks' vs' p' i (by simpa using h2)]
  have T1 := Lib.hid (fkeys_any r _ E ks hk1 (keys_pairwise rise) (by omega) w (hm.carry (hbel.block _ hr)))
  have T2 : Hid (∀ w1, Below w.heap.size w w1 → Calls Tryz.prog 96 #[.iface 67 (.map (some r'))] w1 (FKeysP w1 ks')) :=
    Lib.hid fun w1 hb1 => fkeys_any r' _ E' ks' hk2 (keys_pairwise rise') (by omega) w1 (hm'.carry ((hb1.block _ (by omega)).trans (hbel.block _ hr')))
  have G1 : Hid (∀ w1, Below w.heap.size w w1 → ∀ i (hi : i < ks.length), (Instr.lookup 67 (.map (some r)) (.string ks[i]) false).run Tryz.prog w1 = .ok (E i) w1) :=
    Lib.hid fun w1 hb1 i hi => by
      have := (hm.carry ((hb1.block r (by omega)).trans (hbel.block _ hr))).get (apart_toJM p rise) (i := i) (by omega) (by rw [toJM_get ks vs p i hi]; exact hs _ (List.getElem_mem hi))
      rw [toJM_get ks vs p i hi] at this
      exact this
  have G2 : Hid (∀ w1, Below w.heap.size w w1 → ∀ i (hi : i < ks'.length), (Instr.lookup 67 (.map (some r')) (.string ks'[i]) false).run Tryz.prog w1 = .ok (E' i) w1) :=
    Lib.hid fun w1 hb1 i hi => by
      have := (hm'.carry ((hb1.block r' (by omega)).trans (hbel.block _ hr'))).get (apart_toJM p' rise') (i := i) (by omega) (by rw [toJM_get ks' vs' p' i hi]; exact hs' _ (List.getElem_mem hi))
      rw [toJM_get ks' vs' p' i hi] at this
      exact this
  have HC : Hid (ks = ks' → ∀ w1, Below w.heap.size w w1 → ∀ i, i < ks.length → Calls Tryz.prog 75 #[E i, E' i] w1 (IntP w1 (C i))) :=
    Lib.hid fun e w1 hb1 i hi => hC e i hi w1 (hbel.trans (hb1.mono hB)) (by have := hb1.size; omega)
  have Hrest := Lib.hid hrest
  have hll := hl
  clear hm hm' hbel hC hrest rise rise' hk1 hk2 ml ml' hs hs' hr hr' hB hl'
  clear p p'
  go_enter Tryz.func95, Tryz.ntmps95
  go_wp2_with fail
  refine T1.out.mono ?_
  rintro e w1 ⟨b1, rfl, hb1, hbel1, hrow1⟩
  have T3 := Lib.hid (T2.out w1 hbel1)
  have Hbel1 := Lib.hid hbel1
  have Hrow1 := Lib.hid hrow1
  clear T1 T2 hb1 hbel1 hrow1
  go_wp2_with fail
  refine T3.out.mono ?_
  rintro e w2 ⟨b2, rfl, hb2, hbel2, hrow2⟩
  have hrow1 := rowIs_carry Hrow1.out (hbel2.block b1 Hrow1.out.lt)
  have hbw2 := below_next Hbel1.out hbel2
  have T4 := Lib.hid (keys_cmp ks ks' b1 b2 hll w2 hrow1 hrow2)
  have Hrow := Lib.hid hrow1
  have Hbw2 := Lib.hid hbw2
  clear T3 Hbel1 Hrow1 hb2 hbel2 hrow2 hrow1 hbw2
  go_wp2_with fail
  refine T4.out.mono ?_
  rintro e w3 ⟨rfl, hbel3⟩
  have hbw3 := below_next Hbw2.out hbel3
  have Hrow3 := Lib.hid (rowIs_carry Hrow.out (hbel3.block b1 Hrow.out.lt))
  have Hbw3 := Lib.hid hbw3
  clear T4 Hrow Hbw2 hbel3 hbw3
  by_cases hz : signI (keysC ks ks') = 0
  · have ek := keysC_zero.1 (signI_zero.1 hz)
    have HF : Hid (MRest (signI (keysC ks ks')) rest = rest 0) := Lib.hid (by unfold MRest; rw [if_pos hz])
    rw [hz]
    have HC2 := Lib.hid (HC.out ek)
    clear hz HC
    subst ek
    go_wp2_with fail
    go_loopw [26] (fun i wr => TwoLoop w3 ks.length ks.length rest (rest 0) i wr) (fun i _ => ks.length - (intOf i).toNat)
    case atStart => exact ⟨0, Nat.zero_le _, Nat.zero_le _, rfl, Below.refl _ _, rfl⟩
    case round =>
      obtain ⟨n, hn, hn', rfl, hb, hfin⟩ := hrel
      have Hfin := Lib.hid hfin; clear hfin
      have hbw := below_next Hbw3.out hb
      by_cases h1 : n < ks.length
      · have y1 : wr.cell? ⟨b1, n, none⟩ = some (.iface 9 (.string ks[n])) := by
          have := (rowIs_carry Hrow3.out (hb.block b1 Hrow3.out.lt)).cell h1
          unfold anyKey at this
          rw [dif_pos h1] at this
          exact this
        have g1 := G1.out wr.drew hbw.drew n h1
        have g2 := G2.out wr.drew hbw.drew n h1
        have HI := Lib.hid (HC2.out wr.drew hbw.drew n h1)
        have a1 := fun w => assert1_str (.string ks[n]) w
        have hd := Hrest.out.1 n h1 h1
        have Hd := Lib.hid (Hfin.out.symm.trans hd); clear hd
        have u1 : (n : Int) < (ks.length : Int) := by omega
        have u3 : (0 : Int) ≤ (n : Int) := by omega
        have a2 := fun v w => assert1_sl v w
        go_wp2_with fail
        refine wp_region_tail 8 (by kernel_rfl) (by kernel_rfl) ?_
        simp only [List.take_succ_cons, List.take_zero, List.drop_succ_cons, List.drop_zero]
        repeat (go_big_quiet_step (fail))
        refine wpQuiet_nil ?_
        clear u1 u3 y1 g1 g2 a1 a2
        go_wp2_with fail
        refine HI.out.mono ?_
        rintro e w4 ⟨rfl, hb3⟩
        have hb4 : Below w3.heap.size w3 w4 := hb.drew.trans (hb3.mono hb.size)
        have hb5 := below_next Hbw3.out hb4
        clear HI
        generalize C n = cc at Hd
        by_cases hc : cc = 0
        · have Hd2 := Lib.hid (Hd.out.trans (if_pos hc)); clear Hd
          subst hc
          go_wp2_with fail
          go_roundw
          case rel => exact ⟨n + 1, by omega, by omega, by go_num, hb4, Hd2.out.symm⟩
          case measure => simp [intOf]; omega
        · have Hd2 := Lib.hid (Hd.out.trans (if_neg hc)); clear Hd
          have tc : (cc != 0) = true := by simpa using hc
          clear hc
          go_wp2_with fail
          go_ret
          exact ⟨by rw [HF.out, Hd2.out]; rfl, hb5⟩
      · have hd := Hrest.out.2 n (by omega) hn hn
        have Hd := Lib.hid (Hfin.out.symm.trans (hd.trans (by rw [Int.sub_self]; rfl : _ = (0 : Int)))); clear hd
        go_wp2_with fail
        go_ret
        exact ⟨by rw [HF.out, Hd.out]; rfl, hbw⟩
  · have HF : Hid (MRest (signI (keysC ks ks')) rest = signI (keysC ks ks')) := Lib.hid (by unfold MRest; rw [if_neg hz])
    obtain ⟨cc, hcc⟩ : ∃ cc, signI (keysC ks ks') = cc := ⟨_, rfl⟩
    have HF2 := Lib.hid (HF.out.trans hcc)
    rw [hcc] at hz ⊢
    have tc : (cc != 0) = true := by simpa using hz
    clear HF HC hcc
    go_wp2_with fail
    go_ret
    exact ⟨by rw [HF2.out]; rfl, Hbw3.out⟩

end Go.Proofs.YtmcahfcihhddjaaGreatDoor
