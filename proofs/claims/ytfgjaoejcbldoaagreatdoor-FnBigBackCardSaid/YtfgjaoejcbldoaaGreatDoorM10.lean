/- Contract of package big's nat.div: the walk of the long way. -/
import Derived.Test.YtfgjaoejcbldoaaGreatDoorM09
namespace Go.Proofs.YtfgjaoejcbldoaaGreatDoor
open Go Go.RowKit Go.Deep
set_option maxHeartbeats 8000000 in
set_option maxRecDepth 100000 in
theorem div_long (w : World) (x y : Nat) (Y : Nat → Nat) (n : Nat) (vx vy : Value) (h : NatAt w w.heap.size x vx) (hxx : x < xMax) (hy : RawAt w w.heap.size Y n vy) (h0 : Y (n - 1) ≠ 0) (hyy : y = sumD Y n) (h2 : 2 ≤ n) (hxy : y ≤ x) :
    Calls Tryz.prog 125 #[vx, vy] w (DivP w x y) := by
  have hyn : NatAt w w.heap.size y vy := ⟨Y, n, hy, fun _ => h0, hyy⟩
  have hc := cmp_any w x y vx vy h hyn
  obtain ⟨c, hc1, hc0⟩ : ∃ c : Int, cmpN x y = c ∧ ¬ c < 0 := ⟨_, rfl, by unfold cmpN; rw [if_neg (by omega)]; split <;> decide⟩
  rw [hc1] at hc
  have Hc := Lib.hid hc
  obtain ⟨X, N, hx, hX0, hxe, hN⟩ := id (h.open hxx)
  obtain ⟨_, _, _, _, _, dY, _⟩ := id hy
  obtain ⟨_, _, _, _, _, dX, _⟩ := id hx
  have hxb : x < bD ^ N := by rw [hxe]; exact sumD_lt dX
  have hnN : n ≤ N := sumD_len (D := Y) (fun _ => h0) (by rw [← hyy]; omega)
  have hyb : bD ^ (n - 1) ≤ y := by rw [hyy]; exact sumD_ge (by omega) h0
  unfold lenS at hN
  have HB := Lib.hid fun (w' : World) (hb : Below w.heap.size w w') => bitLen_any w' Y n vy (hy.carry hb hb.size) (by omega) (by unfold lenS; omega) h0
  have HL := Lib.hid fun (w' : World) (s : Nat) (hs : s < 32) (hb : Below w.heap.size w w') => lsh_any w' y s vy (hyn.carry hb hb.size) (by omega) hs
  have HM := Lib.hid fun (w' : World) (s : Nat) (hs : s < 32) (hb : Below w.heap.size w w') => lsh_any w' x s vx (h.carry hb hb.size) hxx hs
  have HT := Lib.hid (show ∀ (V : Nat → Nat) (n' m : Nat), DigsD V n' → (n' ≠ 0 → V (n' - 1) ≠ 0) → 0 < m → m ≤ 32 → 2 ^ (m - 1) ≤ Y (n - 1) → Y (n - 1) < 2 ^ m → sumD V n' = 2 ^ (32 - m) * y → n' = n ∧ 2147483648 ≤ V (n - 1) from
    fun V n' m h1 h3 h4 h5 h6 h7 h8 => shift_top (by omega) dY h1 h3 h4 h5 h6 h7 (by rw [← hyy]; exact h8))
  obtain ⟨ay, cy, rfl, hcy, _⟩ := hy
  obtain ⟨ax, cx, rfl, hcx, _⟩ := hx
  have Hxy := Lib.hid hxy
  have Hxb := Lib.hid hxb
  have Hyb := Lib.hid hyb
  have hmk : ∀ w' : World, (Instr.makeSlice 49 (.int .i64 ((N : Int) + 1)) (.int .i64 ((N : Int) + 1))).run Tryz.prog w' = .ok (.slice (some ⟨w'.heap.size, 0, none⟩) (N + 1) (N + 1)) (w'.alloc (.cells (madeCells #[.int .u32 0] (N + 1)) 120)) := fun w' => by
    have := make_digs (N + 1) (by unfold lenMax; omega) w'
    rwa [show ((N + 1 : Nat) : Int) = (N : Int) + 1 by omega] at this
  have Hmk := Lib.hid hmk
  have z0 : (((n : Nat) : Int) == 0) = false := by
    have : ((n : Nat) : Int) ≠ 0 := by omega
    simpa using this
  have z1 : (((n : Nat) : Int) == 1) = false := by
    have : ((n : Nat) : Int) ≠ 1 := by omega
    simpa using this
  have Hd0 := Lib.hid h0
  clear h hyn hc hX0 hxe dY dX hxb hyb h0 hyy hc1 hxx hmk
  generalize Y (n - 1) = yt at *
  go_enter Tryz.func125, Tryz.ntmps125
  go_wp2_with fail
  refine Hc.out.mono ?_
  clear Hc
  rintro e w1 ⟨rfl, hb1⟩
  have hB := HB.out w1 hb1
  have Hb1 := Lib.hid hb1
  clear hb1
  go_wp2_with fail
  refine hB.mono ?_
  clear hB HB
  rintro e w2 ⟨m, rfl, hm, hb2⟩
  have Hb2 := Lib.hid (below_next Hb1.out hb2)
  clear Hb1 hb2
  have Hm := Lib.hid hm
  obtain ⟨hm0, hm1, _, _⟩ := hm
  obtain ⟨s, hs⟩ : ∃ s, s = 32 - m := ⟨_, rfl⟩
  have hs32 : s < 32 := by omega
  obtain ⟨L, hL⟩ : ∃ L, L = 32 * (n - 1) + m := ⟨_, rfl⟩
  rw [← hL]
  have t1 : 32 * (n : Int) - (L : Int) = (s : Int) := by omega
  have hLb : L ≤ 32100 := by omega
  have Hs := Lib.hid hs
  clear hs hL hm0
  go_upto_region 9 with fail
  have hmk := Hmk.out
  go_cut [9, 10] (fun s9 s10 wx => DivR w2 N (2 ^ s * y) s9 s10 wx)
  case first =>
    have hwr : IntKind.i64.wrap ((N : Int) + 1) = (N : Int) + 1 := by rw [IntKind.wrap_i64]; omega
    --[
    go_region_with (go_at_call 155; refine (HL.out _ s hs32 (by first | exact below_d Hb2.out | exact below_da Hb2.out Hb2.out.size _)).mono ?_; rintro e w6 ⟨v6, rfl, hv6, hw6⟩; have hs6 := hw6.size)
    all_goals go_wp2_with fail
    all_goals go_meet
    all_goals first | exact DivR.a hw6 hv6 | exact DivR.b hw6 hv6
    --]
  case rest =>
  obtain ⟨ub, rfl, hv, hru, hub, hbc⟩ := hcut
  obtain ⟨V, n', hV, hV0, hVs⟩ := hv
  obtain ⟨_, _, _, _, _, dV, _⟩ := id hV
  obtain ⟨en, hVt⟩ := HT.out V n' m dV hV0 Hm.out.1 Hm.out.2.1 Hm.out.2.2.1 Hm.out.2.2.2 (by rw [← hVs, Hs.out])
  obtain rfl := en.symm
  obtain ⟨vb, vo, cv, rfl, hvb, _⟩ := hV.at (Below.refl _ _) (i := 0) (by omega)
  obtain ⟨_, _, ev, hcv, _, _, hVc⟩ := hV
  cases ev
  obtain ⟨_, _, ev, _, hVc⟩ := hVc (by omega)
  cases ev
  have nuv : ub ≠ vb := fun e => by
    subst e
    have := hru.zero_at (hVc (n - 1) (by omega))
    omega
  have hbw : Below w.heap.size w wc := below_next Hb2.out hbc
  have hM := HM.out wc s hs32 hbw
  have HV := Lib.hid hVc
  have HDV := Lib.hid dV
  have HVt := Lib.hid hVt
  have HVs := Lib.hid hVs
  have Hru := Lib.hid hru
  have Hbw := Lib.hid hbw
  have Hub := Lib.hid (Nat.le_trans Hb2.out.size hub)
  clear hVc dV hVt hVs hru hbw hV0 hbc hub en HT HL HM Hmk
  go_wp2_with fail
  refine hM.mono ?_
  clear hM
  rintro e w3 ⟨vl, rfl, ⟨Lx, k', hLr, hL0, hLs⟩, hb3⟩
  obtain ⟨al, cl, rfl, hcl, hkl, dL, _⟩ := id hLr
  have hps : 0 < 2 ^ s := Nat.pow_pos (by decide)
  have hpl : 2 ^ s ≤ 2147483648 := Nat.le_trans (Nat.pow_le_pow_right (by decide) (show s ≤ 31 by omega)) (by decide)
  have hk0 : 0 < k' := by
    rcases Nat.eq_zero_or_pos k' with e | e
    · exfalso
      subst e
      simp only [sumD] at hLs
      have h1 := Hyb.out
      have h3 := bD_pos (n - 1)
      have h4 := Hxy.out
      have : 0 < 2 ^ s * x := Nat.mul_pos hps (by omega)
      omega
    · exact e
  have hkN : k' ≤ N + 1 := sumD_len hL0 (by
    rw [← hLs, Nat.pow_succ, Nat.mul_comm (bD ^ N)]
    have h1 : 2 ^ s * x ≤ bD * x := Nat.mul_le_mul_right _ (by unfold bD; omega)
    exact Nat.lt_of_le_of_lt h1 (Nat.mul_lt_mul_of_pos_left Hxb.out (by decide)))
  have hru3 : RowD w3 ub (N + 1) (fun _ => 0) := Hru.out.same (hb3.block _ (World.rowIs.lt Hru.out))
  obtain ⟨w4, hcp, hr4, hb4, hk4⟩ := copy_digs hru3 hLr hk0 hkN
  have hV4 : ∀ i, i < n → w4.cell? ⟨vb, vo + i, none⟩ = some (.int .u32 ((V i : Nat) : Int)) := fun i hi => by
    have e1 : w4.heap[vb]? = wc.heap[vb]? := (hk4 vb (fun e => nuv e.symm)).trans (hb3.block vb hvb)
    have := HV.out i hi
    unfold World.cell? at this ⊢
    rw [show (⟨vb, vo + i, none⟩ : Addr).block = vb from rfl] at this ⊢
    rw [e1]
    exact this
  have hps2 : sumD (padD Lx k') (N + 1) = 2 ^ s * x := by rw [sumD_pad _ _ _ hkN, hLs]
  have hp0 : DigsD (padD Lx k') (N + 1) := fun i _ => padD_lt dL i
  have hr5 : RowD w4 ub (N + 1) (padD Lx k') := hr4
  have hmk2 := make_digs (N + 1 - n) (by unfold lenMax; omega) w4
  rw [show ((N + 1 - n : Nat) : Int) = (N : Int) - (n : Int) + 1 by omega] at hmk2
  have hrq := RowD.made w4 (N + 1 - n)
  have hb5 := below_alloc1 w4 (.cells (madeCells #[.int .u32 0] (N + 1 - n)) 120)
  have hub4 : ub < w4.heap.size := World.rowIs.lt hr5
  have hvb4 : vb < w4.heap.size := by
    have h1 := hb3.size
    have h2 := (hb4 0 (Nat.zero_le _)).size
    omega
  have hu5 : RowD (w4.alloc (.cells (madeCells #[.int .u32 0] (N + 1 - n)) 120)) ub (N + 1) (padD Lx k') := hr5.same (hb5.block _ hub4)
  have hV5 : ∀ i, i < n → (w4.alloc (.cells (madeCells #[.int .u32 0] (N + 1 - n)) 120)).cell? ⟨vb, vo + i, none⟩ = some (.int .u32 ((V i : Nat) : Int)) := fun i hi => (hb5.cell (p := ⟨vb, vo + i, none⟩) hvb4).trans (hV4 i hi)
  have hbw5 : Below w.heap.size w (w4.alloc (.cells (madeCells #[.int .u32 0] (N + 1 - n)) 120)) := by
    have h1 := Hbw.out.size
    have h2 := hb3.size
    have h3 := (hb4 0 (Nat.zero_le _)).size
    exact ((Hbw.out.trans (hb3.mono h1)).trans (hb4 _ Hub.out)).trans (hb5.mono (by omega))
  have hq4 : w.heap.size ≤ w4.heap.size := by have := Hub.out; omega
  have Hmem := Lib.hid (show Mem w w.heap.size ub w4.heap.size vb vo N (N + 1 - n) n V (padD Lx k') (fun _ => 0) (w4.alloc (.cells (madeCells #[.int .u32 0] (N + 1 - n)) 120)) from
    ⟨hbw5, hu5, hrq, hV5, Hub.out, hq4, by omega, nuv, by omega⟩)
  have Hdiv := Lib.hid (show DivI (padD Lx k') (fun _ => 0) V n N (N + 1 - n) (2 ^ s * x) from DivI.start hnN (by omega) hp0 hps2.symm Hxb.out rfl Hyb.out HVs.out.symm)
  have HN := Lib.hid fun (w' : World) (Z : Nat → Nat) (m : Nat) (v : Value) (h : RawAt w' w'.heap.size Z m v) => norm_any w' Z m v h
  have Hnuv := Lib.hid nuv
  clear hps2 hp0 hr5 hrq hb5 hub4 hvb4 hu5 hV5 hbw5 hq4 hV4 hk4 hb4 hr4 hru3 hb3 hLr hL0 hLs hkl dL hps hpl nuv hm1 hvb
  generalize hw5 : w4.alloc (.cells (madeCells #[.int .u32 0] (N + 1 - n)) 120) = w5 at *
  generalize hqb : w4.heap.size = qb at *
  go_wp2_with fail
  go_loopw [12] (fun vj wr => LongI w w.heap.size ub qb vb vo N n (2 ^ s * x) V vj wr) (fun vj _ => (intOf vj + 1).toNat)
  case atStart => exact ⟨N + 1 - n, _, _, by congr 1; omega, Nat.le_refl _, Hmem.out, fun i _ => (by decide : 0 < bD), Hdiv.out⟩
  case round =>
    clear Hmem Hdiv hmk2 hcp hcl hk0 hkN
    obtain ⟨j, U, Q, rfl, hj, hm, hQ, hd⟩ := hrel
    by_cases hj0 : 0 < j
    · obtain ⟨k, rfl⟩ : ∃ k, j = k + 1 := ⟨j - 1, by omega⟩
      have e0 : ((k + 1 : Nat) : Int) - 1 = (k : Int) := by omega
      rw [e0]
      have hR := hd.rnd h2 HDV.out HVt.out
      have bUn : U (k + n) < bD := hR.dU n (by omega)
      have bUn1 : U (k + (n - 1)) < bD := hR.dU (n - 1) (by omega)
      have bUn2 : U (k + (n - 2)) < bD := hR.dU (n - 2) (by omega)
      have bV1 := HDV.out (n - 1) (by omega)
      have bV2 := HDV.out (n - 2) (by omega)
      have tV1 := HVt.out
      obtain ⟨hst, hst2⟩ := hR.start
      have HR := Lib.hid hR
      have Hd := Lib.hid hd
      have HQ := Lib.hid hQ
      have yU := (hm.rowU.at (i := k + n) (by omega)).1
      have yU1 := (hm.rowU.at (i := k + (n - 1)) (by omega)).1
      have yV1 := hm.cellV (n - 1) (by omega)
      have Hmm := Lib.hid hm
      clear hR hd hQ hm
      have i1 : (0 : Int) ≤ (n : Int) - 1 := by omega
      have i2 : (n : Int) - 1 < (n : Int) := by omega
      have i3 : ((n : Int) - 1).toNat = n - 1 := by omega
      have i4 : (0 : Int) ≤ (n : Int) - 2 := by omega
      have i5 : (n : Int) - 2 < (n : Int) := by omega
      have i6 : ((n : Int) - 2).toNat = n - 2 := by omega
      have k1 : (k : Int) + (n : Int) < (N : Int) + 1 := by omega
      have k2 : (0 : Int) ≤ (k : Int) + (n : Int) - 1 := by omega
      have k3 : (k : Int) + (n : Int) - 1 < (N : Int) + 1 := by omega
      have k4 : ((k : Int) + (n : Int) - 1).toNat = k + (n - 1) := by omega
      have k5 : (0 : Int) ≤ (k : Int) + (n : Int) - 2 := by omega
      have k6 : (k : Int) + (n : Int) - 2 < (N : Int) + 1 := by omega
      have k7 : ((k : Int) + (n : Int) - 2).toNat = k + (n - 2) := by omega
      obtain ⟨v1, hV1⟩ : ∃ v1, V (n - 1) = v1 := ⟨_, rfl⟩
      obtain ⟨v2, hV2⟩ : ∃ v2, V (n - 2) = v2 := ⟨_, rfl⟩
      obtain ⟨un, hUn⟩ : ∃ un, U (k + n) = un := ⟨_, rfl⟩
      obtain ⟨un1, hUn1⟩ : ∃ un1, U (k + (n - 1)) = un1 := ⟨_, rfl⟩
      obtain ⟨un2, hUn2⟩ : ∃ un2, U (k + (n - 2)) = un2 := ⟨_, rfl⟩
      rw [hUn] at bUn yU
      rw [hUn1] at bUn1 yU1
      rw [hUn2] at bUn2
      rw [hV1] at bV1 tV1 yV1
      rw [hV2] at bV2
      simp only [hV1, hUn, hUn1] at hst hst2
      have hA := or64_hi bUn bUn1
      have hAb := two_digs bUn bUn1
      obtain ⟨A, eA⟩ : ∃ A, un * bD + un1 = A := ⟨_, rfl⟩
      rw [eA] at hA hAb hst hst2
      have hP : (A : Int).tdiv (v1 : Int) = ((A / v1 : Nat) : Int) := rfl
      have hT : (A : Int).tmod (v1 : Int) = ((A % v1 : Nat) : Int) := rfl
      have hTl : A % v1 < v1 := Nat.mod_lt _ (by omega)
      have hPl : A / v1 < 18446744073709551616 := Nat.lt_of_le_of_lt (Nat.div_le_self _ _) hAb
      obtain ⟨P0, eP⟩ : ∃ P0, A / v1 = P0 := ⟨_, rfl⟩
      obtain ⟨T0, eT⟩ : ∃ T0, A % v1 = T0 := ⟨_, rfl⟩
      rw [eP] at hP hPl hst hst2
      rw [eT] at hT hTl hst
      have Hst := Lib.hid hst
      have Hst2 := Lib.hid hst2
      have HV1 := Lib.hid hV1
      have HV2 := Lib.hid hV2
      have HUn := Lib.hid hUn
      have HUn2 := Lib.hid hUn2
      have BUn2 := Lib.hid bUn2
      have BV1 := Lib.hid bV1
      have BV2 := Lib.hid bV2
      clear hst hst2 hV1 hV2 hUn hUn1 hUn2 eA eP eT
      unfold bD at bUn bUn1 bUn2 bV1 bV2
      go_wp2_with fail
      go_quiet (fail)
      go_wp2_with fail
      go_quiet (fail)
      go_upto_block 2 with fail
      go_cut [14, 15] from 77 to 256 (fun s14 _ wx => ∃ pf : Nat, s14 = .int .u64 (pf : Int) ∧ (pf < bD ∧ pf ≤ quoD (fun q => U (k + q)) V n + 1 ∧ quoD (fun q => U (k + q)) V n ≤ pf) ∧ Mem w w.heap.size ub qb vb vo N (N + 1 - n) n V U Q wx)
      case first =>
        as_aux_lemma =>
        --[[
        go_wp2_with fail
        go_loopw [14, 15] (fun vp vt wr => GuessI w w.heap.size ub qb vb vo N n k V U Q vp vt wr) (fun vp _ _ => (intOf vp).toNat)
        case atStart => exact ⟨P0, T0, rfl, rfl, Hst.out, Hst2.out, Nat.lt_trans hTl BV1.out, (Hmm.out.drewN _).drewN _⟩
        case round =>
          obtain ⟨p, t, rfl, rfl, hE, hpl, htl, hm⟩ := hrel
          have yV1 := hm.cellV (n - 1) (by omega)
          have yV2 := hm.cellV (n - 2) (by omega)
          have yU2 := (hm.rowU.at (i := k + (n - 2)) (by omega)).1
          rw [HV1.out] at yV1
          rw [HV2.out] at yV2
          rw [HUn2.out] at yU2
          have Hm1 := Lib.hid hm
          obtain ⟨pf, hpf⟩ : ∃ pf, p - 1 = pf := ⟨_, rfl⟩
          obtain ⟨t', ht'⟩ : ∃ t', t + v1 = t' := ⟨_, rfl⟩
          obtain ⟨PV, hPV⟩ : ∃ PV, p * v2 = PV := ⟨_, rfl⟩
          obtain ⟨TU, hTU⟩ : ∃ TU, t * bD + un2 = TU := ⟨_, rfl⟩
          have hor := or64_hi htl BUn2.out
          rw [hTU] at hor
          have a4 : (t : Int) + (v1 : Int) = (t' : Int) := by omega
          have htl2 : t < 4294967296 := htl
          have htb : t' < 8589934592 := by omega
          have hway : (bD ≤ p ∧ bD ≤ t') ∨ (bD ≤ p ∧ t' < bD) ∨ ((p < bD ∧ t * bD + un2 < p * v2) ∧ bD ≤ t') ∨ ((p < bD ∧ t * bD + un2 < p * v2) ∧ t' < bD) ∨ (p < bD ∧ p * v2 ≤ t * bD + un2) := by
            rcases Nat.lt_or_ge p bD with c | c
            · rcases Nat.lt_or_ge (t * bD + un2) (p * v2) with d | d
              · rcases Nat.lt_or_ge t' bD with f | f
                · exact .inr (.inr (.inr (.inl ⟨⟨c, d⟩, f⟩)))
                · exact .inr (.inr (.inl ⟨⟨c, d⟩, f⟩))
              · exact .inr (.inr (.inr (.inr ⟨c, d⟩)))
            · rcases Nat.lt_or_ge t' bD with f | f
              · exact .inr (.inl ⟨c, f⟩)
              · exact .inl ⟨c, f⟩
          have HE := Lib.hid hE
          clear hE hm hP hT hA hAb hTl hPl yU yU1
          refine or5 hway ?g1 ?g2 ?g3 ?g4 ?g5
          all_goals clear hway
          case g2 =>
            --[
            intro hc
            obtain ⟨hp1, hE2⟩ := HE.out.dec HR.out (by rw [HUn2.out, HV2.out]; exact .inl hc.1)
            rw [hpf, HV1.out, ht'] at hE2
            have a3 : (p : Int) - 1 = (pf : Int) := by omega
            obtain ⟨ph, hph⟩ : ∃ ph, p / 4294967296 = ph := ⟨_, rfl⟩
            have a1 : (p : Int) / 4294967296 = (ph : Int) := by omega
            have hpc : 4294967296 ≤ p := hc.1
            have a2 : ((ph : Int) != 0) = true := by
              have : (ph : Int) ≠ 0 := by omega
              simpa using this
            have a5 : (t' : Int) / 4294967296 = 0 := by have : t' < 4294967296 := hc.2; omega
            have HF := Lib.hid (fun (w' : World) (hw : Mem w w.heap.size ub qb vb vo N (N + 1 - n) n V U Q w') => (show GuessI w w.heap.size ub qb vb vo N n k V U Q (.int .u64 (pf : Int)) (.int .u64 (t' : Int)) w' from ⟨pf, t', rfl, rfl, hE2, by omega, hc.2, hw⟩))
            have hpl2 : pf < p := by omega
            have hp64 : p ≤ 4294967297 := hpl
            clear hc hE2 HE hpf ht' hPV hTU htl hpl hph
            go_wp2_with fail
            go_quiet (fail)
            go_wp2_with fail
            exact ⟨HF.out _ (Hm1.out.drewN _), by simp [intOf]; omega⟩
            --]
          case g4 =>
            --[
            intro hc
            obtain ⟨hp1, hE2⟩ := HE.out.dec HR.out (by rw [HUn2.out, HV2.out]; exact .inr hc.1.2)
            rw [hpf, HV1.out, ht'] at hE2
            have a3 : (p : Int) - 1 = (pf : Int) := by omega
            have hpc : p < 4294967296 := hc.1.1
            have a1 : (p : Int) / 4294967296 = 0 := by omega
            have b1 : (p : Int) * (v2 : Int) = (PV : Int) := by rw [← hPV, Int.natCast_mul]
            have b3 : (TU : Int) < (PV : Int) := by rw [hPV, hTU] at hc; omega
            have b4 : PV < 18446744073709551616 := by rw [← hPV]; exact mul_digs hc.1.1 BV2.out
            have a5 : (t' : Int) / 4294967296 = 0 := by have : t' < 4294967296 := hc.2; omega
            have HF := Lib.hid (fun (w' : World) (hw : Mem w w.heap.size ub qb vb vo N (N + 1 - n) n V U Q w') => (show GuessI w w.heap.size ub qb vb vo N n k V U Q (.int .u64 (pf : Int)) (.int .u64 (t' : Int)) w' from ⟨pf, t', rfl, rfl, hE2, by omega, hc.2, hw⟩))
            have hpl2 : pf < p := by omega
            have hp64 : p ≤ 4294967297 := hpl
            clear hc hE2 HE hpf ht' hPV hTU htl hpl
            go_wp2_with fail
            go_quiet (fail)
            go_wp2_with fail
            exact ⟨HF.out _ (Hm1.out.drewN _), by simp [intOf]; omega⟩
            --]
          case g1 =>
            --[
            intro hc
            obtain ⟨hp1, hE2⟩ := HE.out.dec HR.out (by rw [HUn2.out, HV2.out]; exact .inl hc.1)
            rw [hpf, HV1.out, ht'] at hE2
            have a3 : (p : Int) - 1 = (pf : Int) := by omega
            obtain ⟨ph, hph⟩ : ∃ ph, p / 4294967296 = ph := ⟨_, rfl⟩
            have a1 : (p : Int) / 4294967296 = (ph : Int) := by omega
            have hpc : 4294967296 ≤ p := hc.1
            have a2 : ((ph : Int) != 0) = true := by
              have : (ph : Int) ≠ 0 := by omega
              simpa using this
            have a5 : (t' : Int) / 4294967296 = 1 := by have : 4294967296 ≤ t' := hc.2; omega
            have HP := Lib.hid (show pf < bD ∧ pf ≤ quoD (fun q => U (k + q)) V n + 1 ∧ quoD (fun q => U (k + q)) V n ≤ pf from ⟨(hE2.break HR.out hc.2).1, (hE2.break HR.out hc.2).2, hE2.big⟩)
            have hp64 : p ≤ 4294967297 := hpl
            clear hc hE2 HE hpf ht' hPV hTU htl hpl hph
            go_wp2_with fail
            go_quiet (fail)
            go_wp2_with fail
            go_meet
            exact ⟨pf, rfl, HP.out, Hm1.out.drewN _⟩
            --]
          case g3 =>
            --[
            intro hc
            obtain ⟨hp1, hE2⟩ := HE.out.dec HR.out (by rw [HUn2.out, HV2.out]; exact .inr hc.1.2)
            rw [hpf, HV1.out, ht'] at hE2
            have a3 : (p : Int) - 1 = (pf : Int) := by omega
            have hpc : p < 4294967296 := hc.1.1
            have a1 : (p : Int) / 4294967296 = 0 := by omega
            have b1 : (p : Int) * (v2 : Int) = (PV : Int) := by rw [← hPV, Int.natCast_mul]
            have b3 : (TU : Int) < (PV : Int) := by rw [hPV, hTU] at hc; omega
            have b4 : PV < 18446744073709551616 := by rw [← hPV]; exact mul_digs hc.1.1 BV2.out
            have a5 : (t' : Int) / 4294967296 = 1 := by have : 4294967296 ≤ t' := hc.2; omega
            have HP := Lib.hid (show pf < bD ∧ pf ≤ quoD (fun q => U (k + q)) V n + 1 ∧ quoD (fun q => U (k + q)) V n ≤ pf from ⟨(hE2.break HR.out hc.2).1, (hE2.break HR.out hc.2).2, hE2.big⟩)
            have hp64 : p ≤ 4294967297 := hpl
            clear hc hE2 HE hpf ht' hPV hTU htl hpl
            go_wp2_with fail
            go_quiet (fail)
            go_wp2_with fail
            go_meet
            exact ⟨pf, rfl, HP.out, Hm1.out.drewN _⟩
            --]
          case g5 =>
            intro hc
            have HP := Lib.hid (show p < bD ∧ p ≤ quoD (fun q => U (k + q)) V n + 1 ∧ quoD (fun q => U (k + q)) V n ≤ p from ⟨hc.1, HE.out.stop HR.out hc.1 (by rw [HUn2.out, HV2.out]; exact hc.2), HE.out.big⟩)
            have hpc : p < 4294967296 := hc.1
            have a1 : (p : Int) / 4294967296 = 0 := by omega
            have b1 : (p : Int) * (v2 : Int) = (PV : Int) := by rw [← hPV, Int.natCast_mul]
            have b3 : ¬ (TU : Int) < (PV : Int) := by rw [hPV, hTU] at hc; omega
            have b4 : PV < 18446744073709551616 := by rw [← hPV]; exact mul_digs hc.1 BV2.out
            clear hc HE hpf ht' hPV hTU htl hpl
            go_wp2_with fail
            go_quiet (fail)
            go_wp2_with fail
            go_meet
            exact ⟨p, rfl, HP.out, Hm1.out.drewN _⟩
        --]]
      case rest =>
        as_aux_lemma =>
        --{{
        obtain ⟨pf, rfl, hP, hmc⟩ := hcut
        have HP := Lib.hid hP
        have Hm1 := Lib.hid hmc
        clear hP hmc
        go_wp2_with fail
        go_loopw [18, 16, 17] (fun vi vc vb' wr => TakeI w w.heap.size ub qb vb vo N n k pf V U Q vi vc vb' wr) (fun vi _ _ _ => n - (intOf vi).toNat)
        case atStart => exact ⟨0, 0, 0, U, rfl, rfl, rfl, Nat.zero_le _, by decide, by decide, Hm1.out, fun _ _ => rfl, fun i hi => by omega, by simp [sumD]⟩
        case round =>
          obtain ⟨i, c, b, U1, rfl, rfl, rfl, hi, hc, hb, hm, hk, hD, hs⟩ := hrel
          by_cases hin : i < n
          · have c1 : (i : Int) < (n : Int) := by omega
            have c2 : (k : Int) + (i : Int) < (N : Int) + 1 := by omega
            have yV := hm.cellV i hin
            have yU := hm.rowU.at (i := k + i) (by omega)
            have eU : U1 (k + i) = U (k + i) := hk _ (.inr (Nat.le_refl _))
            have bU : U (k + i) < bD := HR.out.dU i (by omega)
            have bV : V i < bD := HDV.out i hin
            obtain ⟨q1, q2, q3, q4⟩ := msub_step (U := fun q => U (k + q)) (V := V) (Z := fun q => U1 (k + q)) (i := i) (p := pf) (c := c) (b := b) bU bV HP.out.1 hc hb hs
            obtain ⟨yU1, yU2⟩ := yU
            rw [eU] at yU1
            obtain ⟨u, hu⟩ : ∃ u, U (k + i) = u := ⟨_, rfl⟩
            rw [hu] at yU1 bU
            simp only [hu] at q3 q4
            obtain ⟨P, hP⟩ : ∃ P, pf * V i = P := ⟨_, rfl⟩
            rw [hP] at q1 q2 q3 q4
            obtain ⟨T, hT⟩ : ∃ T, c + P = T := ⟨_, rfl⟩
            rw [hT] at q1 q2 q3 q4
            have hlo : T % bD < bD := Nat.mod_lt _ (by decide)
            obtain ⟨lo, elo⟩ : ∃ lo, T % bD = lo := ⟨_, rfl⟩
            obtain ⟨hi', ehi⟩ : ∃ hi', T / bD = hi' := ⟨_, rfl⟩
            rw [elo] at q3 q4 hlo
            rw [ehi] at q2 q4
            have p1 : (pf : Int) * ((V i : Nat) : Int) = (P : Int) := by rw [← hP, Int.natCast_mul]
            have p2 : (c : Int) + (P : Int) = (T : Int) := by omega
            have p3 : (T : Int) % 4294967296 = (lo : Int) := by rw [← elo]; unfold bD; omega
            have p4 : (T : Int) / 4294967296 = (hi' : Int) := by rw [← ehi]; unfold bD; omega
            obtain ⟨D1, eD1⟩ : ∃ D1, (u + 18446744073709551616 - lo) % 18446744073709551616 = D1 := ⟨_, rfl⟩
            obtain ⟨d, ed⟩ : ∃ d, subD u lo b = d := ⟨_, rfl⟩
            rw [ed] at q3 q4
            have p5 : IntKind.u64.wrap ((u : Int) - (lo : Int)) = (D1 : Int) := by rw [u64_wrap, ← eD1]; unfold bD at hlo; omega
            have p6 : IntKind.u64.wrap ((D1 : Int) - (b : Int)) = (d : Int) := by rw [u64_wrap, ← ed, ← eD1]; unfold subD; unfold bD at hlo bU; omega
            obtain ⟨dl, edl⟩ : ∃ dl, d % bD = dl := ⟨_, rfl⟩
            obtain ⟨dh, edh⟩ : ∃ dh, d / 9223372036854775808 = dh := ⟨_, rfl⟩
            have hdl : dl < bD := by rw [← edl]; exact Nat.mod_lt _ (by decide)
            rw [edl, edh] at q4
            rw [edh] at q3
            have p7 : (d : Int) % 4294967296 = (dl : Int) := by rw [← edl]; unfold bD; omega
            have p8 : (d : Int) / 9223372036854775808 = (dh : Int) := by omega
            have pP : P < 18446744073709551616 := by omega
            have hfr := yU2
            have HF := Lib.hid (show TakeI w w.heap.size ub qb vb vo N n k pf V U Q (.int .i64 ((i : Int) + 1)) (.int .u64 (hi' : Int)) (.int .u64 (dh : Int)) (wr.setCell ⟨ub, k + i, none⟩ (.int .u32 (dl : Int))) from
              ⟨i + 1, hi', dh, putD U1 (k + i) dl, by go_num, rfl, rfl, hin, q2, q3, hm.setU (k + i) dl, fun q hq => by rw [putD_other (by omega)]; exact hk q (by omega), by rw [putD_shift]; exact digsD_put hD hdl, by rw [putD_shift]; exact q4⟩)
            have hpf2 : pf < 4294967296 := HP.out.1
            unfold bD at bU bV hc hlo
            clear hm hk hD hs q2 q4 eU hu hP hT elo ehi eD1 ed edl edh hdl
            go_wp2_with fail
            exact ⟨HF.out, by simp [intOf]; omega⟩
          · have c1 : ¬ (i : Int) < (n : Int) := by omega
            obtain rfl : i = n := by omega
            have eU : U1 (k + i) = un := by rw [hk _ (.inr (Nat.le_refl _)), HUn.out]
            have c2 : (k : Int) + (i : Int) < (N : Int) + 1 := by omega
            obtain ⟨yU1, yU2⟩ := hm.rowU.at (i := k + i) (by omega)
            rw [eU] at yU1
            obtain ⟨D1, eD1⟩ : ∃ D1, (un + 18446744073709551616 - c) % 18446744073709551616 = D1 := ⟨_, rfl⟩
            obtain ⟨d, ed⟩ : ∃ d, subD un c b = d := ⟨_, rfl⟩
            have p5 : IntKind.u64.wrap ((un : Int) - (c : Int)) = (D1 : Int) := by rw [u64_wrap, ← eD1]; unfold bD at hc; omega
            have p6 : IntKind.u64.wrap ((D1 : Int) - (b : Int)) = (d : Int) := by rw [u64_wrap, ← ed, ← eD1]; unfold subD; unfold bD at hc; omega
            have hpf2 : pf < 4294967296 := HP.out.1
            have hkq : k < N + 1 - i := by omega
            have c3 : (k : Int) < (N : Int) - (i : Int) + 1 := by omega
            have c4 : (0 : Int) ≤ (k : Int) := by omega
            rcases Nat.lt_or_ge un (c + b) with hbad | hok
            · have hd1 : d / 9223372036854775808 = 1 := by rw [← ed]; exact subD_neg (by unfold bD; omega) hc hb hbad
              obtain ⟨dl, edl⟩ : ∃ dl, d % bD = dl := ⟨_, rfl⟩
              have p7 : (d : Int) % 4294967296 = (dl : Int) := by rw [← edl]; unfold bD; omega
              have p8 : (d : Int) / 9223372036854775808 = 1 := by omega
              obtain ⟨pd, hpd⟩ : ∃ pd, pf - 1 = pd := ⟨_, rfl⟩
              have hp1 : 1 ≤ pf := by
                obtain ⟨e1, _, _⟩ := HP.out
                rcases Nat.eq_zero_or_pos pf with e | e
                · exfalso
                  subst e
                  have h1 := sumD_lt hD
                  have h3 : bD ^ i * 1 ≤ bD ^ i * (c + b) := Nat.mul_le_mul_left _ (by omega)
                  omega
                · exact e
              have p9 : (pf : Int) - 1 = (pd : Int) := by omega
              have hdl : dl < bD := by rw [← edl]; exact Nat.mod_lt _ (by decide)
              have hdl2 : dl < 4294967296 := hdl
              have hm2 := hm.setU (k + i) dl
              have Hm2 := Lib.hid hm2
              have HD := Lib.hid hD
              have Hs3 := Lib.hid hs
              have Hk := Lib.hid hk
              have Hb := Lib.hid hb
              have Hc := Lib.hid hc
              have Hbad := Lib.hid hbad
              have Hed := Lib.hid ed
              have Hedl := Lib.hid edl
              have Hpd := Lib.hid hpd
              have HU1 := Lib.hid eU
              clear hm hm2 hk hD hs hb hbad eU eD1 ed edl hd1 hpd hc
              go_wp2_with fail
              go_loopw [21, 16] (fun vi vc wr' => GiveI w w.heap.size ub qb vb vo N i k V (putD U1 (k + i) dl) Q vi vc wr') (fun vi _ _ => i - (intOf vi).toNat)
              case atStart => exact ⟨0, 0, _, rfl, rfl, Nat.zero_le _, by decide, Hm2.out, fun _ _ => rfl, fun q hq => by omega, by simp [sumD]⟩
              case round =>
                obtain ⟨j, c2', U2, rfl, rfl, hj2, hc2, hm, hk, hD, hs⟩ := hrel
                by_cases hji : j < i
                · have c1' : (j : Int) < (i : Int) := by omega
                  have c2'' : (k : Int) + (j : Int) < (N : Int) + 1 := by omega
                  have yV := hm.cellV j hji
                  have yU := hm.rowU.at (i := k + j) (by omega)
                  have bV : V j < bD := HDV.out j hji
                  have bX : putD U1 (k + i) dl (k + j) < bD := by rw [putD_other (by omega)]; exact HD.out j hji
                  obtain ⟨q1, q2, q3⟩ := add_step (X := fun q => putD U1 (k + i) dl (k + q)) (Y := V) (Z := fun q => U2 (k + q)) (i := j) (c := c2') bX bV hc2 hD hs
                  obtain ⟨yU1, yU2⟩ := yU
                  obtain ⟨u, hu⟩ : ∃ u, U2 (k + j) = u := ⟨_, rfl⟩
                  have eX : putD U1 (k + i) dl (k + j) = u := by rw [← hu]; exact (hk _ (.inr (Nat.le_refl _))).symm
                  rw [hu] at yU1
                  rw [eX] at bX
                  simp only [eX] at q1 q2 q3
                  obtain ⟨v, hv⟩ : ∃ v, V j = v := ⟨_, rfl⟩
                  rw [hv] at yV bV q1 q2 q3
                  obtain ⟨T, hT⟩ : ∃ T, u + v + c2' = T := ⟨_, rfl⟩
                  rw [hT] at q1 q2 q3
                  obtain ⟨lo, elo⟩ : ∃ lo, T % bD = lo := ⟨_, rfl⟩
                  obtain ⟨hi', ehi⟩ : ∃ hi', T / bD = hi' := ⟨_, rfl⟩
                  rw [elo] at q2 q3
                  rw [ehi] at q1 q3
                  have p1' : (c2' : Int) + ((u : Int) + (v : Int)) = (T : Int) := by omega
                  have p3' : (T : Int) % 4294967296 = (lo : Int) := by rw [← elo]; unfold bD; omega
                  have p4' : (T : Int) / 4294967296 = (hi' : Int) := by rw [← ehi]; unfold bD; omega
                  have hfr := yU2
                  have HF := Lib.hid (fun (w9 : World) (hw : Mem w w.heap.size ub qb vb vo N (N + 1 - i) i V (putD U2 (k + j) lo) Q w9) => (show GiveI w w.heap.size ub qb vb vo N i k V (putD U1 (k + i) dl) Q (.int .i64 ((j : Int) + 1)) (.int .u64 (hi' : Int)) w9 from
                    ⟨j + 1, hi', putD U2 (k + j) lo, by go_num, rfl, hji, q1, hw, fun q hq => by rw [putD_other (by omega)]; exact hk q (by omega), by rw [putD_shift]; exact q2, by rw [putD_shift]; exact q3⟩))
                  have Hmm2 := Lib.hid hm
                  unfold bD at bX bV
                  clear hm hk hD hs q2 q3 hu hv hT elo ehi eX
                  go_wp2_with fail
                  go_quiet (fail)
                  go_wp2_with fail
                  exact ⟨HF.out _ (by first | exact Hmm2.out.setU _ _ | exact (Hmm2.out.drewN _).setU _ _ | exact (Hmm2.out.setU _ _).drewN _), by simp [intOf]; omega⟩
                · have c1' : ¬ (j : Int) < (i : Int) := by omega
                  obtain rfl : i = j := by omega
                  have eUd : U2 (k + i) = dl := by rw [hk _ (.inr (Nat.le_refl _)), putD_at]
                  obtain ⟨m1, m2, m3⟩ := msub_bad (U := fun q => U (k + q)) (V := V) (Z := fun q => U1 (k + q)) (Z' := fun q => U2 (k + q)) (p := pf) (c := c) (b := b) (c' := c2') HR.out HD.out HP.out.2.1 Hc.out Hb.out Hs3.out
                    (by show U (k + i) < c + b; rw [HUn.out]; exact Hbad.out) hD (by rw [hs]; congr 1; exact sumD_congr fun q hq => putD_other (by omega)) hc2
                  have m4 : (dl + c2') % bD = 0 := by rw [← Hedl.out, ← Hed.out, ← HUn.out]; exact m1
                  clear m1
                  have p10 : IntKind.u32.wrap ((dl : Int) + (c2' : Int)) = 0 := by rw [u32_wrap]; unfold bD at m4; omega
                  obtain ⟨yU1, yU2⟩ := hm.rowU.at (i := k + i) (by omega)
                  rw [eUd] at yU1
                  have hm2 := hm.setU (k + i) 0
                  obtain ⟨yq1', yq2'⟩ := hm2.rowQ.at (i := k) (by omega)
                  have yq1 : (wr.setCell ⟨ub, k + i, none⟩ (.int .u32 0)).cell? ⟨qb, k, none⟩ = some (.int .u32 ((Q k : Nat) : Int)) := yq1'
                  have yq2 : (wr.setCell ⟨ub, k + i, none⟩ (.int .u32 0)).frozen? ⟨qb, k, none⟩ = false := yq2'
                  have c3' : (k : Int) < ((N + 1 - i : Nat) : Int) := by omega
                  clear yq1' yq2'
                  have ew : sumD (fun q => putD U2 (k + i) 0 (k + q)) i = sumD (fun q => U2 (k + q)) i := sumD_congr fun q hq => putD_other (by omega)
                  have HF := Lib.hid (show LongI w w.heap.size ub qb vb vo N i (2 ^ s * x) V (.int .i64 ((k : Int) - 1)) ((wr.setCell ⟨ub, k + i, none⟩ (.int .u32 ((0 : Nat) : Int))).setCell ⟨qb, k, none⟩ (.int .u32 (pd : Int))) from
                    ⟨k, putD U2 (k + i) 0, putD Q k pd, rfl, by omega, hm2.setQ k pd, digsD_put' HQ.out (by have := HP.out.1; omega),
                      Hd.out.next (fun q hq => by rw [putD_other (by omega), hk q (by omega), putD_other (by omega)]; exact Hk.out q (by omega)) (fun q hq => by show putD U2 (k + i) 0 (k + q) < bD; rw [show putD U2 (k + i) 0 (k + q) = U2 (k + q) from putD_other (by omega)]; exact hD q hq) (putD_at _ _ _) (by rw [ew, ← Hpd.out]; exact m2) (by rw [ew]; exact m3)⟩)
                  clear hm hm2 hk hD hs m2 m3 ew m4 eUd
                  go_wp2_with fail
                  exact ⟨HF.out, by first | (simp [intOf]; done) | (simp [intOf]; omega)⟩
            · obtain ⟨m1, m2, m3⟩ := msub_ok (U := fun q => U (k + q)) (Z := fun q => U1 (k + q)) HR.out HP.out.2.2 hs (by show c + b ≤ U (k + i); rw [HUn.out]; exact hok)
              have m4 : d = 0 := by rw [← ed, ← HUn.out]; exact m1
              subst m4
              clear m1
              have hm2 := (hm.setU (k + i) 0)
              obtain ⟨yq1', yq2'⟩ := hm2.rowQ.at (i := k) (by omega)
              have yq1 : (wr.setCell ⟨ub, k + i, none⟩ (.int .u32 0)).cell? ⟨qb, k, none⟩ = some (.int .u32 ((Q k : Nat) : Int)) := yq1'
              have yq2 : (wr.setCell ⟨ub, k + i, none⟩ (.int .u32 0)).frozen? ⟨qb, k, none⟩ = false := yq2'
              have c3' : (k : Int) < ((N + 1 - i : Nat) : Int) := by omega
              clear yq1' yq2'
              have ew : sumD (fun q => putD U1 (k + i) 0 (k + q)) i = sumD (fun q => U1 (k + q)) i := sumD_congr fun q hq => putD_other (by omega)
              have HF := Lib.hid (show LongI w w.heap.size ub qb vb vo N i (2 ^ s * x) V (.int .i64 ((k : Int) - 1)) ((wr.setCell ⟨ub, k + i, none⟩ (.int .u32 ((0 : Nat) : Int))).setCell ⟨qb, k, none⟩ (.int .u32 (pf : Int))) from
                ⟨k, putD U1 (k + i) 0, putD Q k pf, rfl, by omega, hm2.setQ k pf, digsD_put' HQ.out HP.out.1, Hd.out.next (fun q hq => by rw [putD_other (by omega)]; exact hk q (by omega)) (fun q hq => by show putD U1 (k + i) 0 (k + q) < bD; rw [show putD U1 (k + i) 0 (k + q) = U1 (k + q) from putD_other (by omega)]; exact hD q hq) (putD_at _ _ _) (by rw [ew]; exact m2) (by rw [ew]; exact m3)⟩)
              clear hm hm2 hk hD hs m2 m3 ew eU eD1 ed hok
              go_wp2_with fail
              exact ⟨HF.out, by first | (simp [intOf]; done) | (simp [intOf]; omega)⟩
        --}}
    · obtain rfl : 0 = j := by omega
      obtain ⟨d1, d2⟩ := hd.done rfl HVs.out.symm (Nat.lt_of_lt_of_le (bD_pos _) Hyb.out)
      have hqr : RawAt wr wr.heap.size Q (N + 1 - n) (.slice (some ⟨qb, 0, none⟩) (N + 1 - n) (N + 1 - n)) := hm.rowQ.raw (Nat.le_refl _) (by unfold lenMax; omega) hQ (Nat.le_refl _)
      have hur : RawAt wr wr.heap.size U (N + 1) (.slice (some ⟨ub, 0, none⟩) (N + 1) (N + 1)) := hm.rowU.raw (Nat.le_refl _) (by unfold lenMax; omega) hd.dig (Nat.le_refl _)
      have hlt : sumD U (N + 1) < bD ^ (N + 1) := sumD_lt hd.dig
      rw [d2] at hlt
      have hN1 := HN.out wr Q (N + 1 - n) _ hqr
      rw [d1] at hN1
      have Hur := Lib.hid hur
      have D2 := Lib.hid d2
      have Hlt := Lib.hid hlt
      have Hbw2 := Lib.hid hm.below
      clear hm hQ hd hqr hur hlt d1 d2
      go_wp2_with fail
      refine hN1.mono ?_
      clear hN1
      rintro e w6 ⟨q', rfl, hq', hb6⟩
      have hN2 := HN.out w6 U (N + 1) _ (Hur.out.carry hb6 hb6.size)
      rw [D2.out] at hN2
      have Hq' := Lib.hid hq'
      have Hb6 := Lib.hid (below_next Hbw2.out hb6)
      clear hq' hb6
      go_wp2_with fail
      refine hN2.mono ?_
      clear hN2
      rintro e w7 ⟨u', rfl, ⟨D', m', hD', h0', he'⟩, hb7⟩
      have hm' : m' ≤ N + 1 := sumD_len h0' (by rw [← he']; exact Hlt.out)
      have hR := rsh_any w7 D' m' s u' hD' (by unfold lenS; omega) hs32
      rw [← he', Nat.mul_div_cancel_left _ (Nat.pow_pos (by decide))] at hR
      have Hq7 := Lib.hid (Hq'.out.carry hb7 hb7.size)
      have Hb7 := Lib.hid (below_next Hb6.out hb7)
      clear hD' h0' he' hb7 hm'
      go_wp2_with fail
      refine hR.mono ?_
      clear hR
      rintro e w8 ⟨r', rfl, hr', hb8⟩
      have Hf := Lib.hid (show DivP w x y (.returned (.tuple #[q', r'])) w8 from ⟨_, _, rfl, Hq7.out.carry hb8 hb8.size, hr', below_next Hb7.out hb8⟩)
      clear hr' hb8
      go_wp2_with fail
      go_ret2
      exact Hf.out
end Go.Proofs.YtfgjaoejcbldoaaGreatDoor
