/- Contracts of package sort's swapRange_func, rotate_func, symMerge_func, stable_func over 'less' and 'swap'. -/
/- Contracts of package sort's symMerge_func and stable_func over 'less' and 'swap'. -/
/- Contract of package sort's symMerge_func where both parts have more than one element; of symMerge_func whole. -/
import Derived.Test.YtpaebanmaboaiaaGreatDoorM01
import Derived.Deep.Cut
namespace Go.Proofs.YtpaebanmaboaiaaGreatDoor
open Go Go.RowKit Go.Deep
/-- What a walk of these functions begins with: the parameter lies in a new block. -/
structure Begun (n B g sf : Nat) (lb sb : Array Value) (I : Row → World → Prop) (r : Row) (w w1 : World) : Prop where
  at1 : I r w1
  kept : Kept B w w1
  data : Data w1 w.heap.size g sf lb sb
  low : B ≤ w.heap.size
theorem begun {n B g sf : Nat} {lb sb : Array Value} {lt : Nat → Nat → Bool} {I : Row → World → Prop} (H : Sorter n B g sf lb sb lt I) {r : Row} {w : World} (hI : I r w) :
    Begun n B g sf lb sb I r w (w.alloc (.cells #[.func (.func g) #[] lb, .func (.func sf) #[] sb] 132)) :=
  ⟨H.alloc _ _ _ hI, .alloc w _, at_alloc w _, H.low _ _ hI⟩
theorem Begun.then {n B g sf : Nat} {lb sb : Array Value} {I : Row → World → Prop} {r : Row} {w w1 wr : World} (h : Begun n B g sf lb sb I r w w1) (k : Kept B w1 wr) :
    Kept B w wr ∧ wr.cell? ⟨w.heap.size, 0, none⟩ = some (.func (.func g) #[] lb) ∧ wr.cell? ⟨w.heap.size, 1, none⟩ = some (.func (.func sf) #[] sb) ∧ w.heap.size < wr.heap.size := by
  have hd := h.data.kept k h.low
  have := hd.cells
  exact ⟨h.kept.trans k, this.1, this.2, (Array.getElem?_eq_some_iff.1 hd).1⟩
/-- A loop's relation: a count, a row, and what is left to do. -/
def Cnt (B : Nat) (I : Row → World → Prop) (w1 : World) (ok : Nat → Prop) (todo : Nat → Row → Row) (fin : Row) (v : Value) (wr : World) : Prop :=
  ∃ (k : Nat) (rk : Row), v = .int .i64 k ∧ ok k ∧ I rk wr ∧ Kept B w1 wr ∧ todo k rk = fin
set_option maxHeartbeats 2000000 in
set_option maxRecDepth 100000 in
theorem swapRange_any {n B g sf : Nat} {lb sb : Array Value} {lt : Nat → Nat → Bool} {I : Row → World → Prop} (H : Sorter n B g sf lb sb lt I) (a b k : Nat) (ha : a + k ≤ n) (hb : b + k ≤ n) (hne : a ≠ b) (r : Row) (w : World) (hI : I r w) :
    Calls Tryz.prog 160 #[.agg #[.func (.func g) #[] lb, .func (.func sf) #[] sb], .int .i64 a, .int .i64 b, .int .i64 k] w (SortP B I w (swR a b k 0 r)) := by
  have hsm := H.small
  have HS := Lib.hid H
  have HB := begun H hI
  clear H hI
  obtain ⟨w1, hw1⟩ : ∃ w1, w1 = w.alloc (.cells #[.func (.func g) #[] lb, .func (.func sf) #[] sb] 132) := ⟨_, rfl⟩
  rw [← hw1] at HB
  have HB := Lib.hid HB
  go_enter Tryz.func160, Tryz.ntmps160
  go_wp2_with fail
  rw [← hw1]
  clear hw1
  go_loopw [8] (fun v wr => Cnt B I w1 (fun i => i ≤ k) (swR a b k) (swR a b k 0 r) v wr) (fun v _ => k - (intOf v).toNat)
  case atStart => exact ⟨0, r, by go_num, Nat.zero_le _, HB.out.at1, .refl _ _, rfl⟩
  case round =>
    obtain ⟨i, ri, rfl, hik, hIi, hK, hT⟩ := hrel
    have HT := Lib.hid hT; clear hT
    by_cases hlt : i < k
    · have u1 : (i : Int) < (k : Int) := by omega
      obtain ⟨hK2, c0, c1, hz⟩ := HB.out.then hK
      obtain ⟨w2, hs, hI2, hz2, hk2⟩ := HS.out.swap ri wr (a + i) (b + i) hIi (by omega) (by omega) (by omega)
      rw [show (((a + i : Nat) : Int)) = (a : Int) + (i : Int) by omega, show (((b + i : Nat) : Int)) = (b : Int) + (i : Int) by omega] at hs
      have hK3 : Kept B w1 w2 := hK.trans ⟨by omega, fun q hq _ => hk2 q hq⟩
      have HI2 := Lib.hid hI2
      have HK3 := Lib.hid hK3
      clear hI2 hK3 hk2 hIi hK hK2
      go_wp2_with fail
      go_roundw
      case rel => exact ⟨i + 1, swp ri (a + i) (b + i), by go_num, by omega, HI2.out, HK3.out, by rw [← HT.out, swR_go hlt]⟩
      case measure => simp [intOf]; omega
    · have u1 : ¬ (i : Int) < (k : Int) := by omega
      go_wp2_with fail
      (try simp only [Exit.inBlock, Exit.then]); refine bodyPost_ret (results_none rfl _ _ _) rfl ?_
      exact ⟨rfl, by rw [← HT.out, swR_end hlt]; exact hIi, HB.out.kept.trans hK⟩
/-- The rotation's loop. -/
def Rot (B : Nat) (I : Row → World → Prop) (w1 : World) (m lo hi : Nat) (fin : Row) (vi vj : Value) (wr : World) : Prop :=
  ∃ (i j : Nat) (rk : Row), vi = .int .i64 i ∧ vj = .int .i64 j ∧ 0 < i ∧ 0 < j ∧ lo + i ≤ m ∧ m + j ≤ hi ∧ I rk wr ∧ Kept B w1 wr ∧ rotR m i j rk = fin
set_option maxHeartbeats 2000000 in
set_option maxRecDepth 100000 in
theorem rotate_any {n B g sf : Nat} {lb sb : Array Value} {lt : Nat → Nat → Bool} {I : Row → World → Prop} (H : Sorter n B g sf lb sb lt I) (a m b : Nat) (ha : a < m) (hb : m < b) (hn : b ≤ n) (r : Row) (w : World) (hI : I r w) :
    Calls Tryz.prog 141 #[.agg #[.func (.func g) #[] lb, .func (.func sf) #[] sb], .int .i64 a, .int .i64 m, .int .i64 b] w (SortP B I w (rotR m (m - a) (b - m) r)) := by
  have hsm := H.small
  have HW := Lib.hid fun (a b k : Nat) (ha : a + k ≤ n) (hb : b + k ≤ n) (hne : a ≠ b) (r : Row) (w : World) (hI : I r w) => swapRange_any H a b k ha hb hne r w hI
  have HB := begun H hI
  clear H hI
  obtain ⟨w1, hw1⟩ : ∃ w1, w1 = w.alloc (.cells #[.func (.func g) #[] lb, .func (.func sf) #[] sb] 132) := ⟨_, rfl⟩
  rw [← hw1] at HB
  have HB := Lib.hid HB
  go_enter Tryz.func141, Tryz.ntmps141
  go_wp2_with fail
  rw [← hw1]
  clear hw1
  go_loopw [8, 9] (fun vi vj wr => Rot B I w1 m a b (rotR m (m - a) (b - m) r) vi vj wr) (fun vi vj _ => (intOf vi).toNat + (intOf vj).toNat)
  case atStart => exact ⟨m - a, b - m, r, by congr 1; omega, by congr 1; omega, by omega, by omega, by omega, by omega, HB.out.at1, .refl _ _, rfl⟩
  case round =>
    obtain ⟨i, j, ri, rfl, rfl, hi0, hj0, hlo, hhi, hIi, hK, hT⟩ := hrel
    have HT := Lib.hid hT; clear hT
    obtain ⟨hK2, c0, c1, hz⟩ := HB.out.then hK
    have HK := Lib.hid hK; clear hK hK2
    by_cases he : i = j
    · subst he
      have hC := Lib.hid (HW.out (m - i) m i (by omega) (by omega) (by omega) ri wr hIi)
      rw [show ((m - i : Nat) : Int) = (m : Int) - (i : Int) by omega] at hC
      clear hIi
      go_wp2_with fail
      refine hC.out.mono ?_
      clear hC
      rintro e w2 ⟨rfl, hI2, hk2⟩
      have HI2 := Lib.hid hI2; clear hI2
      go_wp2_with fail
      (try simp only [Exit.inBlock, Exit.then]); refine bodyPost_ret (results_none rfl _ _ _) rfl ?_
      exact ⟨rfl, by rw [← HT.out, rotR_end]; exact HI2.out, (HB.out.kept.trans HK.out).trans hk2⟩
    · have u0 : ((i : Int) == (j : Int)) = false := by simpa using fun e : (i : Int) = j => he (by omega)
      have u0' : ((i : Int) != (j : Int)) = true := by simpa using fun e : (i : Int) = j => he (by omega)
      by_cases hgt : j < i
      · have u1 : (j : Int) < (i : Int) := by omega
        have hC := Lib.hid (HW.out (m - i) m j (by omega) (by omega) (by omega) ri wr hIi)
        rw [show ((m - i : Nat) : Int) = (m : Int) - (i : Int) by omega] at hC
        clear hIi
        go_wp2_with fail
        refine hC.out.mono ?_
        clear hC
        rintro e w2 ⟨rfl, hI2, hk2⟩
        have HI2 := Lib.hid hI2; clear hI2
        go_wp2_with fail
        go_roundw
        case rel => exact ⟨i - j, j, _, by congr 1; omega, rfl, by omega, hj0, by omega, by omega, HI2.out, HK.out.trans hk2, by rw [← HT.out]; exact (rotR_gt hj0 hgt).symm⟩
        case measure => simp [intOf]; omega
      · have u1 : ¬ (j : Int) < (i : Int) := by omega
        have hC := Lib.hid (HW.out (m - i) (m + j - i) i (by omega) (by omega) (by omega) ri wr hIi)
        rw [show ((m - i : Nat) : Int) = (m : Int) - (i : Int) by omega, show ((m + j - i : Nat) : Int) = (m : Int) + (j : Int) - (i : Int) by omega] at hC
        clear hIi
        go_wp2_with fail
        refine hC.out.mono ?_
        clear hC
        rintro e w2 ⟨rfl, hI2, hk2⟩
        have HI2 := Lib.hid hI2; clear hI2
        go_wp2_with fail
        go_roundw
        case rel => exact ⟨i, j - i, _, rfl, by congr 1; omega, hi0, by omega, hlo, by omega, HI2.out, HK.out.trans hk2, by rw [← HT.out]; exact (rotR_lt hi0 (by omega)).symm⟩
        case measure => simp [intOf]; omega
end Go.Proofs.YtpaebanmaboaiaaGreatDoor

namespace Go.Proofs.YtpaebanmaboaiaaGreatDoor
open Go Go.RowKit Go.Deep
/-- A binary search's loop. -/
def Bin (B : Nat) (I : Row → World → Prop) (w1 : World) (lo hi : Nat) (p : Nat → Bool) (r : Row) (vi vj : Value) (wr : World) : Prop :=
  ∃ (i j : Nat), vi = .int .i64 i ∧ vj = .int .i64 j ∧ lo ≤ i ∧ i ≤ j ∧ j ≤ hi ∧ I r wr ∧ Kept B w1 wr ∧ bsW p i j = bsW p lo hi
/-- What is wanted of a smaller merge. -/
def Merges (n B g sf : Nat) (lb sb : Array Value) (lt : Nat → Nat → Bool) (I : Row → World → Prop) (f : Nat) : Prop :=
  ∀ (a m b : Nat) (r : Row) (w : World), b - a ≤ f → a < m → m < b → b ≤ n → I r w →
    Calls Tryz.prog 121 #[.agg #[.func (.func g) #[] lb, .func (.func sf) #[] sb], .int .i64 a, .int .i64 m, .int .i64 b] w (SortP B I w (symM lt f a m b r))
set_option maxHeartbeats 4000000 in
set_option maxRecDepth 100000 in
theorem merge_up {n B g sf : Nat} {lb sb : Array Value} {lt : Nat → Nat → Bool} {I : Row → World → Prop} (H : Sorter n B g sf lb sb lt I) (f a m b : Nat) (hm : m = a + 1) (hb : m < b) (hn : b ≤ n) (r : Row) (w : World) (hI : I r w) :
    Calls Tryz.prog 121 #[.agg #[.func (.func g) #[] lb, .func (.func sf) #[] sb], .int .i64 a, .int .i64 m, .int .i64 b] w (SortP B I w (symM lt (f + 1) a m b r)) := by
  have eg := H.eg
  unfold EntersF at eg
  have hsm := H.small
  have HS := Lib.hid H
  have HB := begun H hI
  clear H hI
  obtain ⟨w1, hw1⟩ : ∃ w1, w1 = w.alloc (.cells #[.func (.func g) #[] lb, .func (.func sf) #[] sb] 132) := ⟨_, rfl⟩
  rw [← hw1] at HB
  have HB := Lib.hid HB
  rw [show symM lt (f + 1) a m b r = shUp (bsW (fun h => lt (r h) (r a)) m b) a r by subst hm; exact symM_up]
  obtain ⟨p, hp⟩ : ∃ p : Nat → Bool, p = fun h => lt (r h) (r a) := ⟨_, rfl⟩
  rw [← hp]
  have HP := Lib.hid hp; clear hp
  obtain ⟨fin, hfin⟩ : ∃ fin, fin = shUp (bsW p m b) a r := ⟨_, rfl⟩
  rw [← hfin]
  have HF := Lib.hid hfin; clear hfin
  have u0 : (m : Int) - (a : Int) = 1 := by omega
  have hm1 : a < m := by omega
  have hm2 : m ≤ a + 1 := by omega
  clear hm
  go_enter Tryz.func121, Tryz.ntmps121
  go_wp2_with fail
  rw [← hw1]
  clear hw1
  go_loopw [8, 9] (fun vi vj wr => Bin B I w1 m b p r vi vj wr) (fun vi vj _ => (intOf vj).toNat - (intOf vi).toNat)
  case atStart => exact ⟨m, b, rfl, rfl, Nat.le_refl _, by omega, Nat.le_refl _, HB.out.at1, .refl _ _, rfl⟩
  case round =>
    obtain ⟨i, j, rfl, rfl, hi, hij, hj, hIi, hK, hT⟩ := hrel
    have HT := Lib.hid hT; clear hT
    obtain ⟨hK2, c0, c1, hz⟩ := HB.out.then hK
    have HK := Lib.hid hK; clear hK hK2
    by_cases hlt : i < j
    · have u1 : (i : Int) < (j : Int) := by omega
      have hl := HS.out.less r wr ((i + j) / 2) a hIi (by omega) (by omega)
      rw [show (((i + j) / 2 : Nat) : Int) = ((i : Int) + (j : Int)) / 2 by omega] at hl
      have HL := Lib.hid hl; clear hl hIi
      have hpe : lt (r ((i + j) / 2)) (r a) = p ((i + j) / 2) := by rw [HP.out]
      rw [hpe] at HL
      cases hpv : p ((i + j) / 2) with
      | true =>
        rw [hpv] at HL
        have HPV := Lib.hid hpv; clear hpv hpe
        go_wp2_with fail
        refine HL.out.mono ?_
        clear HL
        rintro e w' ⟨rfl, hI', hb'⟩
        go_wp2_with fail
        go_roundw
        case rel => exact ⟨(i + j) / 2 + 1, j, by first | rfl | (congr 1; omega), rfl, by omega, by omega, hj, hI', HK.out.below hb', by rw [← HT.out]; exact (bsW_lo hlt HPV.out).symm⟩
        case measure => simp [intOf]; omega
      | false =>
        rw [hpv] at HL
        have HPV := Lib.hid hpv; clear hpv hpe
        go_wp2_with fail
        refine HL.out.mono ?_
        clear HL
        rintro e w' ⟨rfl, hI', hb'⟩
        go_wp2_with fail
        go_roundw
        case rel => exact ⟨i, (i + j) / 2, rfl, by congr 1, hi, by omega, by omega, hI', HK.out.below hb', by rw [← HT.out]; exact (bsW_hi hlt HPV.out).symm⟩
        case measure => simp [intOf]; omega
    · have u1 : ¬ (i : Int) < (j : Int) := by omega
      have e1 : bsW p m b = i := by rw [← HT.out, bsW_end hlt]
      have HF2 : Hid (shUp i a r = fin) := Lib.hid (by rw [HF.out, e1])
      clear e1
      obtain ⟨wo, hwo⟩ : ∃ wo : World, wo = wr := ⟨_, rfl⟩
      go_wp2_with fail
      subst hwo
      go_loopw [11] (fun v wr => Cnt B I w1 (fun k => a ≤ k ∧ k + 1 ≤ i) (shUp i) fin v wr) (fun v _ => i - (intOf v).toNat)
      case atStart => exact ⟨a, r, rfl, ⟨Nat.le_refl _, by omega⟩, hIi, HK.out, HF2.out⟩
      case round =>
        obtain ⟨k, rk, rfl, ⟨hak, hki⟩, hIk, hKk, hTk⟩ := hrel
        have HTk := Lib.hid hTk; clear hTk
        clear c0 c1 hz
        obtain ⟨hK2, c0, c1, hz⟩ := HB.out.then hKk
        by_cases hlk : k + 1 < i
        · have u2 : (k : Int) < (i : Int) - 1 := by omega
          obtain ⟨w2, hs, hI2, hz2, hk2⟩ := HS.out.swap rk wr k (k + 1) hIk (by omega) (by omega) (by omega)
          rw [show (((k + 1 : Nat) : Int)) = (k : Int) + 1 by omega] at hs
          have hK3 : Kept B w1 w2 := hKk.trans ⟨by omega, fun q hq _ => hk2 q hq⟩
          have HI2 := Lib.hid hI2
          have HK3 := Lib.hid hK3
          clear hI2 hK3 hk2 hIk hKk hK2
          go_wp2_with fail
          go_roundw
          case rel => exact ⟨k + 1, swp rk k (k + 1), by go_num, ⟨by omega, by omega⟩, HI2.out, HK3.out, by rw [← HTk.out]; exact (shUp_go hlk).symm⟩
          case measure => simp [intOf]; omega
        · have u2 : ¬ (k : Int) < (i : Int) - 1 := by omega
          go_wp2_with fail
          (try simp only [Exit.inBlock, Exit.then]); refine bodyPost_ret (results_none rfl _ _ _) rfl ?_
          exact ⟨rfl, by rw [← HTk.out, shUp_end hlk]; exact hIk, HB.out.kept.trans hKk⟩
set_option maxHeartbeats 4000000 in
set_option maxRecDepth 100000 in
theorem merge_dn {n B g sf : Nat} {lb sb : Array Value} {lt : Nat → Nat → Bool} {I : Row → World → Prop} (H : Sorter n B g sf lb sb lt I) (f a m b : Nat) (ha : a < m) (hm : m ≠ a + 1) (hb : b = m + 1) (hn : b ≤ n) (r : Row) (w : World) (hI : I r w) :
    Calls Tryz.prog 121 #[.agg #[.func (.func g) #[] lb, .func (.func sf) #[] sb], .int .i64 a, .int .i64 m, .int .i64 b] w (SortP B I w (symM lt (f + 1) a m b r)) := by
  have eg := H.eg
  unfold EntersF at eg
  have hsm := H.small
  have HS := Lib.hid H
  have HB := begun H hI
  clear H hI
  obtain ⟨w1, hw1⟩ : ∃ w1, w1 = w.alloc (.cells #[.func (.func g) #[] lb, .func (.func sf) #[] sb] 132) := ⟨_, rfl⟩
  rw [← hw1] at HB
  have HB := Lib.hid HB
  rw [show symM lt (f + 1) a m b r = shDn (bsW (fun h => !lt (r m) (r h)) a m) m r by subst hb; exact symM_dn hm]
  obtain ⟨p, hp⟩ : ∃ p : Nat → Bool, p = fun h => !lt (r m) (r h) := ⟨_, rfl⟩
  rw [← hp]
  have HP := Lib.hid hp; clear hp
  obtain ⟨fin, hfin⟩ : ∃ fin, fin = shDn (bsW p a m) m r := ⟨_, rfl⟩
  rw [← hfin]
  have HF := Lib.hid hfin; clear hfin
  have u0 : (b : Int) - (m : Int) = 1 := by omega
  have hb1 : m < b := by omega
  have hb2 : b ≤ m + 1 := by omega
  clear hb
  have u00 : (((m : Int) - (a : Int)) == 1) = false := by
    have : (m : Int) - (a : Int) ≠ 1 := by omega
    simpa using this
  go_enter Tryz.func121, Tryz.ntmps121
  go_wp2_with fail
  rw [← hw1]
  clear hw1
  go_loopw [12, 13] (fun vi vj wr => Bin B I w1 a m p r vi vj wr) (fun vi vj _ => (intOf vj).toNat - (intOf vi).toNat)
  case atStart => exact ⟨a, m, rfl, rfl, Nat.le_refl _, by omega, Nat.le_refl _, HB.out.at1, .refl _ _, rfl⟩
  case round =>
    obtain ⟨i, j, rfl, rfl, hi, hij, hj, hIi, hK, hT⟩ := hrel
    have HT := Lib.hid hT; clear hT
    obtain ⟨hK2, c0, c1, hz⟩ := HB.out.then hK
    have HK := Lib.hid hK; clear hK hK2
    by_cases hlt : i < j
    · have u1 : (i : Int) < (j : Int) := by omega
      have hl := HS.out.less r wr m ((i + j) / 2) hIi (by omega) (by omega)
      rw [show (((i + j) / 2 : Nat) : Int) = ((i : Int) + (j : Int)) / 2 by omega] at hl
      have hpe : (!lt (r m) (r ((i + j) / 2))) = p ((i + j) / 2) := by rw [HP.out]
      generalize lt (r m) (r ((i + j) / 2)) = lv at *
      have HL := Lib.hid hl; clear hl hIi
      cases lv with
      | false =>
        have HPV : Hid (p ((i + j) / 2) = true) := Lib.hid hpe.symm; clear hpe
        go_wp2_with fail
        refine HL.out.mono ?_
        clear HL
        rintro e w' ⟨rfl, hI', hb'⟩
        go_wp2_with fail
        go_roundw
        case rel => exact ⟨(i + j) / 2 + 1, j, by first | rfl | (congr 1; omega), rfl, by omega, by omega, hj, hI', HK.out.below hb', by rw [← HT.out]; exact (bsW_lo hlt HPV.out).symm⟩
        case measure => simp [intOf]; omega
      | true =>
        have HPV : Hid (p ((i + j) / 2) = false) := Lib.hid hpe.symm; clear hpe
        go_wp2_with fail
        refine HL.out.mono ?_
        clear HL
        rintro e w' ⟨rfl, hI', hb'⟩
        go_wp2_with fail
        go_roundw
        case rel => exact ⟨i, (i + j) / 2, rfl, by congr 1, hi, by omega, by omega, hI', HK.out.below hb', by rw [← HT.out]; exact (bsW_hi hlt HPV.out).symm⟩
        case measure => simp [intOf]; omega
    · have u1 : ¬ (i : Int) < (j : Int) := by omega
      have e1 : bsW p a m = i := by rw [← HT.out, bsW_end hlt]
      have HF2 : Hid (shDn i m r = fin) := Lib.hid (by rw [HF.out, e1])
      clear e1
      obtain ⟨wo, hwo⟩ : ∃ wo : World, wo = wr := ⟨_, rfl⟩
      go_wp2_with fail
      subst hwo
      go_loopw [15] (fun v wr => Cnt B I w1 (fun k => i ≤ k ∧ k ≤ m) (shDn i) fin v wr) (fun v _ => (intOf v).toNat)
      case atStart => exact ⟨m, r, rfl, ⟨by omega, Nat.le_refl _⟩, hIi, HK.out, HF2.out⟩
      case round =>
        obtain ⟨k, rk, rfl, ⟨hik, hkm⟩, hIk, hKk, hTk⟩ := hrel
        have HTk := Lib.hid hTk; clear hTk
        clear c0 c1 hz
        obtain ⟨hK2, c0, c1, hz⟩ := HB.out.then hKk
        by_cases hlk : i < k
        · have u2 : (i : Int) < (k : Int) := by omega
          obtain ⟨w2, hs, hI2, hz2, hk2⟩ := HS.out.swap rk wr k (k - 1) hIk (by omega) (by omega) (by omega)
          rw [show (((k - 1 : Nat) : Int)) = (k : Int) - 1 by omega] at hs
          have hK3 : Kept B w1 w2 := hKk.trans ⟨by omega, fun q hq _ => hk2 q hq⟩
          have HI2 := Lib.hid hI2
          have HK3 := Lib.hid hK3
          clear hI2 hK3 hk2 hIk hKk hK2
          go_wp2_with fail
          go_roundw
          case rel => exact ⟨k - 1, swp rk k (k - 1), by congr 1; omega, ⟨by omega, by omega⟩, HI2.out, HK3.out, by rw [← HTk.out]; exact (shDn_go hlk).symm⟩
          case measure => simp [intOf]; omega
        · have u2 : ¬ (i : Int) < (k : Int) := by omega
          go_wp2_with fail
          (try simp only [Exit.inBlock, Exit.then]); refine bodyPost_ret (results_none rfl _ _ _) rfl ?_
          exact ⟨rfl, by rw [← HTk.out, shDn_end hlk]; exact hIk, HB.out.kept.trans hKk⟩
end Go.Proofs.YtpaebanmaboaiaaGreatDoor

namespace Go.Proofs.YtpaebanmaboaiaaGreatDoor
open Go Go.RowKit Go.Deep
/-- What the three steps behind the search make of a row. -/
structure Mid (n a m b mid st f : Nat) (lt : Nat → Nat → Bool) (r r1 r2 r3 : Row) : Prop where
  s1 : a ≤ st
  s2 : st ≤ m
  s3 : st ≤ mid
  s4 : mid + m - st ≤ b
  s5 : m ≤ mid + m - st
  e1 : st < m ∧ m < mid + m - st → r1 = rotR m (m - st) (mid + m - st - m) r
  n1 : ¬ (st < m ∧ m < mid + m - st) → r1 = r
  e2 : a < st ∧ st < mid → r2 = symM lt f a st mid r1
  n2 : ¬ (a < st ∧ st < mid) → r2 = r1
  e3 : mid < mid + m - st ∧ mid + m - st < b → r3 = symM lt f mid (mid + m - st) b r2
  n3 : ¬ (mid < mid + m - st ∧ mid + m - st < b) → r3 = r2
structure Mid' (a m b mid st en f : Nat) (lt : Nat → Nat → Bool) (r r1 r2 r3 : Row) : Prop where
  e1 : st < m ∧ m < en → r1 = rotR m (m - st) (en - m) r
  n1 : ¬ (st < m ∧ m < en) → r1 = r
  e2 : a < st ∧ st < mid → r2 = symM lt f a st mid r1
  n2 : ¬ (a < st ∧ st < mid) → r2 = r1
  e3 : mid < en ∧ en < b → r3 = symM lt f mid en b r2
  n3 : ¬ (mid < en ∧ en < b) → r3 = r2
theorem mid_of {n f a m b : Nat} {lt : Nat → Nat → Bool} (r : Row) (ha : a + 1 < m) (hb : m + 1 < b) :
    Mid n a m b ((a + b) / 2) (stW lt a m b r) f lt r (sy1 lt a m b r) (sy2 lt f a m b r) (symM lt (f + 1) a m b r) := by
  obtain ⟨s1, s2, s3, s4, s5⟩ := stW_in (lt := lt) (a := a) (m := m) (b := b) r (by omega) (by omega) (by omega) (by omega)
  refine ⟨s1, s2, s3, s4, s5, fun h => ?_, fun h => ?_, fun h => ?_, fun h => ?_, fun h => ?_, fun h => ?_⟩
  · unfold sy1; rw [if_pos h]
  · unfold sy1; rw [if_neg h]
  · unfold sy2; rw [if_pos h]
  · unfold sy2; rw [if_neg h]
  · rw [symM_mid (by omega) (by omega), if_pos h]
  · rw [symM_mid (by omega) (by omega), if_neg h]
set_option maxHeartbeats 8000000 in
set_option maxRecDepth 100000 in
theorem merge_mid {n B g sf : Nat} {lb sb : Array Value} {lt : Nat → Nat → Bool} {I : Row → World → Prop} (H : Sorter n B g sf lb sb lt I) (f : Nat) (M : Merges n B g sf lb sb lt I f) (a m b : Nat) (ha : a + 1 < m) (hb : m + 1 < b) (hf : b - a ≤ f + 1) (hn : b ≤ n) (r : Row) (w : World) (hI : I r w) :
    Calls Tryz.prog 121 #[.agg #[.func (.func g) #[] lb, .func (.func sf) #[] sb], .int .i64 a, .int .i64 m, .int .i64 b] w (SortP B I w (symM lt (f + 1) a m b r)) := by
  have eg := H.eg
  unfold EntersF at eg
  have hsm := H.small
  have HM := Lib.hid M; clear M
  have HR := Lib.hid fun (a m b : Nat) (ha : a < m) (hb : m < b) (hn : b ≤ n) (r : Row) (w : World) (hI : I r w) => rotate_any H a m b ha hb hn r w hI
  have HS := Lib.hid H
  have HB := begun H hI
  clear H hI
  obtain ⟨w1, hw1⟩ : ∃ w1, w1 = w.alloc (.cells #[.func (.func g) #[] lb, .func (.func sf) #[] sb] 132) := ⟨_, rfl⟩
  rw [← hw1] at HB
  have HB := Lib.hid HB
  have hmid := mid_of (n := n) (f := f) (lt := lt) r ha hb
  have hstw : stW lt a m b r = stW lt a m b r := rfl
  generalize symM lt (f + 1) a m b r = r3 at *
  generalize sy2 lt f a m b r = r2 at *
  generalize sy1 lt a m b r = r1 at *
  conv at hstw => rhs; unfold stW
  generalize stW lt a m b r = st at *
  obtain ⟨mid, hmd⟩ : ∃ mid, mid = (a + b) / 2 := ⟨_, rfl⟩
  rw [← hmd] at hmid hstw
  have q1 : 2 * mid ≤ a + b := by omega
  have q2 : a + b ≤ 2 * mid + 1 := by omega
  have q3 : ((a : Int) + (b : Int)) / 2 = (mid : Int) := by omega
  obtain ⟨p, hp⟩ : ∃ p : Nat → Bool, p = fun c => !lt (r (mid + m - 1 - c)) (r c) := ⟨_, rfl⟩
  rw [← hp] at hstw
  have HP := Lib.hid hp; clear hp hmd
  obtain ⟨lo, hi, hst, hcase⟩ : ∃ lo hi : Nat, st = bsW p lo hi ∧ ((mid < m ∧ lo + b = mid + m ∧ hi = mid) ∨ (m ≤ mid ∧ lo = a ∧ hi = m)) := by
    by_cases h : mid < m
    · rw [if_pos h] at hstw
      exact ⟨_, _, hstw, .inl ⟨h, by omega, rfl⟩⟩
    · rw [if_neg h] at hstw
      exact ⟨_, _, hstw, .inr ⟨by omega, rfl, rfl⟩⟩
  have HT0 := Lib.hid hst; clear hst hstw
  have Hmid := Lib.hid hmid
  have s1 := hmid.s1
  have s2 := hmid.s2
  have s3 := hmid.s3
  have s4 := hmid.s4
  have s5 := hmid.s5
  clear hmid
  have z1 : ((m : Int) - (a : Int) == 1) = false := by
    have : (m : Int) - (a : Int) ≠ 1 := by omega
    simpa using this
  have z2 : ((b : Int) - (m : Int) == 1) = false := by
    have : (b : Int) - (m : Int) ≠ 1 := by omega
    simpa using this
  have hb2 : m < b := by omega
  rcases hcase with ⟨c1, c2, c3⟩ | ⟨c1, c2, c3⟩
  all_goals
    (try have z3 : decide (mid < m) = false := decide_eq_false (by omega))
    go_enter Tryz.func121, Tryz.ntmps121
    go_wp2_with fail
    rw [← hw1]
    (try rw [z3])
    clear hw1
    go_loopw [18, 19] (fun vi vj wr => Bin B I w1 lo hi p r vi vj wr) (fun vi vj _ => (intOf vj).toNat - (intOf vi).toNat)
    case atStart => exact ⟨lo, hi, by congr 1; omega, by congr 1; omega, Nat.le_refl _, by omega, Nat.le_refl _, HB.out.at1, .refl _ _, rfl⟩
    case round =>
      obtain ⟨i, j, rfl, rfl, hli, hij, hj, hIi, hK, hT⟩ := hrel
      have HT := Lib.hid hT; clear hT
      obtain ⟨hK2, c0, c1, hz⟩ := HB.out.then hK
      have HK := Lib.hid hK; clear hK hK2
      by_cases hlt : i < j
      · have u1 : (i : Int) < (j : Int) := by omega
        have hl := HS.out.less r wr (mid + m - 1 - (i + j) / 2) ((i + j) / 2) hIi (by omega) (by omega)
        rw [show ((mid + m - 1 - (i + j) / 2 : Nat) : Int) = (mid : Int) + (m : Int) - 1 - ((i : Int) + (j : Int)) / 2 by omega, show (((i + j) / 2 : Nat) : Int) = ((i : Int) + (j : Int)) / 2 by omega] at hl
        have hpe : (!lt (r (mid + m - 1 - (i + j) / 2)) (r ((i + j) / 2))) = p ((i + j) / 2) := by rw [HP.out]
        generalize lt (r (mid + m - 1 - (i + j) / 2)) (r ((i + j) / 2)) = lv at *
        have HL := Lib.hid hl; clear hl hIi
        cases lv with
        | false =>
          have HPV : Hid (p ((i + j) / 2) = true) := Lib.hid hpe.symm; clear hpe
          go_wp2_with fail
          refine HL.out.mono ?_
          clear HL
          rintro e w' ⟨rfl, hI', hb'⟩
          go_wp2_with fail
          go_roundw
          case rel => exact ⟨(i + j) / 2 + 1, j, by first | rfl | (congr 1; omega), rfl, by omega, by omega, hj, hI', HK.out.below hb', by rw [← HT.out]; exact (bsW_lo hlt HPV.out).symm⟩
          case measure => simp [intOf]; omega
        | true =>
          have HPV : Hid (p ((i + j) / 2) = false) := Lib.hid hpe.symm; clear hpe
          go_wp2_with fail
          refine HL.out.mono ?_
          clear HL
          rintro e w' ⟨rfl, hI', hb'⟩
          go_wp2_with fail
          go_roundw
          case rel => exact ⟨i, (i + j) / 2, rfl, by congr 1, hli, by omega, by omega, hI', HK.out.below hb', by rw [← HT.out]; exact (bsW_hi hlt HPV.out).symm⟩
          case measure => simp [intOf]; omega
      · have u1 : ¬ (i : Int) < (j : Int) := by omega
        have e1 : st = i := by rw [HT0.out, ← HT.out, bsW_end hlt]
        subst e1
        obtain ⟨en, hen⟩ : ∃ en : Nat, en = mid + m - st := ⟨_, rfl⟩
        have hMd := Hmid.out
        have v0 := HB.out.kept
        rw [← hen] at s4 s5
        have hm' : Mid' a m b mid st en f lt r r1 r2 r3 := hen ▸ ⟨hMd.e1, hMd.n1, hMd.e2, hMd.n2, hMd.e3, hMd.n3⟩
        have Hm' := Lib.hid hm'
        have q5 : (mid : Int) + (m : Int) - (st : Int) = (en : Int) := by omega
        have q6 : en + st = mid + m := by omega
        clear hMd hm' hen Hmid
        have HIi := Lib.hid hIi; clear hIi
        by_cases b1 : st < m ∧ m < en
        · have g1 := b1
          by_cases b2 : a < st ∧ st < mid
          · have g2 := b2
            by_cases b3 : mid < en ∧ en < b
            · have g3 := b3
              have hC := Lib.hid (HR.out st m en (by omega) (by omega) (by omega) r wr HIi.out)
              go_wp2_with fail
              all_goals (refine hC.out.mono ?_)
              all_goals (clear hC)
              all_goals (rintro e w2 ⟨rfl, hI2, hk2⟩)
              all_goals (have HI2 : Hid (I r1 w2) := Lib.hid (by rw [Hm'.out.e1 b1]; exact hI2))
              all_goals (clear hI2)
              all_goals (have HK2 := Lib.hid (HK.out.trans hk2))
              all_goals (obtain ⟨d2, c0, c1, hz⟩ := HB.out.then HK2.out)
              all_goals (clear d2 hk2)
              all_goals (have hC := Lib.hid (HM.out a st mid r1 w2 (by omega) (by omega) (by omega) (by omega) HI2.out))
              all_goals (go_wp2_with fail)
              all_goals (refine hC.out.mono ?_)
              all_goals (clear hC)
              all_goals (rintro e w3 ⟨rfl, hI3, hk3⟩)
              all_goals (have HI3 : Hid (I r2 w3) := Lib.hid (by rw [Hm'.out.e2 b2]; exact hI3))
              all_goals (clear hI3)
              all_goals (have HK3 := Lib.hid (HK2.out.trans hk3))
              all_goals (obtain ⟨d3, c0, c1, hz⟩ := HB.out.then HK3.out)
              all_goals (clear d3 hk3)
              all_goals (have hC := Lib.hid (HM.out mid en b r2 w3 (by omega) (by omega) (by omega) (by omega) HI3.out))
              all_goals (go_wp2_with fail)
              all_goals (refine hC.out.mono ?_)
              all_goals (clear hC)
              all_goals (rintro e w4 ⟨rfl, hI4, hk4⟩)
              all_goals (have HI4 : Hid (I r3 w4) := Lib.hid (by rw [Hm'.out.e3 b3]; exact hI4))
              all_goals (clear hI4)
              all_goals (have HK4 := Lib.hid (HK3.out.trans hk4))
              all_goals (obtain ⟨d4, c0, c1, hz⟩ := HB.out.then HK4.out)
              all_goals (clear d4 hk4)
              all_goals (go_wp2_with fail)
              all_goals ((try simp only [Exit.inBlock, Exit.then]); refine bodyPost_ret (results_none rfl _ _ _) rfl ?_)
              all_goals (exact ⟨rfl, HI4.out, HB.out.kept.trans HK4.out⟩)
            · have g3 : en ≤ mid ∨ b ≤ en := by omega
              have hC := Lib.hid (HR.out st m en (by omega) (by omega) (by omega) r wr HIi.out)
              go_wp2_with fail
              all_goals (refine hC.out.mono ?_)
              all_goals (clear hC)
              all_goals (rintro e w2 ⟨rfl, hI2, hk2⟩)
              all_goals (have HI2 : Hid (I r1 w2) := Lib.hid (by rw [Hm'.out.e1 b1]; exact hI2))
              all_goals (clear hI2)
              all_goals (have HK2 := Lib.hid (HK.out.trans hk2))
              all_goals (obtain ⟨d2, c0, c1, hz⟩ := HB.out.then HK2.out)
              all_goals (clear d2 hk2)
              all_goals (have hC := Lib.hid (HM.out a st mid r1 w2 (by omega) (by omega) (by omega) (by omega) HI2.out))
              all_goals (go_wp2_with fail)
              all_goals (refine hC.out.mono ?_)
              all_goals (clear hC)
              all_goals (rintro e w3 ⟨rfl, hI3, hk3⟩)
              all_goals (have HI3 : Hid (I r2 w3) := Lib.hid (by rw [Hm'.out.e2 b2]; exact hI3))
              all_goals (clear hI3)
              all_goals (have HK3 := Lib.hid (HK2.out.trans hk3))
              all_goals (obtain ⟨d3, c0, c1, hz⟩ := HB.out.then HK3.out)
              all_goals (clear d3 hk3)
              all_goals (have HJ4 : Hid (I r3 w3) := Lib.hid (by rw [Hm'.out.n3 b3]; exact HI3.out))
              all_goals (go_wp2_with fail)
              all_goals ((try simp only [Exit.inBlock, Exit.then]); refine bodyPost_ret (results_none rfl _ _ _) rfl ?_)
              all_goals (exact ⟨rfl, HJ4.out, HB.out.kept.trans HK3.out⟩)
          · have g2 : st ≤ a ∨ mid ≤ st := by omega
            by_cases b3 : mid < en ∧ en < b
            · have g3 := b3
              have hC := Lib.hid (HR.out st m en (by omega) (by omega) (by omega) r wr HIi.out)
              go_wp2_with fail
              all_goals (refine hC.out.mono ?_)
              all_goals (clear hC)
              all_goals (rintro e w2 ⟨rfl, hI2, hk2⟩)
              all_goals (have HI2 : Hid (I r1 w2) := Lib.hid (by rw [Hm'.out.e1 b1]; exact hI2))
              all_goals (clear hI2)
              all_goals (have HK2 := Lib.hid (HK.out.trans hk2))
              all_goals (obtain ⟨d2, c0, c1, hz⟩ := HB.out.then HK2.out)
              all_goals (clear d2 hk2)
              all_goals (have HJ3 : Hid (I r2 w2) := Lib.hid (by rw [Hm'.out.n2 b2]; exact HI2.out))
              all_goals (have hC := Lib.hid (HM.out mid en b r2 w2 (by omega) (by omega) (by omega) (by omega) HJ3.out))
              all_goals (go_wp2_with fail)
              all_goals (refine hC.out.mono ?_)
              all_goals (clear hC)
              all_goals (rintro e w4 ⟨rfl, hI4, hk4⟩)
              all_goals (have HI4 : Hid (I r3 w4) := Lib.hid (by rw [Hm'.out.e3 b3]; exact hI4))
              all_goals (clear hI4)
              all_goals (have HK4 := Lib.hid (HK2.out.trans hk4))
              all_goals (obtain ⟨d4, c0, c1, hz⟩ := HB.out.then HK4.out)
              all_goals (clear d4 hk4)
              all_goals (go_wp2_with fail)
              all_goals ((try simp only [Exit.inBlock, Exit.then]); refine bodyPost_ret (results_none rfl _ _ _) rfl ?_)
              all_goals (exact ⟨rfl, HI4.out, HB.out.kept.trans HK4.out⟩)
            · have g3 : en ≤ mid ∨ b ≤ en := by omega
              have hC := Lib.hid (HR.out st m en (by omega) (by omega) (by omega) r wr HIi.out)
              go_wp2_with fail
              all_goals (refine hC.out.mono ?_)
              all_goals (clear hC)
              all_goals (rintro e w2 ⟨rfl, hI2, hk2⟩)
              all_goals (have HI2 : Hid (I r1 w2) := Lib.hid (by rw [Hm'.out.e1 b1]; exact hI2))
              all_goals (clear hI2)
              all_goals (have HK2 := Lib.hid (HK.out.trans hk2))
              all_goals (obtain ⟨d2, c0, c1, hz⟩ := HB.out.then HK2.out)
              all_goals (clear d2 hk2)
              all_goals (have HJ3 : Hid (I r2 w2) := Lib.hid (by rw [Hm'.out.n2 b2]; exact HI2.out))
              all_goals (have HJ4 : Hid (I r3 w2) := Lib.hid (by rw [Hm'.out.n3 b3]; exact HJ3.out))
              all_goals (go_wp2_with fail)
              all_goals ((try simp only [Exit.inBlock, Exit.then]); refine bodyPost_ret (results_none rfl _ _ _) rfl ?_)
              all_goals (exact ⟨rfl, HJ4.out, HB.out.kept.trans HK2.out⟩)
        · have g1 : m ≤ st ∨ en ≤ m := by omega
          by_cases b2 : a < st ∧ st < mid
          · have g2 := b2
            by_cases b3 : mid < en ∧ en < b
            · have g3 := b3
              have HJ2 : Hid (I r1 wr) := Lib.hid (by rw [Hm'.out.n1 b1]; exact HIi.out)
              have hC := Lib.hid (HM.out a st mid r1 wr (by omega) (by omega) (by omega) (by omega) HJ2.out)
              go_wp2_with fail
              all_goals (refine hC.out.mono ?_)
              all_goals (clear hC)
              all_goals (rintro e w3 ⟨rfl, hI3, hk3⟩)
              all_goals (have HI3 : Hid (I r2 w3) := Lib.hid (by rw [Hm'.out.e2 b2]; exact hI3))
              all_goals (clear hI3)
              all_goals (have HK3 := Lib.hid (HK.out.trans hk3))
              all_goals (obtain ⟨d3, c0, c1, hz⟩ := HB.out.then HK3.out)
              all_goals (clear d3 hk3)
              all_goals (have hC := Lib.hid (HM.out mid en b r2 w3 (by omega) (by omega) (by omega) (by omega) HI3.out))
              all_goals (go_wp2_with fail)
              all_goals (refine hC.out.mono ?_)
              all_goals (clear hC)
              all_goals (rintro e w4 ⟨rfl, hI4, hk4⟩)
              all_goals (have HI4 : Hid (I r3 w4) := Lib.hid (by rw [Hm'.out.e3 b3]; exact hI4))
              all_goals (clear hI4)
              all_goals (have HK4 := Lib.hid (HK3.out.trans hk4))
              all_goals (obtain ⟨d4, c0, c1, hz⟩ := HB.out.then HK4.out)
              all_goals (clear d4 hk4)
              all_goals (go_wp2_with fail)
              all_goals ((try simp only [Exit.inBlock, Exit.then]); refine bodyPost_ret (results_none rfl _ _ _) rfl ?_)
              all_goals (exact ⟨rfl, HI4.out, HB.out.kept.trans HK4.out⟩)
            · have g3 : en ≤ mid ∨ b ≤ en := by omega
              have HJ2 : Hid (I r1 wr) := Lib.hid (by rw [Hm'.out.n1 b1]; exact HIi.out)
              have hC := Lib.hid (HM.out a st mid r1 wr (by omega) (by omega) (by omega) (by omega) HJ2.out)
              go_wp2_with fail
              all_goals (refine hC.out.mono ?_)
              all_goals (clear hC)
              all_goals (rintro e w3 ⟨rfl, hI3, hk3⟩)
              all_goals (have HI3 : Hid (I r2 w3) := Lib.hid (by rw [Hm'.out.e2 b2]; exact hI3))
              all_goals (clear hI3)
              all_goals (have HK3 := Lib.hid (HK.out.trans hk3))
              all_goals (obtain ⟨d3, c0, c1, hz⟩ := HB.out.then HK3.out)
              all_goals (clear d3 hk3)
              all_goals (have HJ4 : Hid (I r3 w3) := Lib.hid (by rw [Hm'.out.n3 b3]; exact HI3.out))
              all_goals (go_wp2_with fail)
              all_goals ((try simp only [Exit.inBlock, Exit.then]); refine bodyPost_ret (results_none rfl _ _ _) rfl ?_)
              all_goals (exact ⟨rfl, HJ4.out, HB.out.kept.trans HK3.out⟩)
          · have g2 : st ≤ a ∨ mid ≤ st := by omega
            by_cases b3 : mid < en ∧ en < b
            · have g3 := b3
              have HJ2 : Hid (I r1 wr) := Lib.hid (by rw [Hm'.out.n1 b1]; exact HIi.out)
              have HJ3 : Hid (I r2 wr) := Lib.hid (by rw [Hm'.out.n2 b2]; exact HJ2.out)
              have hC := Lib.hid (HM.out mid en b r2 wr (by omega) (by omega) (by omega) (by omega) HJ3.out)
              go_wp2_with fail
              all_goals (refine hC.out.mono ?_)
              all_goals (clear hC)
              all_goals (rintro e w4 ⟨rfl, hI4, hk4⟩)
              all_goals (have HI4 : Hid (I r3 w4) := Lib.hid (by rw [Hm'.out.e3 b3]; exact hI4))
              all_goals (clear hI4)
              all_goals (have HK4 := Lib.hid (HK.out.trans hk4))
              all_goals (obtain ⟨d4, c0, c1, hz⟩ := HB.out.then HK4.out)
              all_goals (clear d4 hk4)
              all_goals (go_wp2_with fail)
              all_goals ((try simp only [Exit.inBlock, Exit.then]); refine bodyPost_ret (results_none rfl _ _ _) rfl ?_)
              all_goals (exact ⟨rfl, HI4.out, HB.out.kept.trans HK4.out⟩)
            · have g3 : en ≤ mid ∨ b ≤ en := by omega
              have HJ2 : Hid (I r1 wr) := Lib.hid (by rw [Hm'.out.n1 b1]; exact HIi.out)
              have HJ3 : Hid (I r2 wr) := Lib.hid (by rw [Hm'.out.n2 b2]; exact HJ2.out)
              have HJ4 : Hid (I r3 wr) := Lib.hid (by rw [Hm'.out.n3 b3]; exact HJ3.out)
              go_wp2_with fail
              all_goals ((try simp only [Exit.inBlock, Exit.then]); refine bodyPost_ret (results_none rfl _ _ _) rfl ?_)
              all_goals (exact ⟨rfl, HJ4.out, HB.out.kept.trans HK.out⟩)
theorem symMerge_any {n B g sf : Nat} {lb sb : Array Value} {lt : Nat → Nat → Bool} {I : Row → World → Prop} (H : Sorter n B g sf lb sb lt I) : ∀ f, Merges n B g sf lb sb lt I f
  | 0 => fun a m b r w hf ha hb hn hI => by omega
  | f + 1 => fun a m b r w hf ha hb hn hI => by
    by_cases h1 : m = a + 1
    · exact merge_up H f a m b h1 hb hn r w hI
    · by_cases h2 : b = m + 1
      · exact merge_dn H f a m b ha h1 h2 hn r w hI
      · exact merge_mid H f (symMerge_any H f) a m b (by omega) (by omega) hf hn r w hI
end Go.Proofs.YtpaebanmaboaiaaGreatDoor
