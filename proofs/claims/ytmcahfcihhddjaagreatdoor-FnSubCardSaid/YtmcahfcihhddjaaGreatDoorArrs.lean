/- Contract of Compare's callback at arrays, over what Compare says of their elements. -/
import Derived.Test.YtmcahfcihhddjaaGreatDoorCmp1
import Derived.Test.YtmcahfcihhddjaaGreatDoorTail
import Derived.WalkLawsBesides
namespace Go.Proofs.YtmcahfcihhddjaaGreatDoor
open Go Go.RowKit Go.Deep

def CmpAt (w0 : World) (B : Nat) (x y : Value) (c : Int) : Prop :=
  ∀ w, Below B w0 w → B ≤ w.heap.size → Calls Tryz.prog 75 #[x, y] w (IntP w c)

/-- What a row's values are. -/
def CellsOf (w : World) (B : Nat) (a : Option Addr) (n : Nat) (f : Nat → Value) : Prop :=
  0 < n → ∃ b o, a = some ⟨b, o, none⟩ ∧ b < B ∧ ∀ i, i < n → w.cell? ⟨b, o + i, none⟩ = some (f i)

/-- The first that is not 0, or the sign of the lengths' difference. -/
def Firsts (n1 n2 : Nat) (C : Nat → Int) (rest : Nat → Int) : Prop :=
  (∀ n, n < n1 → n < n2 → rest n = if C n = 0 then rest (n + 1) else C n) ∧ ∀ n, (n1 ≤ n ∨ n2 ≤ n) → n ≤ n1 → n ≤ n2 → rest n = signI ((n1 : Int) - n2)

set_option maxHeartbeats 2000000 in
set_option maxRecDepth 100000 in
theorem arrs_of (w0 : World) (B n1 n2 : Nat) (a a' : Option Addr) (c c' : Nat) (f f' : Nat → Value) (cf : CellsOf w0 B a n1 f) (cf' : CellsOf w0 B a' n2 f') (of1 : ∀ i, i < n1 → (f i).oneCell' = true) (of2 : ∀ i, i < n2 → (f' i).oneCell' = true) (C rest : Nat → Int)
    (hC : ∀ i, i < n1 → i < n2 → CmpAt w0 B (f i) (f' i) (C i)) (hrest : Firsts n1 n2 C rest) (hl : n1 * 16 ≤ 140737488351232) (w : World) (hbel : Below B w0 w) (hB : B ≤ w.heap.size) :
    Calls Tryz.prog 94 #[.slice a n1 c, .slice a' n2 c'] w (IntP w (rest 0)) := by
  have K := Lib.hid (cmpi_any n1 n2)
  have Hcf := Lib.hid cf; clear cf
  have Hcf' := Lib.hid cf'; clear cf'
  have HC := Lib.hid hC; clear hC
  have Hrest := Lib.hid hrest; clear hrest
  have Hbel := Lib.hid hbel; clear hbel
  have Ho := Lib.hid of1; clear of1
  have Ho' := Lib.hid of2; clear of2
  obtain ⟨M, hM1, hM2, hM3, hm1⟩ : ∃ M : Nat, M ≤ n1 ∧ M ≤ n2 ∧ (M = n1 ∨ M = n2) ∧ (if (n2 : Int) < (n1 : Int) then (n2 : Int) else (n1 : Int)) = (M : Int) := by
    by_cases h : n2 < n1
    · exact ⟨n2, by omega, by omega, .inr rfl, by rw [if_pos (by omega)]⟩
    · exact ⟨n1, by omega, by omega, .inl rfl, by rw [if_neg (by omega)]⟩
  have hm2 : (if n2 < n1 then (n2 : Int) else (n1 : Int)) = (M : Int) := by
    rw [← hm1]
    by_cases h : n2 < n1
    · rw [if_pos h, if_pos (by omega)]
    · rw [if_neg h, if_neg (by omega)]
  have Hm3 := Lib.hid hM3; clear hM3
  go_enter Tryz.func94, Tryz.ntmps94
  go_wp2_with fail
  go_loopw [12] (fun i wr => TwoLoop w n1 n2 rest (rest 0) i wr) (fun i _ => M - (intOf i).toNat)
  case atStart => exact ⟨0, Nat.zero_le _, Nat.zero_le _, rfl, Below.refl _ _, rfl⟩
  case round =>
    obtain ⟨n, hn, hn', rfl, hb, hfin⟩ := hrel
    have Hfin := Lib.hid hfin; clear hfin
    by_cases h0 : n < M
    · have h1 : n < n1 := by omega
      have h2 : n < n2 := by omega
      obtain ⟨b1, o1, rfl, hb1, c1⟩ := Hcf.out (by omega)
      obtain ⟨b2, o2, rfl, hb2, c2⟩ := Hcf'.out (by omega)
      have hb0 : Below B w0 wr := Hbel.out.trans (hb.mono hB)
      have y1 : wr.cell? ⟨b1, o1 + n, none⟩ = some (f n) := (hb0.cell (p := ⟨b1, o1 + n, none⟩) hb1).trans (c1 n h1)
      have y2 : wr.cell? ⟨b2, o2 + n, none⟩ = some (f' n) := (hb0.cell (p := ⟨b2, o2 + n, none⟩) hb2).trans (c2 n h2)
      have q1 := Ho.out n h1
      have q2 := Ho'.out n h2
      have HI := Lib.hid (HC.out n h1 h2 wr.drew hb0.drew (by have := hb.size; show B ≤ wr.heap.size; omega))
      have hd := Hrest.out.1 n h1 h2
      have Hd := Lib.hid (Hfin.out.symm.trans hd); clear hd
      have u1 : (n : Int) < (n1 : Int) := by omega
      have u2 : (n : Int) < (n2 : Int) := by omega
      have u4 : (n : Int) < (M : Int) := by omega
      have u3 : (0 : Int) ≤ (n : Int) := by omega
      clear c1 c2 hb0
      go_wp2_with fail
      refine wp_region_tail 8 (by kernel_rfl) (by kernel_rfl) ?_
      simp only [List.take_succ_cons, List.take_zero, List.drop_succ_cons, List.drop_zero]
      repeat (go_big_quiet_step (fail))
      refine wpQuiet_nil ?_
      clear u1 u2 u3 u4 y1 y2
      go_wp2_with fail
      refine HI.out.mono ?_
      rintro e w2 ⟨rfl, hb3⟩
      have hb4 : Below w.heap.size w w2 := hb.drew.trans (hb3.mono hb.size)
      clear HI
      generalize C n = cc at Hd
      by_cases hc : cc = 0
      · have Hd2 := Lib.hid (Hd.out.trans (if_pos hc)); clear Hd
        subst hc
        go_wp2_with fail
        go_roundw
        case rel => exact ⟨n + 1, by omega, by omega, by go_num, hb4, Hd2.out.symm⟩
        case measure => simp [intOf]; omega
      · have Hd2 := Lib.hid (Hd.out.trans (if_neg hc)); clear Hd
        have tc : (cc != 0) = true := by simpa using hc
        clear hc
        go_wp2_with fail
        go_ret
        exact ⟨by rw [Hd2.out]; rfl, hb4⟩
    · have hd := Hrest.out.2 n (by have := Hm3.out; omega) hn hn'
      have Hd := Lib.hid (Hfin.out.symm.trans hd); clear hd
      have u4 : ¬ (n : Int) < (M : Int) := by omega
      go_wp2_with fail
      refine (K.out _).mono ?_
      rintro e w2 ⟨rfl, rfl⟩
      clear K
      go_wp2_with fail
      go_ret
      exact ⟨by rw [Hd.out]; rfl, hb⟩

end Go.Proofs.YtmcahfcihhddjaaGreatDoor
