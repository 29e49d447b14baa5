/- Contract of package sort's stable_func over 'less' and 'swap'. -/
/- Plain: what spec.Cmp says of two values; of good values it is 0 just where they are one. -/
/- utf8.ValidString, by the library's contract laid at this program; the two tables of package unicode/utf8 that it reads. -/
/- Contracts of spec.looker's methods and of spec.Fit. -/
/- A region that draws its order, of which all operations but the last few only read: one walk, in the order of the text, by the cheap step. -/
import Derived.Test.YtpaebanmaboaiaaGreatDoorM02
import Derived.Test.YtpaebanmaboaiaaGreatDoorM01
import Derived.Shelf.Unicode.ValidAny
import Derived.Ground.NamesProg
import Derived.WalkKit
import Derived.StillTail
import Derived.BigQuiet
namespace Go.Proofs.YtpaebanmaboaiaaGreatDoor
open Go Go.RowKit Go.Deep
/-- The blocks' loop; the merges' loop. -/
def Blk (B : Nat) (I : Row → World → Prop) (w1 : World) (n d : Nat) (todo : Nat → Row → Row) (fin : Row) (va vb : Value) (wr : World) : Prop :=
  ∃ (a : Nat) (rk : Row), va = .int .i64 a ∧ vb = .int .i64 ((a : Int) + d) ∧ a ≤ n ∧ I rk wr ∧ Kept B w1 wr ∧ todo a rk = fin
set_option maxHeartbeats 4000000 in
set_option maxRecDepth 100000 in
theorem stable_any {n B g sf : Nat} {lb sb : Array Value} {lt : Nat → Nat → Bool} {I : Row → World → Prop} (H : Sorter n B g sf lb sb lt I) (hn : n < 1152921504606846976) (r : Row) (w : World) (hI : I r w) :
    Calls Tryz.prog 90 #[.agg #[.func (.func g) #[] lb, .func (.func sf) #[] sb], .int .i64 n] w (SortP B I w (stable lt n r)) := by
  have HM := Lib.hid (symMerge_any H)
  have HN := Lib.hid fun (a b : Nat) (hab : a ≤ b) (hb : b ≤ n) (r : Row) (w : World) (hI : I r w) => insertion_any H a b hab hb r w hI
  have HB := begun H hI
  clear H hI
  obtain ⟨w1, hw1⟩ : ∃ w1, w1 = w.alloc (.cells #[.func (.func g) #[] lb, .func (.func sf) #[] sb] 132) := ⟨_, rfl⟩
  rw [← hw1] at HB
  have HB := Lib.hid HB
  obtain ⟨fin, hfin⟩ : ∃ fin, fin = stable lt n r := ⟨_, rfl⟩
  rw [← hfin]
  have HF := Lib.hid hfin; clear hfin
  obtain ⟨r1, hr1⟩ : ∃ r1, r1 = stb1 lt n 0 r := ⟨_, rfl⟩
  have HF2 : Hid (stb2 lt n 20 r1 = fin) := Lib.hid (by rw [HF.out, hr1]; rfl)
  have HR1 := Lib.hid hr1; clear hr1 HF
  go_enter Tryz.func90, Tryz.ntmps90
  go_wp2_with fail
  rw [← hw1]
  clear hw1
  go_loopw [5, 6] (fun va vb wr => Blk B I w1 n 20 (stb1 lt n) r1 va vb wr) (fun va _ _ => n + 1 - (intOf va).toNat)
  case atStart => exact ⟨0, r, by go_num, by go_num, Nat.zero_le _, HB.out.at1, .refl _ _, HR1.out.symm⟩
  case round =>
    obtain ⟨a, ra, rfl, rfl, han, hIa, hK, hT⟩ := hrel
    have HT := Lib.hid hT; clear hT
    obtain ⟨hK2, c0, c1, hz⟩ := HB.out.then hK
    have HK := Lib.hid hK; clear hK hK2
    by_cases hlt : a + 20 ≤ n
    · have u1 : (a : Int) + 20 ≤ (n : Int) := by omega
      have hC := Lib.hid (HN.out a (a + 20) (by omega) hlt ra wr hIa)
      rw [show ((a + 20 : Nat) : Int) = (a : Int) + 20 by omega] at hC
      clear hIa
      go_wp2_with fail
      refine hC.out.mono ?_
      clear hC
      rintro e w2 ⟨rfl, hI2, hk2⟩
      have HI2 := Lib.hid hI2; clear hI2
      go_wp2_with fail
      go_roundw
      case rel => exact ⟨a + 20, _, by congr 1, by congr 1, hlt, HI2.out, HK.out.trans hk2, by rw [← HT.out]; exact (stb1_go hlt).symm⟩
      case measure => simp [intOf]; omega
    · have u1 : ¬ (a : Int) + 20 ≤ (n : Int) := by omega
      have hC := Lib.hid (HN.out a n han (Nat.le_refl _) ra wr hIa)
      have e1 : insI lt a n (a + 1) ra = r1 := by rw [← HT.out, stb1_end hlt]
      rw [e1] at hC
      clear hIa e1
      go_wp2_with fail
      refine hC.out.mono ?_
      clear hC
      rintro e w2 ⟨rfl, hI2, hk2⟩
      have hK2 := HK.out.trans hk2
      have HI2 := Lib.hid hI2; clear hI2
      have HK2 := Lib.hid hK2; clear hK2
      obtain ⟨wo, hwo⟩ : ∃ wo : World, wo = w2 := ⟨_, rfl⟩
      go_wp2_with fail
      clear hk2
      go_loopw [4] (fun v wr => Cnt B I w1 (fun bs => 0 < bs ∧ bs ≤ 2 * n + 20) (stb2 lt n) fin v wr) (fun v _ => n - (intOf v).toNat)
      case atStart => exact ⟨20, r1, by go_num, ⟨by omega, by omega⟩, HI2.out, HK2.out, HF2.out⟩
      case round =>
        obtain ⟨bs, rb, rfl, ⟨hb0, hbn⟩, hIb, hKb, hTb⟩ := hrel
        have HTb := Lib.hid hTb; clear hTb
        clear c0 c1 hz
        obtain ⟨hK3, c0, c1, hz⟩ := HB.out.then hKb
        have HKb := Lib.hid hKb; clear hKb hK3
        by_cases hlb : bs < n
        · have u2 : (bs : Int) < (n : Int) := by omega
          have HIb := Lib.hid hIb; clear hIb
          obtain ⟨rm, hrm⟩ : ∃ rm, rm = mrgI lt n bs 0 rb := ⟨_, rfl⟩
          have HTn : Hid (stb2 lt n (2 * bs) rm = fin) := Lib.hid (by rw [← HTb.out, stb2_go hb0 hlb, hrm])
          have HRm := Lib.hid hrm; clear hrm HTb
          obtain ⟨wp, hwp⟩ : ∃ wp : World, wp = wr := ⟨_, rfl⟩
          go_wp2_with fail
          subst hwp
          go_loopw [5, 6] (fun va vb wr => Blk B I w1 n (2 * bs) (mrgI lt n bs) rm va vb wr) (fun va _ _ => n + 1 - (intOf va).toNat)
          case atStart => exact ⟨0, rb, by go_num, by congr 1; omega, Nat.zero_le _, HIb.out, HKb.out, HRm.out.symm⟩
          case round =>
            obtain ⟨c, rc, rfl, rfl, hcn, hIc, hKc, hTc⟩ := hrel
            have HTc := Lib.hid hTc; clear hTc
            clear c0 c1 hz
            obtain ⟨hK4, c0, c1, hz⟩ := HB.out.then hKc
            have HKc := Lib.hid hKc; clear hKc hK4
            have q1 : ((2 * bs : Nat) : Int) = 2 * (bs : Int) := by omega
            rw [q1]
            by_cases hlc : c + 2 * bs ≤ n
            · have u3 : (c : Int) + 2 * (bs : Int) ≤ (n : Int) := by omega
              have hC := Lib.hid (HM.out (2 * bs) c (c + bs) (c + 2 * bs) rc wr (by omega) (by omega) (by omega) hlc hIc)
              rw [show ((c + bs : Nat) : Int) = (c : Int) + (bs : Int) by omega, show ((c + 2 * bs : Nat) : Int) = (c : Int) + 2 * (bs : Int) by omega] at hC
              clear hIc
              go_wp2_with fail
              refine hC.out.mono ?_
              clear hC
              rintro e w3 ⟨rfl, hI3, hk3⟩
              have HI3 := Lib.hid hI3; clear hI3
              go_wp2_with fail
              go_roundw
              case rel => exact ⟨c + 2 * bs, _, by first | rfl | (congr 1; omega), by first | rfl | (congr 1; omega), hlc, HI3.out, HKc.out.trans hk3, by rw [← HTc.out]; exact (mrgI_go hlc hb0).symm⟩
              case measure => simp [intOf]; omega
            · have u3 : ¬ (c : Int) + 2 * (bs : Int) ≤ (n : Int) := by omega
              by_cases hle : c + bs < n
              · have u4 : (c : Int) + (bs : Int) < (n : Int) := by omega
                have hC := Lib.hid (HM.out (n - c) c (c + bs) n rc wr (Nat.le_refl _) (by omega) hle (Nat.le_refl _) hIc)
                rw [show ((c + bs : Nat) : Int) = (c : Int) + (bs : Int) by omega] at hC
                have e2 : symM lt (n - c) c (c + bs) n rc = rm := by rw [← HTc.out, mrgI_last hlc hle]
                rw [e2] at hC
                clear hIc e2
                go_wp2_with fail
                refine hC.out.mono ?_
                clear hC
                rintro e w3 ⟨rfl, hI3, hk3⟩
                have HI3 := Lib.hid hI3; clear hI3
                go_wp2_with fail
                go_roundw
                case rel => exact ⟨2 * bs, rm, by congr 1; omega, ⟨by omega, by omega⟩, HI3.out, HKc.out.trans hk3, HTn.out⟩
                case measure => simp [intOf]; omega
              · have u4 : ¬ (c : Int) + (bs : Int) < (n : Int) := by omega
                have e2 : rc = rm := by rw [← HTc.out, mrgI_end hlc hle]
                have HIc : Hid (I rm wr) := Lib.hid (e2 ▸ hIc)
                clear hIc e2
                go_wp2_with fail
                go_roundw
                case rel => exact ⟨2 * bs, rm, by congr 1; omega, ⟨by omega, by omega⟩, HIc.out, HKc.out, HTn.out⟩
                case measure => simp [intOf]; omega
        · have u2 : ¬ (bs : Int) < (n : Int) := by omega
          go_wp2_with fail
          (try simp only [Exit.inBlock, Exit.then]); refine bodyPost_ret (results_none rfl _ _ _) rfl ?_
          exact ⟨rfl, by rw [← HTb.out, stb2_end hlb]; exact hIb, HB.out.kept.trans HKb.out⟩
end Go.Proofs.YtpaebanmaboaiaaGreatDoor

namespace Go.Proofs.YtpaebanmaboaiaaGreatDoor
open Go Go.RowKit
/-- What the reference answers. -/
inductive Ans where
  | fine (v : V)
  | raises
  | silent
def Ans.how : Ans → Int
  | .fine _ => 0
  | .raises => 1
  | .silent => 2
def signI (n : Int) : Int := if n < 0 then -1 else if 0 < n then 1 else 0
def textsC (a b : ByteArray) : Int := if Op.bytesLess a.toList b.toList = true then -1 else if Op.bytesLess b.toList a.toList = true then 1 else 0
def keysC : List ByteArray → List ByteArray → Int
  | x :: xs, y :: ys => if textsC x y = 0 then keysC xs ys else textsC x y
  | [], ys => -(ys.length : Int)
  | x :: xs, [] => ((x :: xs).length : Int)
mutual
def cmpV : V → V → Int
  | .mk k h t l ks vs, .mk k' h' t' l' ks' vs' =>
    if k ≠ k' then signI (wrap64 (k - k')) else if k = 3 then signI (wrap64 (h - h')) else if k = 4 then textsC t t'
    else if k = 5 then signI (cmpL l l') else if k = 6 then (if keysC ks ks' = 0 then signI (cmpL vs vs') else signI (keysC ks ks')) else 0
def cmpL : List V → List V → Int
  | x :: xs, y :: ys => if cmpV x y = 0 then cmpL xs ys else cmpV x y
  | [], ys => -(ys.length : Int)
  | x :: xs, [] => ((x :: xs).length : Int)
end

theorem cmpL_drop (a b : List V) (n : Nat) (ha : n < a.length) (hb : n < b.length) :
    cmpL (a.drop n) (b.drop n) = if cmpV a[n] b[n] = 0 then cmpL (a.drop (n + 1)) (b.drop (n + 1)) else cmpV a[n] b[n] := by
  rw [List.drop_eq_getElem_cons ha, List.drop_eq_getElem_cons hb]
  simp only [cmpL]
theorem cmpL_end (a b : List V) (n : Nat) (h : a.length ≤ n ∨ b.length ≤ n) (h1 : n ≤ a.length) (h2 : n ≤ b.length) :
    cmpL (a.drop n) (b.drop n) = (a.length : Int) - b.length := by
  by_cases ha : a.length ≤ n
  · rw [List.drop_eq_nil_of_le ha]
    simp only [cmpL, List.length_drop]
    omega
  · have hb : b.length ≤ n := by omega
    rw [List.drop_eq_nil_of_le hb, List.drop_eq_getElem_cons (by omega)]
    simp only [cmpL, List.length_cons, List.length_drop]
    omega
theorem keysC_drop (a b : List ByteArray) (n : Nat) (ha : n < a.length) (hb : n < b.length) :
    keysC (a.drop n) (b.drop n) = if textsC a[n] b[n] = 0 then keysC (a.drop (n + 1)) (b.drop (n + 1)) else textsC a[n] b[n] := by
  rw [List.drop_eq_getElem_cons ha, List.drop_eq_getElem_cons hb]
  simp only [keysC]
theorem keysC_end (a b : List ByteArray) (n : Nat) (h : a.length ≤ n ∨ b.length ≤ n) (h1 : n ≤ a.length) (h2 : n ≤ b.length) :
    keysC (a.drop n) (b.drop n) = (a.length : Int) - b.length := by
  by_cases ha : a.length ≤ n
  · rw [List.drop_eq_nil_of_le ha]
    simp only [keysC, List.length_drop]
    omega
  · have hb : b.length ≤ n := by omega
    rw [List.drop_eq_nil_of_le hb, List.drop_eq_getElem_cons (by omega)]
    simp only [keysC, List.length_cons, List.length_drop]
    omega
theorem bLess_eq : ∀ (x y : List UInt8), Op.bytesLess x y = decide (x < y)
  | [], [] => by simp [Op.bytesLess]
  | _ :: _, [] => by simp [Op.bytesLess]
  | [], _ :: _ => by simp [Op.bytesLess]
  | a :: x, b :: y => by
    rw [Op.bytesLess, bLess_eq x y]
    simp only [List.cons_lt_cons_iff]
    by_cases h1 : a < b <;> by_cases h2 : a = b <;> by_cases h3 : x < y <;> simp [h1, h2, h3]
theorem toList_inj {a b : ByteArray} (h : a.toList = b.toList) : a = b := by
  rw [Lib.toList_data, Lib.toList_data] at h
  obtain ⟨⟨x⟩⟩ := a
  obtain ⟨⟨y⟩⟩ := b
  simp at h
  rw [h]
theorem textsC_zero {a b : ByteArray} : textsC a b = 0 ↔ a = b := by
  unfold textsC
  simp only [bLess_eq, decide_eq_true_eq]
  constructor
  · intro h
    split at h
    · omega
    · split at h
      · omega
      · rename_i h1 h2
        exact toList_inj (List.le_antisymm (List.not_lt.1 h2) (List.not_lt.1 h1))
  · rintro rfl
    rw [if_neg (List.lt_irrefl _), if_neg (List.lt_irrefl _)]
theorem signI_zero {n : Int} : signI n = 0 ↔ n = 0 := by unfold signI; split <;> (try split) <;> omega
theorem keysC_zero : ∀ {a b : List ByteArray}, keysC a b = 0 ↔ a = b
  | [], [] => by simp [keysC]
  | [], _ :: _ => by simp [keysC] <;> omega
  | _ :: _, [] => by simp [keysC] <;> omega
  | x :: xs, y :: ys => by
    simp only [keysC]
    split
    · rename_i h
      rw [keysC_zero, textsC_zero.1 h]
      simp
    · rename_i h
      constructor
      · intro e; exact absurd e h
      · intro e
        obtain ⟨rfl, rfl⟩ := List.cons.inj e
        exact absurd (textsC_zero.2 rfl) h
theorem cmpL_zero : ∀ {a b : List V} (_ : ∀ i (hi : i < a.length), ∀ y ∈ b, (cmpV a[i] y = 0 ↔ a[i] = y)), cmpL a b = 0 ↔ a = b
  | [], [], _ => by simp [cmpL]
  | [], _ :: _, _ => by simp [cmpL] <;> omega
  | _ :: _, [], _ => by simp [cmpL] <;> omega
  | x :: xs, y :: ys, h => by
    have h0 : cmpV x y = 0 ↔ x = y := h 0 (by simp) y (by simp)
    have ih := cmpL_zero (a := xs) (b := ys) (fun i hi y' hy => h (i + 1) (by simpa using hi) y' (by simp [hy]))
    simp only [cmpL]
    split
    · rename_i e
      rw [ih, h0.1 e]
      simp
    · rename_i e
      constructor
      · intro e'; exact absurd e' e
      · intro e'
        obtain ⟨rfl, rfl⟩ := List.cons.inj e'
        exact absurd (h0.2 rfl) e
theorem shape_plain {k h : Int} {t : ByteArray} {l : List V} {ks : List ByteArray} {vs : List V} (g : shapeB k h t l.length ks.length vs.length = true) :
    0 ≤ k ∧ k ≤ 6 ∧ (k ≠ 3 → h = 0) ∧ (k ≠ 4 → t = ⟨#[]⟩) ∧ (k ≠ 5 → l = []) ∧ (k ≠ 6 → ks = []) ∧ (k ≠ 6 → vs = []) ∧ ks.length = vs.length := by
  simp only [shapeB, Bool.and_eq_true, decide_eq_true_eq, Bool.or_eq_true, beq_iff_eq] at g
  obtain ⟨⟨⟨⟨⟨⟨hk0, hk6⟩, s1⟩, s2⟩, s3⟩, s4⟩, hlen⟩ := g
  refine ⟨hk0, hk6, fun n => s1.resolve_left n, fun n => ?_, fun n => List.length_eq_zero_iff.1 (s3.resolve_left n), fun n => List.length_eq_zero_iff.1 (s4.resolve_left n), fun n => List.length_eq_zero_iff.1 (by have := s4.resolve_left n; omega), hlen⟩
  have e := s2.resolve_left n
  exact toList_inj (e.trans (by rw [Lib.toList_data]))
theorem half_bounds {h : Int} (g : halfB h = true) : -18014398509481984 ≤ h ∧ h ≤ 18014398509481984 ∧ (h.tmod 2 ≠ 0 → -9007199254740992 < h ∧ h < 9007199254740992) := by
  simp only [halfB, Bool.and_eq_true, decide_eq_true_eq, Bool.or_eq_true, beq_iff_eq] at g
  exact ⟨g.1.1, g.1.2, fun n => g.2.resolve_left n⟩
theorem wrap_sub_zero {a b : Int} (ha : -18014398509481984 ≤ a ∧ a ≤ 18014398509481984) (hb : -18014398509481984 ≤ b ∧ b ≤ 18014398509481984) : wrap64 (a - b) = a - b := by
  unfold wrap64; omega
theorem Good.all {k h : Int} {t : ByteArray} {l : List V} {ks : List ByteArray} {vs : List V} (g : Good (.mk k h t l ks vs)) :
    shapeB k h t l.length ks.length vs.length = true ∧ halfB h = true ∧ Lib.validD t.data.toList = true ∧ (∀ i (hi : i < l.length), Good l[i]) ∧
    (∀ i (hi : i + 1 < ks.length), Op.bytesLess ks[i].toList ks[i + 1].toList = true) ∧ (∀ i (hi : i < ks.length), Lib.validD ks[i].data.toList = true) ∧ (∀ i (hi : i < vs.length), Good vs[i]) := by
  cases g with
  | mk a b c d e f g => exact ⟨a, b, c, d, e, f, g⟩
theorem cmpV_zero {a : V} (ga : Good a) : ∀ {b : V}, Good b → (cmpV a b = 0 ↔ a = b) := by
  induction ga with
  | @mk k h t l ks vs shape half valid list rise vkeys vals ihl ihv =>
  intro b gb
  obtain ⟨k', h', t', l', ks', vs'⟩ := b
  obtain ⟨shape', half', _, list', _, _, vals'⟩ := gb.all
  obtain ⟨p1, p2, p3, p4, p5, p6, p7, p8⟩ := shape_plain shape
  obtain ⟨q1, q2, q3, q4, q5, q6, q7, q8⟩ := shape_plain shape'
  obtain ⟨r1, r2, _⟩ := half_bounds half
  obtain ⟨r3, r4, _⟩ := half_bounds half'
  have hl := cmpL_zero (a := l) (b := l') (fun i hi y hy => by
    obtain ⟨j, hj, rfl⟩ := List.mem_iff_getElem.1 hy
    exact ihl i hi (list' j hj))
  have hv := cmpL_zero (a := vs) (b := vs') (fun i hi y hy => by
    obtain ⟨j, hj, rfl⟩ := List.mem_iff_getElem.1 hy
    exact ihv i hi (vals' j hj))
  simp only [cmpV]
  by_cases ek : k = k'
  · subst ek
    simp only [ne_eq, not_true_eq_false, if_false]
    by_cases k3 : k = 3
    · subst k3
      rw [if_pos rfl, signI_zero, wrap_sub_zero ⟨r1, r2⟩ ⟨r3, r4⟩, p4 (by decide), p5 (by decide), p6 (by decide), p7 (by decide), q4 (by decide), q5 (by decide), q6 (by decide), q7 (by decide)]
      simp
      omega
    · rw [if_neg k3, p3 k3, q3 k3]
      by_cases k4 : k = 4
      · subst k4
        rw [if_pos rfl, textsC_zero, p5 (by decide), p6 (by decide), p7 (by decide), q5 (by decide), q6 (by decide), q7 (by decide)]
        simp
      · rw [if_neg k4, p4 k4, q4 k4]
        by_cases k5 : k = 5
        · subst k5
          rw [if_pos rfl, signI_zero, hl, p6 (by decide), p7 (by decide), q6 (by decide), q7 (by decide)]
          simp
        · rw [if_neg k5, p5 k5, q5 k5]
          by_cases k6 : k = 6
          · rw [if_pos k6]
            by_cases e : keysC ks ks' = 0
            · rw [if_pos e, signI_zero, hv, keysC_zero.1 e]
              simp
            · rw [if_neg e, signI_zero]
              constructor
              · intro e'; exact absurd e' e
              · intro e'
                simp at e'
                exact absurd (keysC_zero.2 e'.1) e
          · rw [if_neg k6, p6 k6, p7 k6, q6 k6, q7 k6]
            simp
  · rw [if_pos ek, signI_zero, wrap_sub_zero (by omega) (by omega)]
    constructor
    · intro e; omega
    · intro e; simp at e; exact absurd e.1 ek
end Go.Proofs.YtpaebanmaboaiaaGreatDoor

namespace Go.Proofs.YtpaebanmaboaiaaGreatDoor
open Go Go.RowKit Go.Shelf
def valid_ren : Go.Shelf.Ren := ⟨fun | 196 => 43 | 259 => 51 | n => n, fun | 0 => 0 | 3 => 3 | 4 => 4 | 5 => 5 | 9 => 9 | 12 => 12 | 46 => 85 | 53 => 102 | 119 => 81 | 138 => 83 | 139 => 84 | n => n, fun | 3 => 0 | 4 => 1 | n => n⟩
theorem valid_lays : Go.Proofs.Lays.n196 Tryz.prog valid_ren := {
  mixed := by kernel_rfl
  f196 := Tryz.func43.trans (congrArg some (by kernel_rfl))
  f259 := Tryz.func51.trans (congrArg some (by kernel_rfl))
  t0 := Tryz.underlying0
  a0 := Tryz.isAgg0
  z0 := Tryz.sizeOf0
  v0 := Tryz.zeroValue0
  t3 := Tryz.underlying3
  a3 := Tryz.isAgg3
  z3 := Tryz.sizeOf3
  v3 := Tryz.zeroValue3
  t4 := Tryz.underlying4
  a4 := Tryz.isAgg4
  z4 := Tryz.sizeOf4
  v4 := Tryz.zeroValue4
  t5 := Tryz.underlying5
  a5 := Tryz.isAgg5
  z5 := Tryz.sizeOf5
  v5 := Tryz.zeroValue5
  t9 := Tryz.underlying9
  a9 := Tryz.isAgg9
  z9 := Tryz.sizeOf9
  v9 := Tryz.zeroValue9
  t12 := Tryz.underlying12
  a12 := Tryz.isAgg12
  z12 := Tryz.sizeOf12
  v12 := Tryz.zeroValue12
  t46 := Tryz.underlying85
  a46 := Tryz.isAgg85
  z46 := Tryz.sizeOf85
  v46 := Tryz.zeroValue85
  t53 := Tryz.underlying102
  a53 := Tryz.isAgg102
  z53 := Tryz.sizeOf102
  v53 := Tryz.zeroValue102
  t119 := Tryz.underlying81
  a119 := Tryz.isAgg81
  z119 := Tryz.sizeOf81
  t138 := Tryz.underlying83
  a138 := Tryz.isAgg83
  z138 := Tryz.sizeOf83
  v138 := Tryz.zeroValue83
  t139 := Tryz.underlying84
  a139 := Tryz.isAgg84
  z139 := Tryz.sizeOf84
  v139 := Tryz.zeroValue84
  g3 := by kernel_rfl
  g4 := by kernel_rfl }
/-- The two tables of package unicode/utf8 lie in w. -/
def Tabs (w : World) : Prop := Lib.Utf8Tabs 0 1 w
theorem Tabs.carry {B : Nat} {w w' : World} (h : Tabs w) (hb : Below B w w') (h1 : 0 < B) (h2 : 1 < B) : Tabs w' := by
  refine ⟨fun c hc => (hb.cell (p := ⟨_, c, none⟩) h1).trans (h.1 c hc), fun i hi => ⟨(hb.cell (p := ⟨_, _, none⟩) h2).trans (h.2 i hi).1, (hb.cell (p := ⟨_, _, none⟩) h2).trans (h.2 i hi).2⟩⟩
theorem Tabs.setCell {w : World} (h : Tabs w) (b i : Nat) (u : Value) (h1 : 0 < b) (h2 : 1 < b) : Tabs (w.setCell ⟨b, i, none⟩ u) :=
  h.carry (B := b) (⟨rfl, rfl, rfl, by simp [World.setCell], fun k hk => Below.heap_setCell _ _ _ _ (by simp; omega)⟩) h1 h2
theorem valid_any (s : ByteArray) (w : World) (hs : s.size ≤ 9223372036854775807) (hT : Tabs w) :
    Calls Tryz.prog 43 #[.string s] w fun e w' => e = .returned (.bool (Lib.validD s.data.toList)) ∧ Below w.heap.size w w' :=
  Any.utf8_ValidString valid_lays s w hs hT
end Go.Proofs.YtpaebanmaboaiaaGreatDoor

namespace Go.Proofs.YtpaebanmaboaiaaGreatDoor
open Go Go.RowKit
/-- Block b holds the looker's three cells. -/
def LkAt (w : World) (b : Nat) (s : Lk) : Prop := w.heap[b]? = some (.cells #[.int .i64 s.parts, .int .i64 s.bytes, .bool s.bad] 36 (0, 0))
theorem LkAt.c0 {w : World} {b : Nat} {s : Lk} (h : LkAt w b s) : w.cell? ⟨b, 0, none⟩ = some (.int .i64 s.parts) := by unfold LkAt at h; simp [World.cell?, h]
theorem LkAt.c1 {w : World} {b : Nat} {s : Lk} (h : LkAt w b s) : w.cell? ⟨b, 1, none⟩ = some (.int .i64 s.bytes) := by unfold LkAt at h; simp [World.cell?, h]
theorem LkAt.c2 {w : World} {b : Nat} {s : Lk} (h : LkAt w b s) : w.cell? ⟨b, 2, none⟩ = some (.bool s.bad) := by unfold LkAt at h; simp [World.cell?, h]
theorem LkAt.fr {w : World} {b : Nat} {s : Lk} (h : LkAt w b s) (i : Nat) : w.frozen? ⟨b, i, none⟩ = false := by unfold LkAt at h; simp [World.frozen?, h]
theorem LkAt.lt {w : World} {b : Nat} {s : Lk} (h : LkAt w b s) : b < w.heap.size := (Array.getElem?_eq_some_iff.1 h).1
theorem blk_set {w : World} {b t : Nat} {cs : Array Value} (h : w.heap[b]? = some (.cells cs t (0, 0))) (i : Nat) (u : Value) : (w.setCell ⟨b, i, none⟩ u).heap[b]? = some (.cells (cs.setIfInBounds i u) t (0, 0)) := by
  simp only [World.setCell, Array.getElem?_modify]
  rw [if_pos trivial, h]
  rfl
theorem LkAt.s0 {w : World} {b : Nat} {s : Lk} (h : LkAt w b s) (n : Int) : LkAt (w.setCell ⟨b, 0, none⟩ (.int .i64 n)) b ⟨n, s.bytes, s.bad⟩ := blk_set h 0 _
theorem LkAt.s1 {w : World} {b : Nat} {s : Lk} (h : LkAt w b s) (n : Int) : LkAt (w.setCell ⟨b, 1, none⟩ (.int .i64 n)) b ⟨s.parts, n, s.bad⟩ := blk_set h 1 _
theorem LkAt.s2 {w : World} {b : Nat} {s : Lk} (h : LkAt w b s) (x : Bool) : LkAt (w.setCell ⟨b, 2, none⟩ (.bool x)) b ⟨s.parts, s.bytes, x⟩ := blk_set h 2 _
theorem LkAt.grown {w w' : World} {b : Nat} {s : Lk} {row : Option Nat} (h : LkAt w b s) (hg : w.grownBy w' row) (hne : some b ≠ row) : LkAt w' b s := (hg.block b h.lt hne).trans h
theorem LkAt.below {w w' : World} {B b : Nat} {s : Lk} (h : LkAt w b s) (hb : Below B w w') (hlt : b < B) : LkAt w' b s := (hb.block b hlt).trans h
theorem grown_setCell (w : World) (b i : Nat) (v : Value) : w.grownBy (w.setCell ⟨b, i, none⟩ v) (some b) :=
  ⟨rfl, rfl, rfl, by simp [World.setCell], fun k _ hk => Below.heap_setCell _ _ _ _ (fun e => hk (by rw [e]))⟩
theorem grown_below {w w' : World} {b B : Nat} (h : w.grownBy w' (some b)) (hB : B ≤ b) (hs : B ≤ w.heap.size) : Below B w w' :=
  ⟨h.os, h.tape, h.output, h.size, fun k hk => h.block k (by omega) (by simp; omega)⟩
theorem below_grown {w w' : World} (h : Below w.heap.size w w') (row : Option Nat) : w.grownBy w' row := ⟨h.os, h.tape, h.output, h.size, fun k hk _ => h.block k hk⟩
theorem Lk.want_eq (s : Lk) (ok : Bool) : s.want ok = ⟨s.parts, s.bytes, s.bad || !ok⟩ := rfl
set_option maxRecDepth 100000 in
theorem want_any (w : World) (b : Nat) (s : Lk) (ok : Bool) (h : LkAt w b s) : Calls Tryz.prog 29 #[.pointer (some ⟨b, 0, none⟩), .bool ok] w fun e w' =>
    e = .returned (.tuple #[]) ∧ LkAt w' b (s.want ok) ∧ w.grownBy w' (some b) := by
  have h2 := h.c2
  have f2 := h.fr 2
  go_enter Tryz.func29, Tryz.ntmps29
  go_wp2
  · have hs : s.bad = true := by assumption
    go_end0
    exact ⟨rfl, by rw [Lk.want_eq, hs]; exact h.s2 _, grown_setCell _ _ _ _⟩
  · have hs : s.bad = false := by simpa using (show ¬ s.bad = true by assumption)
    go_end0
    exact ⟨rfl, by rw [Lk.want_eq, hs]; exact h.s2 _, grown_setCell _ _ _ _⟩
theorem part_eq (s : Lk) (deep : Int) (ok : Bool) (h : ok = (decide (wrap64 (s.parts + 1) ≤ 400) && decide (s.bytes ≤ 2000) && decide (deep ≤ 60))) :
    Lk.want ⟨wrap64 (s.parts + 1), s.bytes, s.bad⟩ ok = s.part deep := by subst h; rfl
theorem str_eq (s : Lk) (t : ByteArray) (ok : Bool) (h : ok = (decide (wrap64 (s.bytes + t.size) ≤ 2000) && Lib.validD t.data.toList)) :
    Lk.want ⟨s.parts, wrap64 (s.bytes + t.size), s.bad⟩ ok = s.str t := by subst h; rfl
set_option maxRecDepth 100000 in
theorem part_any (w : World) (b : Nat) (s : Lk) (deep : Int) (h : LkAt w b s) : Calls Tryz.prog 28 #[.pointer (some ⟨b, 0, none⟩), .int .i64 deep] w fun e w' =>
    e = .returned (.bool (!(s.part deep).bad)) ∧ LkAt w' b (s.part deep) ∧ w.grownBy w' (some b) := by
  have h0 := h.c0
  have f0 := h.fr 0
  have H1 := (h.s0 (wrap64 (s.parts + 1)))
  have h1 := H1.c1
  go_enter Tryz.func28, Tryz.ntmps28
  go_wp2_with (go_at_call 29; refine (want_any _ b _ _ H1).mono ?_; rintro e w' ⟨rfl, hl, hg⟩; rw [part_eq s deep _ (by simp [*] <;> omega)] at hl; have hc2 := hl.c2)
  all_goals
    go_ret
    exact ⟨rfl, by assumption, (grown_setCell _ _ _ _).trans (by assumption)⟩
set_option maxRecDepth 100000 in
theorem str_any (w : World) (b : Nat) (s : Lk) (t : ByteArray) (h : LkAt w b s) (hT : Tabs w) (g1 : 0 < b) (g2 : 1 < b) (ht : t.size ≤ 140737488351232) : Calls Tryz.prog 30 #[.pointer (some ⟨b, 0, none⟩), .string t] w fun e w' =>
    e = .returned (.tuple #[]) ∧ LkAt w' b (s.str t) ∧ w.grownBy w' (some b) := by
  have h1 := h.c1
  have f1 := h.fr 1
  have H1 := (h.s1 (wrap64 (s.bytes + t.size)))
  have h2 := H1.c1
  have hT1 : Tabs (w.setCell ⟨b, 1, none⟩ (.int .i64 (wrap64 (s.bytes + t.size)))) := hT.setCell _ _ _ g1 g2
  go_enter Tryz.func30, Tryz.ntmps30
  by_cases hn : wrap64 (s.bytes + t.size) ≤ 2000
  · go_wp2_with fail
    refine (valid_any t _ (by omega) hT1).mono ?_
    rintro e w' ⟨rfl, hb⟩
    have hl := H1.below hb (by have := h.lt; simpa [World.setCell] using this)
    go_wp2_with fail
    refine (want_any _ b _ _ hl).mono ?_
    rintro e w2 ⟨rfl, hl2, hg2⟩
    rw [str_eq s t _ (by simp [hn])] at hl2
    go_wp2_with fail
    go_end0
    exact ⟨rfl, hl2, ((grown_setCell _ _ _ _).trans (below_grown hb _)).trans hg2⟩
  · go_wp2_with fail
    refine (want_any _ b _ _ H1).mono ?_
    rintro e w2 ⟨rfl, hl2, hg2⟩
    rw [str_eq s t _ (by simp; omega)] at hl2
    go_wp2_with fail
    go_end0
    exact ⟨rfl, hl2, (grown_setCell _ _ _ _).trans hg2⟩
end Go.Proofs.YtpaebanmaboaiaaGreatDoor

namespace Go.Proofs.YtpaebanmaboaiaaGreatDoor
open Go
theorem still_of_quiet {P : Program} {o : Oper} {a : Act} {w : World} {K : Act → Prop} (h : o.quiet P a (fun x => x = w) K) : o.still P a w K := by
  obtain ⟨v, h1, h2⟩ := h
  have h1 := h1 w rfl
  unfold Oper.quietAt at h1
  unfold Oper.still
  generalize (execOp a.eval o).run P w = r at *
  cases r with
  | halt x w' => simp [Oper.quietUpon] at h1
  | ok n w' =>
    cases n <;> simp only [Oper.quietUpon, Oper.stillUpon] at h1 ⊢
    all_goals first
      | (obtain ⟨e1, e2⟩ := h1; subst e1; subst e2; first | exact ⟨trivial, h2⟩ | exact ⟨rfl, h2⟩ | exact h2)
      | (obtain ⟨e1, e2⟩ := h1; subst e1; first | exact ⟨rfl, v, e2, h2⟩ | exact ⟨trivial, v, e2, h2⟩ | exact ⟨v, e2, h2⟩)
      | exact h1.elim
theorem wpStill_of_quiet {P : Program} {ops : Array Oper} {Q : Act → Prop} {w : World} : ∀ (l : List Oper) (a : Act), wpQuiet P ops (fun x => x = w) Q l a → wpStill P ops w Q l a
  | [], _, h => h
  | o :: rest, a, h => by
    unfold wpQuiet at h
    unfold wpStill
    split
    · rename_i hw
      rw [if_pos hw] at h
      exact Oper.still_mono (fun a h => wpStill_of_quiet rest a h) (still_of_quiet h)
    · rename_i hw
      rw [if_neg hw] at h
      exact wpStill_of_quiet rest _ h
theorem wp_region_tail {P : Program} {id : Nat} {Q : Exit → Act → World → Prop} {a : Act} {w : World} {l : List Oper} (n : Nat) (hm : P.follows .mixedOrders = true) (hB : Region.lexTailB .any l.toArray n = true)
    (h : wpQuiet P l.toArray (fun x => x = w.drew) (fun a' => wpList P l.toArray Q (l.drop n) a' w.drew) (l.take n) a) : (Code.region id l.toArray true).wp P Q a w :=
  wp_region_still_tail n hm hB (wpStill_of_quiet _ _ h)
end Go.Proofs.YtpaebanmaboaiaaGreatDoor
