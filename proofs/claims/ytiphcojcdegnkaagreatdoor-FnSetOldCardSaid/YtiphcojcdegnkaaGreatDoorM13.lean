/- Contract of gojq.funcIndex2. -/
/- The library's contracts on maps.Keys, slices.Sorted and slices.Sort at this program, laid in plain words (by the kit's lay-iter and lay-plain, names by wip/marks.py); what they give at a map that holds a tree's entries. -/
import Derived.Test.YtiphcojcdegnkaaGreatDoorM06
import Derived.Test.YtiphcojcdegnkaaGreatDoorM12
import Derived.Shelf.SlIter.Nil
import Derived.Shelf.SortM.Plain
import Derived.Shelf.SortM.SortNone
import Derived.Ground.GgzProg
import Derived.Ground.SlgmProg
import Derived.Test.YtiphcojcdegnkaaGreatDoorM03
import Derived.Test.YtiphcojcdegnkaaGreatDoorM01
namespace Go.Proofs.YtiphcojcdegnkaaGreatDoor
open Go Go.RowKit Go.Maps Go.Deep

def IdxR (w : World) (S : Nat → Prop) (an : Ans) (v : Value) (w' : World) : Prop := Below w.heap.size w w' ∧ (∀ y, an = .fine y → RepJ w' S (toJ y) v) ∧ (an = .raises → ErrV v)

theorem idx_err {w : World} {S : Nat → Prop} {f : Nat} {args : Array Value} {an : Ans} (ha : an = .raises) (h : Calls Tryz.prog f args w (RetErr w)) : Calls Tryz.prog f args w (Ret (IdxR w S an)) :=
  h.mono fun _ _ ⟨v, he, hv, hb⟩ => ⟨v, he, hb, (fun y e => by rw [ha] at e; cases e), fun _ => hv⟩
theorem idx_nil {w : World} {S : Nat → Prop} {f : Nat} {args : Array Value} {an : Ans} {y : V} (ha : an = .fine y) (hy : toJ y = .null) (h : Calls Tryz.prog f args w (RetNil w)) : Calls Tryz.prog f args w (Ret (IdxR w S an)) :=
  h.mono fun _ _ ⟨v, he, hv, hb⟩ => ⟨v, he, hb, (fun y' e => by rw [ha] at e; cases e; rw [hy, hv]; exact .null S), fun e => by rw [ha] at e; cases e⟩

theorem toJ_0 (h : Int) (t : ByteArray) (l : List V) (ks : List ByteArray) (vs : List V) : toJ (.mk 0 h t l ks vs) = .null := by unfold toJ; simp
theorem toJ_1 (h : Int) (t : ByteArray) (l : List V) (ks : List ByteArray) (vs : List V) : toJ (.mk 1 h t l ks vs) = .bool false := by unfold toJ; simp
theorem toJ_2 (h : Int) (t : ByteArray) (l : List V) (ks : List ByteArray) (vs : List V) : toJ (.mk 2 h t l ks vs) = .bool true := by unfold toJ; simp
theorem toJ_3i {h : Int} (t : ByteArray) (l : List V) (ks : List ByteArray) (vs : List V) (e : h.tmod 2 = 0) : toJ (.mk 3 h t l ks vs) = .int (h.tdiv 2) := by unfold toJ; simp [e]
theorem toJ_3f {h : Int} (t : ByteArray) (l : List V) (ks : List ByteArray) (vs : List V) (e : ¬ h.tmod 2 = 0) : toJ (.mk 3 h t l ks vs) = .flt (halfBits h) := by unfold toJ; simp [e]
theorem toJ_4 (h : Int) (t : ByteArray) (l : List V) (ks : List ByteArray) (vs : List V) : toJ (.mk 4 h t l ks vs) = .str t := by unfold toJ; simp
theorem toJ_5 (h : Int) (t : ByteArray) (l : List V) (ks : List ByteArray) (vs : List V) : toJ (.mk 5 h t l ks vs) = .arr (toJL l) := by unfold toJ; simp
theorem toJ_6 (h : Int) (t : ByteArray) (l : List V) (ks : List ByteArray) (vs : List V) : toJ (.mk 6 h t l ks vs) = .obj (toJM ks vs) := by unfold toJ; simp

theorem stepA_mk (k h : Int) (t : ByteArray) (l : List V) (ks : List ByteArray) (vs : List V) (k' h' : Int) (t' : ByteArray) (l' : List V) (ks' : List ByteArray) (vs' : List V) :
    stepA (.mk k h t l ks vs) (.mk k' h' t' l' ks' vs') = if k = 0 ∧ (k' = 4 ∨ k' = 3) then .fine (.mk k h t l ks vs) else if k = 4 ∧ k' = 6 then .silent else indexA (.mk k h t l ks vs) (.mk k' h' t' l' ks' vs') := rfl

theorem clampN_mm (y : Int) (n : Nat) : ((clampN y n : Nat) : Int) = min (max (if y < 0 then y + (n : Int) else y) 0) (n : Int) := by
  by_cases h : y < 0
  · rw [if_pos h, clamp_neg h]
  · rw [if_neg h, clamp_pos h]
theorem clampI_lo (y : Int) (p n : Nat) (h : p ≤ n) : clampI y p n = ((if p ≤ clampN y n then clampN y n else p : Nat) : Int) := by
  have e := clampN_mm y n
  generalize clampN y n = c at *
  unfold clampI
  simp only
  generalize (if y < 0 then y + (n : Int) else y) = m at *
  by_cases hc : p ≤ c
  · rw [if_pos hc]
    split <;> (try split) <;> omega
  · rw [if_neg hc]
    split <;> (try split) <;> omega

theorem clampI_N (y : Int) (n : Nat) : clampI y 0 n = (clampN y n : Nat) := by
  have := clampI_lo y 0 n (Nat.zero_le _)
  simpa using this
theorem bounds_loud {ks : List ByteArray} {vs : List V} {n : Nat} (h : boundsA ks vs n ≠ .silent) : ks.length = 2 ∧ hasK ks startT = true ∧ hasK ks endT = true := by
  by_cases c : ks.length ≠ 2 ∨ hasK ks startT = false ∨ hasK ks endT = false
  · exact absurd (by unfold boundsA; rw [if_pos c]) h
  · simp only [not_or, Bool.not_eq_false, Decidable.not_not] at c
    exact c
theorem rj_nil (w : World) (S : Nat → Prop) (a : Option Addr) (c : Nat) (hc : c ≤ capMax) : RepJ w S (.arr []) (.iface 65 (.slice a 0 c)) :=
  .arr (l := []) (fun _ => .nilIface) 0 0 0 (fun _ _ => False) (by simp) (Nat.zero_le _) (fun h => by simp at h) (fun i hi => by simp at hi) (fun i k hi => by simp at hi) (fun i j k _ hj => by simp at hj) (fun i hi => by simp at hi) hc

theorem RepJ.cap {w : World} {S : Nat → Prop} {j : J} {v : Value} (h : RepJ w S j v) (t : TypeId) (a : Option Addr) (n c : Nat) (e : v = .iface t (.slice a n c)) : c ≤ capMax := by
  cases h <;> cases e
  assumption

/-- A part of an array, cut as gojq.slice cuts. -/
theorem cut_rep {w : World} {S : Nat → Prop} {l : List V} {a : Option Addr} {c : Nat} (h : RepJ w S (.arr (toJL l)) (.iface 65 (.slice a l.length c))) (p q : Nat) (hpq : p ≤ q) (hq : q ≤ l.length) {v : Value} (hv : CutV a p q c v) :
    RepJ w S (toJ (.mk 5 0 ⟨#[]⟩ ((l.drop p).take (q - p)) [] [])) v := by
  rw [toJ_5]
  obtain ⟨a', c', rfl, hc', ha, hcc⟩ := hv
  have hcm : c ≤ capMax := h.cap _ _ _ _ rfl
  by_cases e : p = q
  · subst e
    rw [Nat.sub_self, List.take_zero]
    exact rj_nil w S a' c' (Nat.le_trans hcc hcm)
  · have := h.part p q hpq (by rw [toJL_len]; exact hq) a' c' hc' hcc (fun b o e' => ha (by omega) b o e')
    rw [toJL_eq, List.map_take, List.map_drop, ← toJL_eq]
    exact this

/-- A bound as it stands in a path. -/
theorem bnd_rep {w : World} {S : Nat → Prop} {v : V} {x : Value} (g : Good v) (h : RepJ w S (toJ v) x) (n d : Nat) :
    (bndA v n d = .at d ∧ BndV x none) ∨ (∃ y, bndA v n d = .at (clampN y n) ∧ BndV x (some y)) ∨ (bndA v n d = .raises ∧ NoNum x) ∨ bndA v n d = .silent := by
  have gl := g.lens
  obtain ⟨k, hf, t, l, ks, vs⟩ := v
  simp only [V.kind] at gl
  have hc : k = 0 ∨ k = 1 ∨ k = 2 ∨ k = 3 ∨ k = 4 ∨ k = 5 ∨ k = 6 := by omega
  unfold bndA
  simp only [V.kind, V.half]
  rcases hc with rfl | rfl | rfl | rfl | rfl | rfl | rfl
  · rw [toJ_0] at h
    cases h
    exact .inl ⟨by simp, .none⟩
  · rw [toJ_1] at h
    cases h
    exact .inr (.inr (.inl ⟨by simp, _, _, rfl, by decide, by decide, by decide, by decide⟩))
  · rw [toJ_2] at h
    cases h
    exact .inr (.inr (.inl ⟨by simp, _, _, rfl, by decide, by decide, by decide, by decide⟩))
  · by_cases e : hf.tmod 2 = 0
    · rw [toJ_3i _ _ _ _ e] at h
      cases h with
      | int _ _ hr => exact .inr (.inl ⟨hf.tdiv 2, by simp [e], .some _ hr⟩)
    · exact .inr (.inr (.inr (by simp [e])))
  · rw [toJ_4] at h
    cases h
    exact .inr (.inr (.inl ⟨by simp, _, _, rfl, by decide, by decide, by decide, by decide⟩))
  · rw [toJ_5] at h
    cases h
    exact .inr (.inr (.inl ⟨by simp, _, _, rfl, by decide, by decide, by decide, by decide⟩))
  · rw [toJ_6] at h
    cases h
    exact .inr (.inr (.inl ⟨by simp, _, _, rfl, by decide, by decide, by decide, by decide⟩))

theorem RiseK.of {ks : List ByteArray} (rise : ∀ i (hi : i + 1 < ks.length), Op.bytesLess ks[i].toList ks[i + 1].toList = true) : RiseK ks := fun i j hi hj => rise_all ks rise j hj i hi

/-- What a map holds at a key. -/
theorem map_key {w : World} {r : Nat} {ks : List ByteArray} {vs : List V} {E : Nat → Value} (hlen : ks.length = vs.length) (rise : ∀ i (hi : i + 1 < ks.length), Op.bytesLess ks[i].toList ks[i + 1].toList = true) (hm : MapAt w r (toJM ks vs) E) {x : ByteArray} (hx : x.size ≤ 140737488351232) (hh : hasK ks x = true) :
    ∃ i, ∃ h : i < vs.length, getV ks vs x = vs[i] ∧ (toJM ks vs)[i]'(by rw [toJM_len _ _ hlen]; omega) = (x, toJ vs[i]) ∧ (Instr.lookup 68 (.map (some r)) (.string x) false).run Tryz.prog w = .ok (E i) w ∧ (Instr.lookup 68 (.map (some r)) (.string x) true).run Tryz.prog w = .ok (.tuple #[E i, .bool true]) w := by
  obtain ⟨hp, e⟩ := hasK_iff.1 hh
  have hp2 : placeI ks x < vs.length := by omega
  have hi : placeI ks x < (toJM ks vs).length := by rw [toJM_len _ _ hlen]; exact hp
  have eg := toJM_get ks vs hlen (placeI ks x) hp
  have e1 : (toJM ks vs)[placeI ks x].1 = x := by rw [eg]; exact e
  have L1 := hm.get (apart_toJM hlen rise) hi (by rw [e1]; exact hx)
  have L2 := hm.getOk (apart_toJM hlen rise) hi (by rw [e1]; exact hx)
  rw [e1] at L1 L2
  refine ⟨placeI ks x, hp2, ?_, ?_, L1, L2⟩
  · unfold getV
    rw [if_pos hh, getD_of_lt hp2]
  · rw [eg, e]

set_option maxHeartbeats 2000000 in
theorem index2_any {w0 : World} {B : Nat} {cur k : V} (gc : Good cur) (gk : Good k) {S S' : Nat → Prop} {u x : Value} (hu : RepJ w0 S (toJ cur) u) (hS : ∀ q, S q → q < B) (hx : RepJ w0 S' (toJ k) x) (hS' : ∀ q, S' q → q < B) (hk : cur.kind = 0 ∨ cur.kind = 5 ∨ cur.kind = 6) (hns : stepA cur k ≠ .silent)
    (w : World) (hbel : Below B w0 w) (hB : B ≤ w.heap.size) : Calls Tryz.prog 49 #[.nilIface, u, x] w (Ret (IdxR w S (stepA cur k))) := by
  have hu := hu.under hbel hS
  have hx := hx.under hbel hS'
  have hSw : ∀ q, S q → q < w.heap.size := fun q hq => Nat.lt_of_lt_of_le (hS q hq) hB
  clear hbel hB hS hS'
  have gl := gk.lens
  obtain ⟨kc, hc0, tc, lc, kc', vc⟩ := cur
  obtain ⟨kk, hf, t, l, ks, vs⟩ := k
  simp only [V.kind] at gl hk
  obtain ⟨shc, _, _, listc, risec, _, valsc⟩ := gc.all
  obtain ⟨shk, _, _, listk, risek, _, valsk⟩ := gk.all
  have hlenc : kc'.length = vc.length := gc.lens.1
  have hlenk : ks.length = vs.length := gk.lens.1
  have hkk : kk = 0 ∨ kk = 1 ∨ kk = 2 ∨ kk = 3 ∨ kk = 4 ∨ kk = 5 ∨ kk = 6 := by omega
  rw [stepA_mk, indexA_mk] at hns ⊢
  rcases hk with rfl | rfl | rfl
  · -- null
    have hu0 := hu
    rw [toJ_0] at hu
    cases hu
    rcases hkk with rfl | rfl | rfl | rfl | rfl | rfl | rfl
    · simp at hns
    · simp at hns
    · simp at hns
    · rw [if_pos ⟨rfl, .inr rfl⟩]
      by_cases e : hf.tmod 2 = 0
      · rw [toJ_3i _ _ _ _ e] at hx
        cases hx
        exact idx_nil rfl (toJ_0 _ _ _ _ _) (i2_nil_int _ w)
      · rw [toJ_3f _ _ _ _ e] at hx
        cases hx
        exact idx_nil rfl (toJ_0 _ _ _ _ _) (i2_nil_flt _ w)
    · rw [if_pos ⟨rfl, .inl rfl⟩]
      rw [toJ_4] at hx
      cases hx
      exact idx_nil rfl (toJ_0 _ _ _ _ _) (i2_nil_str _ w)
    · simp at hns
    · rw [toJ_6] at hx
      cases hx
      have e : (if (0 : Int) = 0 ∧ ((6 : Int) = 4 ∨ (6 : Int) = 3) then Ans.fine (V.mk 0 hc0 tc lc kc' vc) else if (0 : Int) = 4 ∧ (6 : Int) = 6 then .silent else
          if (6 : Int) = 6 then cutA (.mk 0 hc0 tc lc kc' vc) (.mk 6 hf t l ks vs) else if (0 : Int) = 0 ∧ ((6 : Int) = 4 ∨ (6 : Int) = 3) then .fine nullV else if (0 : Int) = 6 ∧ (6 : Int) = 4 then .fine (getV kc' vc t) else if (0 : Int) = 5 ∧ (6 : Int) = 3 then (if hf.tmod 2 ≠ 0 then .silent else .fine (nthA lc hf)) else if ((0 : Int) = 4 ∧ (6 : Int) = 3) ∨ ((0 : Int) = 5 ∧ (6 : Int) = 5) ∨ (0 : Int) = 0 then .silent else .raises) = cut0 (boundsA ks vs 0) := by
        rw [if_neg (by omega), if_neg (by omega), if_pos rfl]
        rfl
      rw [e] at hns ⊢
      cases hb : boundsA ks vs 0 with
      | fine a b => exact idx_nil (y := nullV) rfl (toJ_0 _ _ _ _ _) (i2_nil_map _ w)
      | raises => rw [hb] at hns; exact absurd rfl hns
      | silent => rw [hb] at hns; exact absurd rfl hns
  · -- an array
    have hu0 := hu
    rw [toJ_5] at hu hu0
    cases hu with
    | @arr _ _ a c f b o N F hl hc ca own sub dis ra =>
    rw [toJL_len] at hu0
    have hl : lc.length * 16 ≤ 140737488351232 := by rw [toJL_len] at hl; exact hl
    have hc : lc.length ≤ c := by rw [toJL_len] at hc; exact hc
    have hra : ∀ i (hi : i < lc.length), RepJ w S (toJ lc[i]) (f (o + i)) := fun i hi => by
      have := ra i (by rw [toJL_len]; exact hi)
      rw [toJL_get lc i hi] at this
      exact this.mono (fun q hq => sub i q (by rw [toJL_len]; exact hi) hq)
    rw [toJL_len] at ca ⊢
    rcases hkk with rfl | rfl | rfl | rfl | rfl | rfl | rfl
    · rw [toJ_0] at hx
      cases hx
      exact idx_err (by simp) (i2_arr_nil _ w)
    · rw [toJ_1] at hx
      cases hx
      exact idx_err (by simp) (i2_arr_bool _ _ w)
    · rw [toJ_2] at hx
      cases hx
      exact idx_err (by simp) (i2_arr_bool _ _ w)
    · simp only [show ¬ ((5 : Int) = 0) by decide, show ¬ ((5 : Int) = 4) by decide, show ¬ ((3 : Int) = 6) by decide, show ¬ ((5 : Int) = 6) by decide, false_and, if_false, and_self, if_true] at hns ⊢
      by_cases e : hf.tmod 2 = 0
      · rw [if_neg (by simpa using e)] at hns ⊢
        rw [toJ_3i _ _ _ _ e] at hx
        cases hx with
        | int _ _ hr =>
        have G := fun w1 (hw1 : Below w.heap.size w w1) => gindex_any w1 a lc.length c (fun i => f (o + i)) (by omega) (fun h0 => by
          obtain ⟨ea, hb, hrow, hN⟩ := ca h0
          exact ⟨b, o, ea, fun i hi => (hw1.cell (p := ⟨b, o + i, none⟩) (hSw b hb)).trans (hrow.cell (by omega))⟩) (fun i hi => (hra i hi).form) (hf.tdiv 2) hr
        cases hi : nthI (hf.tdiv 2) lc.length with
        | some m =>
          obtain ⟨em, hm⟩ := nthI_some hi
          rw [hi] at G
          refine (i2_arr_int a lc.length c (hf.tdiv 2) w (f (o + m)) (hra m hm).form G).mono ?_
          rintro e w' ⟨v, rfl, rfl, hb'⟩
          refine ⟨_, rfl, hb', fun y hy => ?_, fun hy => by cases hy⟩
          cases hy
          rw [nth_at em.symm hm]
          exact (hra m hm).under hb' hSw
        | none =>
          rw [hi] at G
          refine (i2_arr_int a lc.length c (hf.tdiv 2) w .nilIface (.inl rfl) G).mono ?_
          rintro e w' ⟨v, rfl, rfl, hb'⟩
          refine ⟨_, rfl, hb', fun y hy => ?_, fun hy => by cases hy⟩
          cases hy
          have en : nthA lc hf = nullV := by
            rcases nthI_none hi with h | h
            · exact nth_low h
            · exact nth_high h
          rw [en]
          show RepJ _ S (toJ (.mk 0 0 ⟨#[]⟩ [] [] [])) _
          rw [toJ_0]
          exact .null S
      · rw [if_pos (by simpa using e)] at hns
        exact absurd rfl hns
    · rw [toJ_4] at hx
      cases hx
      exact idx_err (by simp) (i2_arr_str _ _ w)
    · simp at hns
    · simp only [show ¬ ((5 : Int) = 0) by decide, show ¬ ((5 : Int) = 4) by decide, false_and, if_false, if_true] at hns ⊢
      have ec : cutA (.mk 5 hc0 tc lc kc' vc) (.mk 6 hf t l ks vs) = cutL lc (boundsA ks vs lc.length) := by
        unfold cutA
        rw [if_neg (by exact (by decide : ¬ (5 : Int) = 0)), if_pos (by exact (rfl : (5 : Int) = 5))]
        rfl
      rw [ec] at hns ⊢
      have hns2 : boundsA ks vs lc.length ≠ .silent := fun e => hns (by rw [e]; rfl)
      obtain ⟨h2, hs, he⟩ := bounds_loud hns2
      rw [boundsA_of h2 hs he] at hns ⊢
      rw [toJ_6] at hx
      cases hx with
      | @obj _ _ r E F hr hm hsz own sub dis rm =>
      obtain ⟨i1, hi1, eg1, em1, _, L1⟩ := map_key hlenk risek hm (x := startT) (by decide) hs
      obtain ⟨i2, hi2, eg2, em2, _, L2⟩ := map_key hlenk risek hm (x := endT) (by decide) he
      have hj1 := rm i1 (by rw [toJM_len _ _ hlenk]; omega)
      have hj2 := rm i2 (by rw [toJM_len _ _ hlenk]; omega)
      rw [em1] at hj1
      rw [em2] at hj2
      rw [eg1, eg2] at hns ⊢
      have A1 := bnd_rep (valsk i1 hi1) hj1 lc.length 0
      have A2 := bnd_rep (valsk i2 hi2) hj2 lc.length lc.length
      have key : ∀ R, Calls Tryz.prog 79 #[.slice a lc.length c, E i2, E i1] w (Ret R) → Calls Tryz.prog 49 #[.nilIface, .iface 65 (.slice a lc.length c), .iface 68 (.map (some r))] w (Ret R) :=
        fun R H => i2_arr_map a lc.length c r w (E i1) (E i2) hj1.form hj2.form L1 L2 R (funcSlice_any a lc.length c (E i2) (E i1) hj2.form hj1.form w R H)
      have fin : ∀ (p q : Nat) (xs xe : Option Int), BndV (E i1) xs → BndV (E i2) xe → endI xs 0 lc.length 0 = p → endI xe p lc.length lc.length = q → p ≤ q → q ≤ lc.length →
          Calls Tryz.prog 49 #[.nilIface, .iface 65 (.slice a lc.length c), .iface 68 (.map (some r))] w (Ret (IdxR w S (.fine (.mk 5 0 ⟨#[]⟩ ((lc.drop p).take (q - p)) [] [])))) := by
        intro p q xs xe b1 b2 e1 e2 hpq hql
        refine key _ ((slice_fine a lc.length c hc (by omega) (E i2) (E i1) xe xs b2 b1 p q e1 e2 w).mono ?_)
        rintro e w' ⟨v, rfl, hcut, hb'⟩
        refine ⟨v, rfl, hb', fun y hy => ?_, fun hy => by cases hy⟩
        cases hy
        exact (cut_rep hu0 p q hpq hql hcut).under hb' hSw
      rcases A1 with ⟨f1, b1⟩ | ⟨y1, f1, b1⟩ | ⟨f1, b1⟩ | f1
      · rcases A2 with ⟨f2, b2⟩ | ⟨y2, f2, b2⟩ | ⟨f2, b2⟩ | f2
        · rw [f1, f2]
          have := fin 0 lc.length none none b1 b2 rfl rfl (Nat.zero_le _) (Nat.le_refl _)
          simpa [boundsOf, cutL] using this
        · rw [f1, f2]
          have := fin 0 (clampN y2 lc.length) none (some y2) b1 b2 rfl (clampI_N y2 lc.length) (Nat.zero_le _) (clampN_le _ _)
          simpa [boundsOf, cutL] using this
        · rw [f1, f2]
          exact idx_err rfl (key _ (slice_bad_end a lc.length c (by omega) _ _ none b2 b1 w))
        · rw [f1, f2] at hns
          exact absurd rfl hns
      · rcases A2 with ⟨f2, b2⟩ | ⟨y2, f2, b2⟩ | ⟨f2, b2⟩ | f2
        · rw [f1, f2]
          have := fin (clampN y1 lc.length) lc.length (some y1) none b1 b2 (clampI_N y1 lc.length) rfl (clampN_le _ _) (Nat.le_refl _)
          have hle := clampN_le y1 lc.length
          simpa [boundsOf, cutL, hle] using this
        · rw [f1, f2]
          have hle := clampN_le y1 lc.length
          have hle2 := clampN_le y2 lc.length
          have := fin (clampN y1 lc.length) (if clampN y1 lc.length ≤ clampN y2 lc.length then clampN y2 lc.length else clampN y1 lc.length) (some y1) (some y2) b1 b2 (clampI_N y1 lc.length) (clampI_lo y2 _ _ hle) (by split <;> omega) (by split <;> omega)
          exact this
        · rw [f1, f2]
          exact idx_err rfl (key _ (slice_bad_end a lc.length c (by omega) _ _ (some y1) b2 b1 w))
        · rw [f1, f2] at hns
          exact absurd rfl hns
      · rw [f1]
        exact idx_err (by cases bndA vs[i2] lc.length lc.length <;> rfl) (key _ (slice_bad_start a lc.length c _ _ b1 w))
      · rw [f1] at hns
        exact absurd (by cases bndA vs[i2] lc.length lc.length <;> rfl) hns
  · -- an object
    rw [toJ_6] at hu
    cases hu with
    | @obj _ _ r E F hr hm hs own sub dis rm =>
    rcases hkk with rfl | rfl | rfl | rfl | rfl | rfl | rfl
    · rw [toJ_0] at hx
      cases hx
      exact idx_err (by simp) (i2_map_nil _ w)
    · rw [toJ_1] at hx
      cases hx
      exact idx_err (by simp) (i2_map_bool _ _ w)
    · rw [toJ_2] at hx
      cases hx
      exact idx_err (by simp) (i2_map_bool _ _ w)
    · by_cases e : hf.tmod 2 = 0
      · rw [toJ_3i _ _ _ _ e] at hx
        cases hx
        exact idx_err (by simp) (i2_map_int _ _ w)
      · rw [toJ_3f _ _ _ _ e] at hx
        cases hx
        exact idx_err (by simp) (i2_map_flt _ _ w)
    · rw [toJ_4] at hx
      cases hx with
      | str _ _ hts =>
      simp only [show ¬ ((6 : Int) = 0) by decide, show ¬ ((6 : Int) = 4) by decide, show ¬ ((4 : Int) = 6) by decide, false_and, if_false, and_self, if_true]
      cases hh : hasK kc' t with
      | true =>
        obtain ⟨i, hi, eg, em, L1, _⟩ := map_key hlenc risec hm hts hh
        have hi' : i < (toJM kc' vc).length := by rw [toJM_len _ _ hlenc]; omega
        have hj := rm i hi'
        rw [em] at hj
        refine (i2_map_str r t w _ hj.form L1).mono ?_
        rintro e w' ⟨v, rfl, rfl, rfl⟩
        refine ⟨_, rfl, Below.refl _ _, fun y hy => ?_, fun hy => by cases hy⟩
        cases hy
        rw [eg]
        exact hj.mono (fun q hq => sub i q hi' hq)
      | false =>
        have L := hm.miss (k := t) (fun p hp => by
          obtain ⟨j, hj, rfl⟩ := List.mem_iff_getElem.1 hp
          have hj2 : j < kc'.length := by rw [toJM_len _ _ hlenc] at hj; exact hj
          rw [toJM_get _ _ hlenc j hj2]
          exact hasK_miss (RiseK.of risec) hh _ (List.getElem_mem hj2)) hts
        refine (i2_map_str r t w _ (.inl rfl) L).mono ?_
        rintro e w' ⟨v, rfl, rfl, rfl⟩
        refine ⟨_, rfl, Below.refl _ _, fun y hy => ?_, fun hy => by cases hy⟩
        cases hy
        unfold getV
        rw [if_neg (by simp [hh])]
        show RepJ _ S (toJ (.mk 0 0 ⟨#[]⟩ [] [] [])) _
        rw [toJ_0]
        exact .null S
    · rw [toJ_5] at hx
      cases hx
      exact idx_err (by simp) (i2_map_arr _ _ w ⟨_, _, _, rfl⟩)
    · exfalso
      apply hns
      simp only [show ¬ ((6 : Int) = 0) by decide, show ¬ ((6 : Int) = 4) by decide, false_and, if_false, if_true]
      unfold cutA
      rw [if_neg (by exact (by decide : ¬ (6 : Int) = 0)), if_neg (by exact (by decide : ¬ (6 : Int) = 5)), if_pos (by exact (rfl : (6 : Int) = 6))]

end Go.Proofs.YtiphcojcdegnkaaGreatDoor

namespace Go.Proofs.YtiphcojcdegnkaaGreatDoor
open Go Go.RowKit Go.Maps Go.Sort Go.Shelf

def keysL_ren : Go.Shelf.Ren := ⟨fun | 7 => 58 | 10 => 71 | n => n, fun | 23 => 68 | 26 => 9 | 3 => 20 | 28 => 111 | 0 => 0 | 27 => 110 | 33 => 104 | 4 => 4 | n => n, fun | n => n⟩
theorem keysL : Go.Proofs.SlLaysZ.n7 Tryz.prog keysL_ren := {
  mixed := by kernel_rfl
  f7 := ⟨Tryz.f58.name, by decide, Tryz.func58.trans (congrArg some (by kernel_rfl))⟩
  f10 := ⟨Tryz.f71.name, by decide, Tryz.func71.trans (congrArg some (by kernel_rfl))⟩
  t0 := Tryz.underlying0
  a0 := Tryz.isAgg0
  z0 := Tryz.sizeOf0
  v0 := Tryz.zeroValue0
  t4 := Tryz.underlying4
  a4 := Tryz.isAgg4
  z4 := Tryz.sizeOf4
  v4 := Tryz.zeroValue4
  t23 := Tryz.underlying68
  a23 := Tryz.isAgg68
  z23 := Tryz.sizeOf68
  v23 := Tryz.zeroValue68
  t26 := Tryz.underlying9
  a26 := Tryz.isAgg9
  z26 := Tryz.sizeOf9
  v26 := Tryz.zeroValue9
  t27 := Tryz.underlying110
  a27 := Tryz.isAgg110
  z27 := Tryz.sizeOf110
  v27 := Tryz.zeroValue110
  t28 := Tryz.underlying111
  a28 := Tryz.isAgg111
  z28 := Tryz.sizeOf111
  v28 := Tryz.zeroValue111
  t33 := Tryz.underlying104
  a33 := Tryz.isAgg104
  z33 := Tryz.sizeOf104
  v33 := Tryz.zeroValue104 }
def sortedL_ren : Go.Shelf.Ren := ⟨fun | 6 => 57 | 8 => 69 | 9 => 70 | 11 => 88 | 13 => 90 | 12 => 89 | 23 => 124 | 24 => 125 | 14 => 115 | 15 => 116 | 16 => 117 | 17 => 118 | 18 => 119 | 19 => 120 | 20 => 121 | 21 => 122 | 22 => 123 | 25 => 139 | 26 => 140 | 27 => 141 | 28 => 142 | 29 => 143 | 30 => 136 | 31 => 154 | n => n, fun | 26 => 9 | 28 => 111 | 24 => 24 | 0 => 0 | 3 => 3 | 37 => 146 | 48 => 209 | 50 => 161 | 4 => 4 | 40 => 203 | 39 => 202 | 45 => 61 | 5 => 5 | 9 => 9 | 51 => 224 | 55 => 227 | 57 => 231 | 58 => 232 | 33 => 104 | n => n, fun | n => n⟩
theorem sortedL : Go.Proofs.SlLaysZ.n6 Tryz.prog sortedL_ren := {
  mixed := by kernel_rfl
  f6 := ⟨Tryz.f57.name, by decide, Tryz.func57.trans (congrArg some (by kernel_rfl))⟩
  f8 := ⟨Tryz.f69.name, by decide, Tryz.func69.trans (congrArg some (by kernel_rfl))⟩
  f11 := ⟨Tryz.f88.name, by decide, Tryz.func88.trans (congrArg some (by kernel_rfl))⟩
  t0 := Tryz.underlying0
  a0 := Tryz.isAgg0
  z0 := Tryz.sizeOf0
  v0 := Tryz.zeroValue0
  t24 := Tryz.underlying24
  a24 := Tryz.isAgg24
  z24 := Tryz.sizeOf24
  v24 := Tryz.zeroValue24
  t26 := Tryz.underlying9
  a26 := Tryz.isAgg9
  z26 := Tryz.sizeOf9
  v26 := Tryz.zeroValue9
  t28 := Tryz.underlying111
  a28 := Tryz.isAgg111
  z28 := Tryz.sizeOf111
  v28 := Tryz.zeroValue111
  i26 := by kernel_rfl }
def sortL_ren : Go.Shelf.Ren := ⟨fun | 6 => 70 | 8 => 90 | 9 => 89 | 19 => 124 | 20 => 125 | 21 => 115 | 22 => 116 | 23 => 117 | 24 => 118 | 25 => 119 | 26 => 120 | 27 => 121 | 28 => 122 | 29 => 123 | 36 => 139 | 31 => 140 | 32 => 141 | 37 => 142 | 38 => 143 | 39 => 136 | 41 => 154 | n => n, fun | 27 => 24 | 29 => 9 | 3 => 3 | 32 => 146 | 26 => 24 | 0 => 0 | 44 => 209 | 46 => 161 | 4 => 4 | 36 => 203 | 35 => 202 | 41 => 61 | 5 => 5 | 9 => 9 | 53 => 224 | 57 => 227 | 63 => 231 | 64 => 232 | n => n, fun | n => n⟩
theorem sortL : Go.Proofs.SlLaysM.n6 Tryz.prog sortL_ren := {
  mixed := by kernel_rfl
  f6 := ⟨Tryz.f70.name, by decide, Tryz.func70.trans (congrArg some (by kernel_rfl))⟩
  f8 := Tryz.func90.trans (congrArg some (by kernel_rfl))
  f9 := ⟨Tryz.f89.name, by decide, Tryz.func89.trans (congrArg some (by kernel_rfl))⟩
  f19 := Tryz.func124.trans (congrArg some (by kernel_rfl))
  f20 := Tryz.func125.trans (congrArg some (by kernel_rfl))
  f21 := ⟨Tryz.f115.name, by decide, Tryz.func115.trans (congrArg some (by kernel_rfl))⟩
  f22 := ⟨Tryz.f116.name, by decide, Tryz.func116.trans (congrArg some (by kernel_rfl))⟩
  f23 := ⟨Tryz.f117.name, by decide, Tryz.func117.trans (congrArg some (by kernel_rfl))⟩
  f24 := ⟨Tryz.f118.name, by decide, Tryz.func118.trans (congrArg some (by kernel_rfl))⟩
  f25 := ⟨Tryz.f119.name, by decide, Tryz.func119.trans (congrArg some (by kernel_rfl))⟩
  f26 := ⟨Tryz.f120.name, by decide, Tryz.func120.trans (congrArg some (by kernel_rfl))⟩
  f27 := ⟨Tryz.f121.name, by decide, Tryz.func121.trans (congrArg some (by kernel_rfl))⟩
  f28 := ⟨Tryz.f122.name, by decide, Tryz.func122.trans (congrArg some (by kernel_rfl))⟩
  f29 := ⟨Tryz.f123.name, by decide, Tryz.func123.trans (congrArg some (by kernel_rfl))⟩
  f31 := Tryz.func140.trans (congrArg some (by kernel_rfl))
  f32 := Tryz.func141.trans (congrArg some (by kernel_rfl))
  f36 := ⟨Tryz.f139.name, by decide, Tryz.func139.trans (congrArg some (by kernel_rfl))⟩
  f37 := ⟨Tryz.f142.name, by decide, Tryz.func142.trans (congrArg some (by kernel_rfl))⟩
  f38 := ⟨Tryz.f143.name, by decide, Tryz.func143.trans (congrArg some (by kernel_rfl))⟩
  f39 := ⟨Tryz.f136.name, by decide, Tryz.func136.trans (congrArg some (by kernel_rfl))⟩
  f41 := ⟨Tryz.f154.name, by decide, Tryz.func154.trans (congrArg some (by kernel_rfl))⟩
  t0 := Tryz.underlying0
  a0 := Tryz.isAgg0
  z0 := Tryz.sizeOf0
  v0 := Tryz.zeroValue0
  t3 := Tryz.underlying3
  a3 := Tryz.isAgg3
  z3 := Tryz.sizeOf3
  v3 := Tryz.zeroValue3
  t4 := Tryz.underlying4
  a4 := Tryz.isAgg4
  z4 := Tryz.sizeOf4
  v4 := Tryz.zeroValue4
  t5 := Tryz.underlying5
  a5 := Tryz.isAgg5
  z5 := Tryz.sizeOf5
  v5 := Tryz.zeroValue5
  t9 := Tryz.underlying9
  a9 := Tryz.isAgg9
  z9 := Tryz.sizeOf9
  v9 := Tryz.zeroValue9
  t26 := Tryz.underlying24
  a26 := Tryz.isAgg24
  z26 := Tryz.sizeOf24
  v26 := Tryz.zeroValue24
  t27 := Tryz.underlying24
  a27 := Tryz.isAgg24
  z27 := Tryz.sizeOf24
  v27 := Tryz.zeroValue24
  t29 := Tryz.underlying9
  a29 := Tryz.isAgg9
  z29 := Tryz.sizeOf9
  v29 := Tryz.zeroValue9
  t32 := Tryz.underlying146
  a32 := Tryz.isAgg146
  z32 := Tryz.sizeOf146
  v32 := Tryz.zeroValue146
  t35 := Tryz.underlying202
  a35 := Tryz.isAgg202
  z35 := Tryz.sizeOf202
  v35 := Tryz.zeroValue202
  t36 := Tryz.underlying203
  a36 := Tryz.isAgg203
  z36 := Tryz.sizeOf203
  v36 := Tryz.zeroValue203
  t41 := Tryz.underlying61
  a41 := Tryz.isAgg61
  z41 := Tryz.sizeOf61
  v41 := Tryz.zeroValue61
  t44 := Tryz.underlying209
  a44 := Tryz.isAgg209
  z44 := Tryz.sizeOf209
  v44 := Tryz.zeroValue209
  t46 := Tryz.underlying161
  a46 := Tryz.isAgg161
  z46 := Tryz.sizeOf161
  v46 := Tryz.zeroValue161
  t53 := Tryz.underlying224
  a53 := Tryz.isAgg224
  z53 := Tryz.sizeOf224
  v53 := Tryz.zeroValue224
  t57 := Tryz.underlying227
  a57 := Tryz.isAgg227
  z57 := Tryz.sizeOf227
  v57 := Tryz.zeroValue227
  t63 := Tryz.underlying231
  a63 := Tryz.isAgg231
  z63 := Tryz.sizeOf231
  v63 := Tryz.zeroValue231
  t64 := Tryz.underlying232
  a64 := Tryz.isAgg232
  z64 := Tryz.sizeOf232
  v64 := Tryz.zeroValue232 }

theorem sortsL (m : Nat) : AnyZ.SortsIn Tryz.prog sortedL_ren Fence.wide m :=
  ⟨fun blk off cap ss W hH hblk hsz => callsIn_wide.2 (AnyM.slices_Sort_string sortL blk off cap ss W hH hblk hsz),
   fun p cap W => callsIn_wide.2 (AnyM.slices_Sort_string_none sortL p cap W)⟩

theorem mapsKeys_any (mb : Option Nat) (w : World) : Calls Tryz.prog 58 #[.map mb] w fun e w' => e = .returned (.func (.func 71) #[] #[.pointer (some ⟨w.heap.size, 0, none⟩)]) ∧ w' = w.alloc (.cells #[.map mb] 68) :=
  (callsIn_wide (n := 5)).1 (AnyZ.keys_in keysL Fence.wide 5 trivial rfl mb w)

/-- What slices.Sorted leaves. -/
def SortedP (w : World) (P : List (List UInt8) → Prop) (e : Ending) (w' : World) : Prop :=
  ∃ (v : Value) (ss : List (List UInt8)), e = .returned v ∧ P ss ∧ w'.ownsRow w.heap.size 9 1 v ss.length ((ss.mergeSort (fun x y => decide (x ≤ y))).map encStr) ∧ Below w.heap.size w w'

set_option maxHeartbeats 1000000 in
theorem sortedKeys_any {H : Type} (b nn : Nat) (D0 : DataW H) (R : Value → Option (DataW H × List MemPlace)) (w : World) (hown : w.ownsMap Tryz.prog 9 R b nn D0) (hmax : Maps.size D0 ≤ maxLen) (hbytes : Maps.size D0 * 16 ≤ 140737488355328) :
    Calls Tryz.prog 57 #[.func (.func 71) #[] #[.pointer (some ⟨w.heap.size, 0, none⟩)]] (w.alloc (.cells #[.map (some b)] 68)) (SortedP (w.alloc (.cells #[.map (some b)] 68)) (fun ss => ss.Perm (strKeys D0))) := by
  have hbl := hown.lt
  have hseq : SeqGives Fence.wide 2 Tryz.prog 71 #[.pointer (some ⟨w.heap.size, 0, none⟩)] encStr (fun ss => ss.Perm (strKeys D0)) (Maps.size D0) (w.alloc (.cells #[.map (some b)] 68)) :=
    AnyZ.keys_gives (ρ := keysL_ren) { keysL with } Fence.wide _ trivial rfl (by omega) w.heap.size b nn D0 _ (by simp) (by simp) (by
      obtain ⟨es, clock, hb, Ft, hs, hD⟩ := hown
      exact ⟨es, clock, (Below.heap_alloc _ _ b hbl).trans hb, Ft, hs, hD⟩)
  refine ((callsIn_wide (n := 5)).1 (AnyZ.sorted_in sortedL Fence.wide 5 trivial trivial trivial trivial rfl (by omega) (sortsL _) (enters_of Tryz.func70 (by kernel_rfl) rfl) 71 #[.pointer (some ⟨w.heap.size, 0, none⟩)] trivial (enters_of Tryz.func71 (by kernel_rfl) rfl) _ _ hmax hbytes _ hseq)).mono ?_
  rintro e w' ⟨v, ss, he, hP, hrow, _, hb⟩
  exact ⟨v, ss, he, hP, hrow, hb⟩

theorem sort_perm {a b : List (List UInt8)} (h : a.Perm b) (hb : b.Pairwise fun x y => decide (x ≤ y) = true) : a.mergeSort (fun x y => decide (x ≤ y)) = b := by
  have hp : (a.mergeSort (fun x y => decide (x ≤ y))).Perm b := (List.mergeSort_perm _ _).trans h
  have hs : (a.mergeSort (fun x y => decide (x ≤ y))).Pairwise fun x y => decide (x ≤ y) = true :=
    List.pairwise_mergeSort (le := fun x y => decide (x ≤ y)) (fun x y z h1 h2 => by simp only [decide_eq_true_eq] at *; exact List.le_trans h1 h2) (fun x y => by simp only [Bool.or_eq_true, decide_eq_true_eq]; exact List.le_total x y) a
  exact hp.eq_of_pairwise (le := fun x y => decide (x ≤ y) = true) (fun x y _ _ h1 h2 => by simp only [decide_eq_true_eq] at h1 h2; exact List.le_antisymm h1 h2) hs hb

theorem strKeys_entries (m : List (ByteArray × J)) (E : Nat → Value) : strKeys (DataW.map (entries m E)) = m.map fun p => p.1.data.toList := by
  unfold strKeys entries
  apply List.ext_getElem?
  intro i
  simp only [List.getElem?_map, List.getElem?_mapIdx]
  cases m[i]? <;> rfl

theorem keys_pairwise {ks : List ByteArray} (rise : ∀ i (hi : i + 1 < ks.length), Op.bytesLess ks[i].toList ks[i + 1].toList = true) : (ks.map fun k => k.data.toList).Pairwise fun x y => decide (x ≤ y) = true := by
  rw [List.pairwise_map, List.pairwise_iff_getElem]
  intro i j hi hj hij
  have := rise_all ks rise j hj i hij
  rw [← ByteArray.toList_eq, ← ByteArray.toList_eq]
  rw [bLess_eq] at this
  simp only [decide_eq_true_eq] at this ⊢
  exact Std.le_of_lt this

theorem enc_keys (ks : List ByteArray) : (ks.map fun k => k.data.toList).map encStr = ks.map .string := by
  rw [List.map_map]
  apply List.map_congr_left
  intro k _
  rfl

end Go.Proofs.YtiphcojcdegnkaaGreatDoor
