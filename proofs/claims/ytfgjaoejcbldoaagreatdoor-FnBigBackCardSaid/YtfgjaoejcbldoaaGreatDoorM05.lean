/- Contracts of package big's Int: Text at base 10, String. -/
/- Contract of package big's Int.SetString at an integer's text, base 10. -/
/- Contracts of gojq.zzIndexAny and zzContainsAny: no byte of an integer's text is one of ".eE". -/
import Derived.Test.YtfgjaoejcbldoaaGreatDoorM03
import Derived.Test.YtfgjaoejcbldoaaGreatDoorM04
import Derived.Laws.BytesArg
import Derived.Test.YtfgjaoejcbldoaaGreatDoorM02
import Derived.Laws.RangeString
namespace Go.Proofs.YtfgjaoejcbldoaaGreatDoor
open Go Go.RowKit Go.Deep
/-- A string of bytes. -/
def strL (l : List UInt8) : ByteArray := ⟨l.toArray⟩
theorem str_of (l : List UInt8) : strOfNums (l.map fun c => (c.toNat : Int)) = strL l := by
  unfold strOfNums strL
  rw [List.map_map]
  congr 1
  congr 1
  rw [List.map_congr_left (g := id) (fun c _ => by simp), List.map_id]
theorem conv_bytes {w : World} {b c : Nat} {l : List UInt8} (h : BytesAt w b l) : (convert 79 9 (.slice (some ⟨b, 0, none⟩) l.length c)).run Tryz.prog w = .ok (.string (strL l)) w := by
  have h1 := run_convert_bytes_arg (P := Tryz.prog) w 79 5 Tryz.underlying79 Tryz.underlying5 b 0 l.length c (l.map fun c => (c.toNat : Int)) (by simp) (fun i hi => by
    rw [Nat.zero_add, h i hi]
    simp [byteV, List.getD_eq_getElem?_getD, List.getElem?_eq_getElem hi]) 9 Tryz.underlying9
  rw [h1, str_of]
theorem text_num (s : Bool) (x : Nat) (h : x = 0 → s = false) : Lib.itoa (num s x) = if s = true then 45 :: Lib.decDigits x else Lib.decDigits x := by
  unfold Lib.itoa num
  cases s
  · simp
  · have hx : x ≠ 0 := fun e => by have := h e; cases this
    have h1 : -(x : Int) < 0 := by omega
    rw [if_pos rfl, if_pos h1, if_pos rfl, Int.natAbs_neg, Int.natAbs_natCast]
/-- How a text answers. -/
def StrP (w : World) (l : List UInt8) (e : Ending) (w' : World) : Prop := e = .returned (.string (strL l)) ∧ Below w.heap.size w w'
theorem text_any (w : World) (x : Nat) (s : Bool) (vx : Value) (h : NatAt w w.heap.size x vx) (hxx : x < xMax) (hs : x = 0 → s = false) :
    Calls Tryz.prog 74 #[vx, .bool s, .int .i64 10] w (TxtP w (Lib.itoa (num s x))) := by
  rw [text_num s x hs]
  by_cases h0 : x = 0
  · subst h0
    rw [hs rfl]
    rw [if_neg (by decide), show Lib.decDigits 0 = [48] by rw [Lib.decDigits]; rfl]
    exact text_zero w false vx h
  · exact text_pos w x s vx h hxx h0
set_option maxHeartbeats 4000000 in
set_option maxRecDepth 100000 in
theorem intText_any (w : World) (b : Nat) (z : Int) (hz : IntIn w w.heap.size z b) (bz : z.natAbs < xMax) :
    Calls Tryz.prog 29 #[.pointer (some ⟨b, 0, none⟩), .int .i64 10] w (StrP w (Lib.itoa z)) := by
  obtain ⟨s, a, n, c, x, hc, hn, rfl, hs, _⟩ := hz.open
  rw [num_abs] at bz
  have HT := Lib.hid (text_any w.drew x s _ hn bz hs)
  obtain ⟨y0, y1, _, _⟩ := of_block2 hc
  generalize Lib.itoa (num s x) = T at *
  clear hz hn hs hc
  go_enter Tryz.func29, Tryz.ntmps29
  go_wp2_with fail
  go_region_with (go_at_call 74; refine HT.out.mono ?_; rintro e w6 ⟨g, c', rfl, hv6, hb6⟩; have hcv := conv_bytes (c := c') hv6)
  all_goals have HF := Lib.hid (show StrP w T (.returned (.string (strL T))) w6 from ⟨rfl, (below_dr (Below.refl _ _)).trans hb6⟩)
  all_goals clear hv6 hb6
  all_goals go_wp2_with fail
  all_goals go_ret
  all_goals exact HF.out
set_option maxHeartbeats 4000000 in
set_option maxRecDepth 100000 in
theorem intString_any (w : World) (b : Nat) (z : Int) (hz : IntIn w w.heap.size z b) (bz : z.natAbs < xMax) :
    Calls Tryz.prog 21 #[.pointer (some ⟨b, 0, none⟩)] w (StrP w (Lib.itoa z)) := by
  have HT := Lib.hid (intText_any w b z hz bz)
  clear hz
  generalize Lib.itoa z = T at *
  go_enter Tryz.func21, Tryz.ntmps21
  go_wp2_with fail
  refine HT.out.mono ?_
  rintro e w6 ⟨rfl, hb⟩
  have HF := Lib.hid (show StrP w T (.returned (.string (strL T))) w6 from ⟨rfl, hb⟩)
  clear hb
  go_wp2_with fail
  go_ret
  exact HF.out
end Go.Proofs.YtfgjaoejcbldoaaGreatDoor

namespace Go.Proofs.YtfgjaoejcbldoaaGreatDoor
open Go Go.RowKit Go.Deep
/-- A text as its sign and its digits. -/
structure TextD (s : ByteArray) (st : Nat) (d : List UInt8) : Prop where
  sgn : st ≤ 1
  size : s.size = st + d.length
  get : ∀ k (hk : k < d.length) (h' : st + k < s.size), (s[st + k]'h').toNat = (d[k]'hk).toNat
  get0 : st = 1 → ∀ h0 : 0 < s.size, (s[0]'h0).toNat = 45
  dig : ∀ k (hk : k < d.length), 48 ≤ (d[k]'hk).toNat ∧ (d[k]'hk).toNat ≤ 57
  pos : 0 < d.length
theorem strL_size (l : List UInt8) : (strL l).size = l.length := by simp [strL, ByteArray.size]
theorem strL_get (l : List UInt8) (i : Nat) (h : i < (strL l).size) (h' : i < l.length) : (strL l)[i]'h = l[i]'h' := rfl
theorem whole_digs {l : List UInt8} (h : WholeT l) : ∃ st d, TextD (strL l) st d ∧ wholeN l = num (decide (st = 1)) (natT d) ∧ (st = 1 → natT d ≠ 0) ∧ l = (if st = 1 then [45] else []) ++ d := by
  rcases h with ⟨h1, ⟨h2, h3, h4⟩, h5⟩ | ⟨h1, h2, h3, h4⟩
  · obtain ⟨c, d, rfl⟩ : ∃ c d, l = c :: d := by
      cases l with
      | nil => simp at h1
      | cons c d => exact ⟨c, d, rfl⟩
    obtain rfl : c = 45 := by simpa using h1
    simp only [List.tail_cons] at h2 h3 h4 h5
    refine ⟨1, d, ⟨by omega, by rw [strL_size, List.length_cons]; omega, fun k hk h' => ?_, fun _ h => rfl, fun k hk => h3 _ (List.getElem_mem hk), List.length_pos_iff.2 h2⟩, ?_, fun _ => ?_, rfl⟩
    · exact congrArg UInt8.toNat ((strL_get _ _ h' (by rw [List.length_cons]; omega)).trans (by simp [Nat.add_comm 1 k]))
    · unfold wholeN num
      simp
    · have := digsT_pos ⟨h2, h3, h4⟩ h5
      omega
  · refine ⟨0, l, ⟨by omega, by rw [strL_size]; omega, fun k hk h' => ?_, fun h => absurd h (by decide), fun k hk => h3 _ (List.getElem_mem hk), List.length_pos_iff.2 h2⟩, ?_, fun h => absurd h (by decide), by simp⟩
    · exact congrArg UInt8.toNat ((strL_get _ _ h' (by omega)).trans (by simp))
    · unfold wholeN num
      rw [if_neg h1]
      simp
/-- What the loop of SetString keeps. -/
def SetI (w : World) (st M : Nat) (d : List UInt8) (vi vc vp vb vx : Value) (wr : World) : Prop :=
  ∃ j : Nat, vi = .int .i64 j ∧ vc = .int .i64 ((j : Int) - st) ∧ vb = .bool false ∧ vp = .int .u8 (if j = st then 46 else 48) ∧ st ≤ j ∧ j ≤ st + M ∧ NatAt wr wr.heap.size (natT (d.take (j - st))) vx ∧ Below w.heap.size w wr
theorem int_mk' {w : World} {b x B : Nat} {s : Bool} {v : Value} (h : w.heap[b]? = some (.cells #[.bool s, v] 51)) (hv : NatAt w B x v) (hB : B = w.heap.size) (hs : x = 0 → s = false) : IntIn w w.heap.size (num s x) b := by
  subst hB
  exact ⟨(Array.getElem?_eq_some_iff.1 h).1, s, v, x, h, hv, rfl, hs⟩
/-- How SetString answers. -/
def SetP (w : World) (zb : Nat) (z : Int) (e : Ending) (w' : World) : Prop :=
  e = .returned (.tuple #[.pointer (some ⟨zb, 0, none⟩), .bool true]) ∧ IntIn w' w'.heap.size z zb ∧ Below zb w w'
set_option maxHeartbeats 4000000 in
set_option maxRecDepth 100000 in
theorem setString_core (w : World) (zb st : Nat) (z0 : Int) (s : ByteArray) (d : List UInt8) (hz : IntIn w w.heap.size z0 zb) (h : TextD s st d) (hn : s.size ≤ 1000000) (hx : natT d < xMax) (h0 : st = 1 → natT d ≠ 0) :
    Calls Tryz.prog 103 #[.pointer (some ⟨zb, 0, none⟩), .string s, .int .i64 10] w (SetP w zb (num (decide (st = 1)) (natT d))) := by
  obtain ⟨s0, a0, n0, c0, x0, hzc, _, _, _, hzb, _⟩ := hz.open
  have Hzc := Lib.hid hzc
  have HZ := Lib.hid hz
  have HM := Lib.hid fun (w' : World) (k c : Nat) (v : Value) (hv : NatAt w' w'.heap.size (natT (d.take k)) v) (hc : c < 10) =>
    (show Calls Tryz.prog 140 #[v, .int .u32 10, .int .u32 (c : Int)] w' (NatP w' (natT (d.take k) * 10 + c)) from mulAdd_any w' _ 10 c v hv (Nat.lt_of_le_of_lt (natT_take d k) hx) (by decide) (by unfold bD; omega))
  have hse : s.toList.isEmpty = false := by
    rw [ByteArray.toList_eq]
    have h1 : 0 < s.data.toList.length := by have := h.pos; have := h.size; rw [Array.length_toList]; change 0 < s.size; omega
    cases hc : s.data.toList with
    | nil => rw [hc] at h1; simp at h1
    | cons a r => rfl
  have hnt := h.size
  have hp := h.pos
  have hst := h.sgn
  have Hh := Lib.hid h
  have H0 := Lib.hid h0
  have hlen : 0 < s.size := by omega
  obtain ⟨N, hN⟩ : ∃ N, s.size = N := ⟨_, rfl⟩
  rw [hN] at hnt hn hlen
  have HN := Lib.hid hN
  have hway : (st = 1 ∧ ∀ h : 0 < s.size, (s[0]'h).toNat = 45) ∨ (st = 0 ∧ ∃ c : Nat, 48 ≤ c ∧ c ≤ 57 ∧ ∀ h : 0 < s.size, (s[0]'h).toNat = c) := by
    rcases Nat.lt_or_ge st 1 with e | e
    · obtain rfl : st = 0 := by omega
      refine .inr ⟨rfl, d[0].toNat, (h.dig 0 hp).1, (h.dig 0 hp).2, fun h' => ?_⟩
      have := h.get 0 hp (by omega)
      simpa using this
    · obtain rfl : st = 1 := by omega
      exact .inl ⟨rfl, h.get0 rfl⟩
  clear hz hzc h h0 hx
  obtain ⟨M, hM0⟩ : ∃ M, d.length = M := ⟨_, rfl⟩
  have HM0 := Lib.hid hM0
  rw [hM0] at hnt hp
  clear hM0
  rcases hway with ⟨rfl, hg0⟩ | ⟨rfl, c0', hc1, hc2, hg0⟩
  · have hj : (1 : Nat) ≤ 1 + M := Nat.le_add_right _ _
    have Hst := Lib.hid (show SetI w 1 M d (.int .i64 1) (.int .i64 0) (.int .u8 46) (.bool false) (.slice none 0 0) w from ⟨1, by go_num, by go_num, rfl, rfl, Nat.le_refl _, hj, NatAt.zero _ _, Below.refl _ _⟩)
    have hsg : decide ((1 : Nat) = 1) = true := rfl
    rw [hsg]
    have HE := Lib.hid fun (w6 : World) (v : Value) (hb : Below w.heap.size w w6) (hv : NatAt w6 w6.heap.size (natT d) v) => (show SetP w zb (num true (natT d)) (.returned (.tuple #[.pointer (some ⟨zb, 0, none⟩), .bool true])) ((w6.setCell ⟨zb, 1, none⟩ v).setCell ⟨zb, 0, none⟩ (.bool true)) from by
      obtain ⟨q1, q2, q3⟩ := rawI_a true HZ.out hb hv
      exact ⟨rfl, int_mk' q1 q2 rfl (fun e => absurd e (H0.out rfl)), q3⟩)
    clear hj hsg
    go_enter Tryz.func103, Tryz.ntmps103
    go_wp2_with fail
    go_loopw [9, 11, 13, 14, 15] (fun vi vc vp vb vx wr => SetI w 1 M d vi vc vp vb vx wr) (fun vi _ _ _ _ _ => N - (intOf vi).toNat)
    case atStart => exact Hst.out
    case round =>
      obtain ⟨j, rfl, rfl, rfl, rfl, hj1, hj2, hx, hb⟩ := hrel
      obtain ⟨ax, mx, cx, rfl, hmx, _⟩ := hx.slice
      have Hx := Lib.hid hx
      have Hb := Lib.hid hb
      by_cases hjn : j < N
      · have u1 : (j : Int) < (N : Int) := by omega
        have u2 : ¬ (j : Int) < 0 := by omega
        obtain ⟨k, hk⟩ : ∃ k, j = 1 + k := ⟨j - 1, by omega⟩
        have hkd : k < d.length := by have := HM0.out; omega
        have hg := Hh.out.get k hkd
        obtain ⟨g1, g2⟩ := Hh.out.dig k hkd
        obtain ⟨c, hc⟩ : ∃ c, (d[k]'hkd).toNat = c := ⟨_, rfl⟩
        rw [hc] at g1 g2
        have hgj : ∀ h, (s[j]'h).toNat = c := by
          intro h
          subst hk
          rw [← hc]
          exact hg h
        have hM := HM.out wr k (c - 48) _ (by rw [show k = j - 1 by omega]; exact hx) (by omega)
        have hnx : natT (d.take k) * 10 + (c - 48) = natT (d.take (j + 1 - 1)) := by
          rw [show j + 1 - 1 = k + 1 by omega, natT_next hkd, hc]
        rw [hnx] at hM
        have e1 : ((c - 48 : Nat) : Int) = (c : Int) - 48 := by omega
        rw [e1] at hM
        have HMM := Lib.hid hM
        have v1 : ((c : Int) == 95) = false := by
          have : ¬ (c : Int) = 95 := by omega
          simpa using this
        have v2 : (48 : Int) ≤ (c : Int) := by omega
        have v3 : (c : Int) ≤ 57 := by omega
        have v4 : ¬ (10 : Int) ≤ (c : Int) - 48 := by omega
        clear hx hb hM hnx hg hc hk hkd
        go_wp2_with fail
        refine HMM.out.mono ?_
        clear HMM
        rintro e w6 ⟨v6, rfl, hv6, hb6⟩
        have HF := Lib.hid fun (z : Int) (hz : z = (j : Int) + 1 - 1) => (show SetI w 1 M d (.int .i64 ((j : Int) + 1)) (.int .i64 z) (.int .u8 48) (.bool false) v6 w6 from ⟨j + 1, by go_num, congrArg (Value.int .i64) (by omega), rfl, by rw [if_neg (by omega)], by omega, by omega, hv6, below_next Hb.out hb6⟩)
        clear hv6 hb6
        go_wp2_with fail
        exact ⟨HF.out _ (by omega), by simp [intOf]; omega⟩
      · obtain rfl : j = N := by omega
        have u1 : ¬ (j : Int) < (j : Int) := by omega
        have hjs : ¬ j = 1 := by omega
        rw [if_neg hjs]
        have hx2 : NatAt wr wr.heap.size (natT d) (.slice ax mx cx) := by
          rw [show j - 1 = d.length by have := HM0.out; omega, List.take_length] at hx
          exact hx
        rw [show j - 1 = d.length by have := HM0.out; omega, List.take_length] at hmx
        have HF := Lib.hid (HE.out wr _ hb hx2)
        obtain ⟨p0, p1, p2, p3⟩ := of_block2 ((hb.block zb hzb).trans Hzc.out)
        have v0 : (((j : Int) - 1) == 0) = false := by
          have : ¬ ((j : Int) - 1) = 0 := by omega
          simpa using this
        have v7 : 0 < mx := by
          have h1 : natT d ≠ 0 := by simpa using H0.out
          have h2 : mx ≠ 0 := fun e => h1 (hmx.1 e)
          omega
        clear hx hb hx2
        go_wp2_with fail
        go_ret2
        exact HF.out
  · have hj : (0 : Nat) ≤ 0 + M := Nat.le_add_right _ _
    have Hst := Lib.hid (show SetI w 0 M d (.int .i64 0) (.int .i64 0) (.int .u8 46) (.bool false) (.slice none 0 0) w from ⟨0, by go_num, by go_num, rfl, rfl, Nat.le_refl _, hj, NatAt.zero _ _, Below.refl _ _⟩)
    have hsg : decide ((0 : Nat) = 1) = false := rfl
    rw [hsg]
    have HE := Lib.hid fun (w6 : World) (v : Value) (hb : Below w.heap.size w w6) (hv : NatAt w6 w6.heap.size (natT d) v) => (show SetP w zb (num false (natT d)) (.returned (.tuple #[.pointer (some ⟨zb, 0, none⟩), .bool true])) ((w6.setCell ⟨zb, 1, none⟩ v).setCell ⟨zb, 0, none⟩ (.bool false)) from by
      obtain ⟨q1, q2, q3⟩ := rawI_a false HZ.out hb hv
      exact ⟨rfl, int_mk' q1 q2 rfl (fun e => rfl), q3⟩)
    have b1 : ((c0' : Int) == 45) = false := by
      have : ¬ (c0' : Int) = 45 := by omega
      simpa using this
    have b2 : ((c0' : Int) == 43) = false := by
      have : ¬ (c0' : Int) = 43 := by omega
      simpa using this
    clear hj hsg
    go_enter Tryz.func103, Tryz.ntmps103
    go_wp2_with fail
    go_loopw [9, 11, 13, 14, 15] (fun vi vc vp vb vx wr => SetI w 0 M d vi vc vp vb vx wr) (fun vi _ _ _ _ _ => N - (intOf vi).toNat)
    case atStart => exact Hst.out
    case round =>
      obtain ⟨j, rfl, rfl, rfl, rfl, hj1, hj2, hx, hb⟩ := hrel
      obtain ⟨ax, mx, cx, rfl, hmx, _⟩ := hx.slice
      have Hx := Lib.hid hx
      have Hb := Lib.hid hb
      by_cases hjn : j < N
      · have u1 : (j : Int) < (N : Int) := by omega
        have u2 : ¬ (j : Int) < 0 := by omega
        obtain ⟨k, hk⟩ : ∃ k, j = 0 + k := ⟨j - 0, by omega⟩
        have hkd : k < d.length := by have := HM0.out; omega
        have hg := Hh.out.get k hkd
        obtain ⟨g1, g2⟩ := Hh.out.dig k hkd
        obtain ⟨c, hc⟩ : ∃ c, (d[k]'hkd).toNat = c := ⟨_, rfl⟩
        rw [hc] at g1 g2
        have hgj : ∀ h, (s[j]'h).toNat = c := by
          intro h
          subst hk
          rw [← hc]
          exact hg h
        have hM := HM.out wr k (c - 48) _ (by rw [show k = j - 0 by omega]; exact hx) (by omega)
        have hnx : natT (d.take k) * 10 + (c - 48) = natT (d.take (j + 1 - 0)) := by
          rw [show j + 1 - 0 = k + 1 by omega, natT_next hkd, hc]
        rw [hnx] at hM
        have e1 : ((c - 48 : Nat) : Int) = (c : Int) - 48 := by omega
        rw [e1] at hM
        have HMM := Lib.hid hM
        have v1 : ((c : Int) == 95) = false := by
          have : ¬ (c : Int) = 95 := by omega
          simpa using this
        have v2 : (48 : Int) ≤ (c : Int) := by omega
        have v3 : (c : Int) ≤ 57 := by omega
        have v4 : ¬ (10 : Int) ≤ (c : Int) - 48 := by omega
        clear hx hb hM hnx hg hc hk hkd
        go_wp2_with fail
        refine HMM.out.mono ?_
        clear HMM
        rintro e w6 ⟨v6, rfl, hv6, hb6⟩
        have HF := Lib.hid fun (z : Int) (hz : z = (j : Int) + 1 - 0) => (show SetI w 0 M d (.int .i64 ((j : Int) + 1)) (.int .i64 z) (.int .u8 48) (.bool false) v6 w6 from ⟨j + 1, by go_num, congrArg (Value.int .i64) (by omega), rfl, by rw [if_neg (by omega)], by omega, by omega, hv6, below_next Hb.out hb6⟩)
        clear hv6 hb6
        go_wp2_with fail
        exact ⟨HF.out _ (by omega), by simp [intOf]; omega⟩
      · obtain rfl : j = N := by omega
        have u1 : ¬ (j : Int) < (j : Int) := by omega
        have hjs : ¬ j = 0 := by omega
        rw [if_neg hjs]
        have hx2 : NatAt wr wr.heap.size (natT d) (.slice ax mx cx) := by
          rw [show j - 0 = d.length by have := HM0.out; omega, List.take_length] at hx
          exact hx
        rw [show j - 0 = d.length by have := HM0.out; omega, List.take_length] at hmx
        have HF := Lib.hid (HE.out wr _ hb hx2)
        obtain ⟨p0, p1, p2, p3⟩ := of_block2 ((hb.block zb hzb).trans Hzc.out)
        have v0 : (((j : Int) - 0) == 0) = false := by
          have : ¬ ((j : Int) - 0) = 0 := by omega
          simpa using this
        clear hx hb hx2
        go_wp2_with fail
        go_ret2
        exact HF.out
theorem setString_any (w : World) (zb : Nat) (z0 : Int) (l : List UInt8) (hz : IntIn w w.heap.size z0 zb) (h : WholeT l) (hn : l.length ≤ 1000000) (hx : (wholeN l).natAbs < xMax) :
    Calls Tryz.prog 103 #[.pointer (some ⟨zb, 0, none⟩), .string (strL l), .int .i64 10] w (SetP w zb (wholeN l)) := by
  obtain ⟨st, d, h1, h2, h3, _⟩ := whole_digs h
  rw [h2, num_abs] at hx
  rw [h2]
  exact setString_core w zb st z0 (strL l) d hz h1 (by rw [strL_size]; exact hn) hx h3
end Go.Proofs.YtfgjaoejcbldoaaGreatDoor

namespace Go.Proofs.YtfgjaoejcbldoaaGreatDoor
open Go Go.RowKit Go.Deep
/-- The iterator at block b stands at place p. -/
def setIter (w : World) (b : Nat) (s : ByteArray) (p : Nat) : World := { w with heap := w.heap.setIfInBounds b (.stringIter s p) }
theorem next_at {P : Program} (w : World) (b : Nat) (s : ByteArray) (pos : Nat) (hb : w.heap[b]? = some (.stringIter s pos)) (h : pos < s.size) (ha : (s[pos]'h).toNat < 128) (ty : TypeId) :
    (Instr.next (.pointer (some ⟨b, 0, none⟩)) true ty).run P w = .ok (.tuple #[.bool true, .int .i64 pos, .int .i32 (s[pos]'h).toNat]) (setIter w b s (pos + 1)) := by
  simp only [Instr.next, getObj, setObj, Sem.run_bind, Sem.run, hb, Result.andThen, h, if_true, decode_ascii s pos h ha]
  simp [goInt, setIter]
theorem next_end {P : Program} (w : World) (b : Nat) (s : ByteArray) (pos : Nat) (hb : w.heap[b]? = some (.stringIter s pos)) (h : ¬ pos < s.size) (ty : TypeId) :
    (Instr.next (.pointer (some ⟨b, 0, none⟩)) true ty).run P w = .ok (.tuple #[.bool false]) w := by
  simp [Instr.next, getObj, Sem.run, hb, h]
theorem setIter_at {w : World} {b : Nat} (s : ByteArray) (p : Nat) (h : b < w.heap.size) : (setIter w b s p).heap[b]? = some (.stringIter s p) := by
  simp [setIter, h]
theorem setIter_other {w : World} {b k : Nat} (s : ByteArray) (p : Nat) (h : k ≠ b) : (setIter w b s p).heap[k]? = w.heap[k]? := by
  have h' : b ≠ k := fun e => h e.symm
  simp [setIter, h']
theorem setIter_below {B b : Nat} {w0 w : World} (h : Below B w0 w) (hb : B ≤ b) (s : ByteArray) (p : Nat) : Below B w0 (setIter w b s p) :=
  h.trans ⟨rfl, rfl, rfl, by simp [setIter], fun k hk => setIter_other s p (by omega)⟩
theorem setIter_size (w : World) (b : Nat) (s : ByteArray) (p : Nat) : (setIter w b s p).heap.size = w.heap.size := by simp [setIter]
def iterPos (w : World) (b : Nat) : Nat := match w.heap[b]? with
  | some (.stringIter _ p) => p
  | _ => 0
theorem iterPos_of {w : World} {b p : Nat} {s : ByteArray} (h : w.heap[b]? = some (.stringIter s p)) : iterPos w b = p := by simp [iterPos, h]
theorem iter_bel (w : World) (s : ByteArray) (p : Nat) : Below w.heap.size w (w.iter s p) := below_alloc1 w _
def OutI (w : World) (s : ByteArray) (wr : World) : Prop := ∃ pos, wr.heap[w.heap.size]? = some (.stringIter s pos) ∧ pos ≤ s.size ∧ Below w.heap.size w wr
def InnI (w : World) (s : ByteArray) (pos b : Nat) (wr : World) : Prop := ∃ q, wr.heap[b]? = some (.stringIter { data := #[46, 101, 69] } q) ∧ q ≤ 3 ∧ wr.heap[w.heap.size]? = some (.stringIter s pos) ∧ Below w.heap.size w wr
set_option maxHeartbeats 4000000 in
set_option maxRecDepth 100000 in
theorem indexAny_any (w : World) (s : ByteArray) (hs : ∀ i (h : i < s.size), (s[i]'h).toNat < 128 ∧ (s[i]'h).toNat ≠ 46 ∧ (s[i]'h).toNat ≠ 101 ∧ (s[i]'h).toNat ≠ 69) :
    Calls Tryz.prog 139 #[.string s, .string { data := #[46, 101, 69] }] w (fun e w' => e = .returned (.int .i64 (-1)) ∧ Below w.heap.size w w') := by
  have Hs := Lib.hid hs
  have hst : OutI w s (w.iter s 0) := ⟨0, World.iter_heap _ _ _, Nat.zero_le _, iter_bel _ _ _⟩
  have Hst := Lib.hid hst
  clear hs hst
  go_enter Tryz.func139, Tryz.ntmps139
  go_wp2_with fail
  go_loopw [5, 6, 8] (fun _ _ _ wr => OutI w s wr) (fun _ _ _ wr => s.size - iterPos wr w.heap.size)
  case atStart => exact Hst.out
  case round =>
    obtain ⟨pos, hit, hps, hb⟩ := hrel
    have hip := iterPos_of hit
    have Hb := Lib.hid hb
    have Hit := Lib.hid hit
    by_cases hp : pos < s.size
    · obtain ⟨h1, h2, h3, h4⟩ := Hs.out pos hp
      have hnx := next_at (P := Tryz.prog) wr w.heap.size s pos hit hp h1
      obtain ⟨c, hc⟩ : ∃ c, (s[pos]'hp).toNat = c := ⟨_, rfl⟩
      rw [hc] at h2 h3 h4
      rw [hc] at hnx
      have hbz := hb.size
      have hlt : w.heap.size < wr.heap.size := (Array.getElem?_eq_some_iff.1 hit).1
      have hz : (setIter wr w.heap.size s (pos + 1)).heap.size = wr.heap.size := setIter_size _ _ _ _
      have hin : InnI w s (pos + 1) wr.heap.size ((setIter wr w.heap.size s (pos + 1)).iter { data := #[46, 101, 69] } 0) :=
        ⟨0, by rw [← hz]; exact World.iter_heap _ _ _, by omega, by rw [show ((setIter wr w.heap.size s (pos + 1)).iter { data := #[46, 101, 69] } 0).heap[w.heap.size]? = (setIter wr w.heap.size s (pos + 1)).heap[w.heap.size]? from heap_alloc_old _ _ (by rw [hz]; exact hlt)]; exact setIter_at _ _ hlt, (setIter_below hb (Nat.le_refl _) _ _).trans ((iter_bel _ _ _).mono (by rw [hz]; exact hbz))⟩
      have Hin := Lib.hid hin
      rw [← hz] at Hin
      have v1 : ((c : Int) == 46) = false := by
        have : ¬ (c : Int) = 46 := by omega
        simpa using this
      have v2 : ((c : Int) == 101) = false := by
        have : ¬ (c : Int) = 101 := by omega
        simpa using this
      have v3 : ((c : Int) == 69) = false := by
        have : ¬ (c : Int) = 69 := by omega
        simpa using this
      obtain ⟨wn, hwn⟩ : ∃ wn, setIter wr w.heap.size s (pos + 1) = wn := ⟨_, rfl⟩
      rw [hwn] at hnx Hin hz
      have hwl : w.heap.size < wn.heap.size := by rw [hz]; exact hlt
      clear hin hit hb h1 hc hwn hz
      go_wp2_with fail
      go_loopw [8] (fun _ wr => InnI w s (pos + 1) wn.heap.size wr) (fun _ wr => 3 - iterPos wr wn.heap.size)
      case atStart => exact Hin.out
      case round =>
        obtain ⟨q, hq, hq3, hit, hb⟩ := hrel
        have hiq := iterPos_of hq
        have hqlt : wn.heap.size < wr.heap.size := (Array.getElem?_eq_some_iff.1 hq).1
        by_cases hq4 : q < 3
        · have HF := Lib.hid (show InnI w s (pos + 1) wn.heap.size (setIter wr wn.heap.size { data := #[46, 101, 69] } (q + 1)) from
            ⟨q + 1, setIter_at _ _ hqlt, hq4, by rw [setIter_other _ _ (by omega)]; exact hit, setIter_below hb (Nat.le_of_lt hwl) _ _⟩)
          have hmq : iterPos (setIter wr wn.heap.size { data := #[46, 101, 69] } (q + 1)) wn.heap.size = q + 1 := iterPos_of (setIter_at _ _ hqlt)
          have Hmq := Lib.hid hmq
          have Hiq := Lib.hid hiq
          have : q = 0 ∨ q = 1 ∨ q = 2 := by omega
          rcases this with rfl | rfl | rfl
          · have hnx2 : ∀ ty, (Instr.next (.pointer (some ⟨wn.heap.size, 0, none⟩)) true ty).run Tryz.prog wr = .ok (.tuple #[.bool true, .int .i64 0, .int .i32 46]) (setIter wr wn.heap.size { data := #[46, 101, 69] } (0 + 1)) := next_at (P := Tryz.prog) wr wn.heap.size _ 0 hq (by decide) (by decide)
            clear hq hit hb hmq hiq hnx
            go_wp2_with fail
            exact ⟨HF.out, by rw [Hmq.out, Hiq.out]; omega⟩
          · have hnx2 : ∀ ty, (Instr.next (.pointer (some ⟨wn.heap.size, 0, none⟩)) true ty).run Tryz.prog wr = .ok (.tuple #[.bool true, .int .i64 1, .int .i32 101]) (setIter wr wn.heap.size { data := #[46, 101, 69] } (1 + 1)) := next_at (P := Tryz.prog) wr wn.heap.size _ 1 hq (by decide) (by decide)
            clear hq hit hb hmq hiq hnx
            go_wp2_with fail
            exact ⟨HF.out, by rw [Hmq.out, Hiq.out]; omega⟩
          · have hnx2 : ∀ ty, (Instr.next (.pointer (some ⟨wn.heap.size, 0, none⟩)) true ty).run Tryz.prog wr = .ok (.tuple #[.bool true, .int .i64 2, .int .i32 69]) (setIter wr wn.heap.size { data := #[46, 101, 69] } (2 + 1)) := next_at (P := Tryz.prog) wr wn.heap.size _ 2 hq (by decide) (by decide)
            clear hq hit hb hmq hiq hnx
            go_wp2_with fail
            exact ⟨HF.out, by rw [Hmq.out, Hiq.out]; omega⟩
        · obtain rfl : q = 3 := by omega
          have hnx2 := next_end (P := Tryz.prog) wr wn.heap.size _ 3 hq (by decide)
          have HF := Lib.hid (show OutI w s wr from ⟨pos + 1, hit, hp, hb⟩)
          have Hm2 := Lib.hid (iterPos_of hit)
          clear hq hit hb hiq hnx
          go_wp2_with fail
          exact ⟨HF.out, by rw [Hm2.out, hip]; omega⟩
    · have hnx := next_end (P := Tryz.prog) wr w.heap.size s pos hit hp
      clear hit hb
      go_wp2_with fail
      go_ret
      exact ⟨rfl, Hb.out⟩
set_option maxHeartbeats 4000000 in
set_option maxRecDepth 100000 in
theorem containsAny_any (w : World) (l : List UInt8) (h : WholeT l) :
    Calls Tryz.prog 101 #[.string (strL l), .string { data := #[46, 101, 69] }] w (fun e w' => e = .returned (.bool false) ∧ Below w.heap.size w w') := by
  obtain ⟨st, d, ⟨q1, q2, q3, q4, q5, q6⟩, _⟩ := whole_digs h
  have HI := Lib.hid (indexAny_any w (strL l) (fun i hi => by
    rcases Nat.lt_or_ge i st with h1 | h1
    · obtain rfl : st = 1 := by omega
      obtain rfl : i = 0 := by omega
      rw [q4 rfl hi]
      decide
    · obtain ⟨k, rfl⟩ : ∃ k, i = st + k := ⟨i - st, by omega⟩
      have hk : k < d.length := by omega
      rw [q3 k hk hi]
      have := q5 k hk
      omega))
  generalize strL l = s at *
  clear q1 q2 q3 q4 q5 q6
  go_enter Tryz.func101, Tryz.ntmps101
  go_wp2_with fail
  refine HI.out.mono ?_
  rintro e w1 ⟨rfl, hb⟩
  have HB := Lib.hid hb
  clear hb
  go_wp2_with fail
  go_ret
  exact ⟨rfl, HB.out⟩
end Go.Proofs.YtfgjaoejcbldoaaGreatDoor
