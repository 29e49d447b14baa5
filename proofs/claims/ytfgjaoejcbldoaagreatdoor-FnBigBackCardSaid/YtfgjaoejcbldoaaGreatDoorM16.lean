/- Contracts of gojq.binopTypeSwitch[any] at ints and *big.Int (printed by wip/gen_binb.py), and of the operators + - * / over it. -/
/- Contracts of impl's isDigits, bigToGo, bigFromGo. -/
/- Contracts of spec's below, digitsOf, IsWhole at any text; laws.wide at two. -/
/- Contracts of impl's bigFromGo, BigAdd, BigSub, BigMul, BigDiv. -/
import Derived.Test.YtfgjaoejcbldoaaGreatDoorM15
import Derived.Test.YtfgjaoejcbldoaaGreatDoorM01
namespace Go.Proofs.YtfgjaoejcbldoaaGreatDoor
open Go Go.RowKit Go.Deep
attribute [local go_sem] assert_jsonNumber assert_jsonNumber_nil assert_int assert_int_nil assert_float64 assert_float64_nil assert_pbigInt assert_pbigInt_nil assert_string assert_string_nil assert_sl assert_sl_nil assert_m assert_m_nil assert_bool assert_bool_nil
set_option maxHeartbeats 4000000 in
set_option maxRecDepth 100000 in
theorem num_ii (f1 f2 f3 f4 f5 f6 f7 : Nat) (w : World) (z : Int) (l r : Int) (en : EntersF f1) (h : Calls Tryz.prog f1 #[.int .i64 l, .int .i64 r] w (Ret (NumP w z))) :
    Calls Tryz.prog 30 #[.iface 3 (.int .i64 l), .iface 3 (.int .i64 r), .func (.func f1) #[] #[], .func (.func f2) #[] #[], .func (.func f3) #[] #[], .func (.func f4) #[] #[], .func (.func f5) #[] #[], .func (.func f6) #[] #[], .func (.func f7) #[] #[]] w (Ret (NumP w z)) := by
  unfold EntersF at en
  have H := Lib.hid h
  clear h
  go_enter Tryz.func30, Tryz.ntmps30
  go_wp2_with fail
  refine H.out.mono ?_
  rintro e w2 ⟨v, rfl, hR⟩
  have HF := Lib.hid (show Ret (NumP w z) (.returned v) w2 from ⟨_, rfl, hR⟩)
  clear hR
  go_wp2_with fail
  go_ret
  exact HF.out
set_option maxHeartbeats 4000000 in
set_option maxRecDepth 100000 in
theorem num_bb (f1 f2 f3 f4 f5 f6 f7 : Nat) (w : World) (z : Int) (l r : Nat) (en : EntersF f3) (h : Calls Tryz.prog f3 #[.pointer (some ⟨l, 0, none⟩), .pointer (some ⟨r, 0, none⟩)] w (Ret (NumP w z))) :
    Calls Tryz.prog 30 #[.iface 39 (.pointer (some ⟨l, 0, none⟩)), .iface 39 (.pointer (some ⟨r, 0, none⟩)), .func (.func f1) #[] #[], .func (.func f2) #[] #[], .func (.func f3) #[] #[], .func (.func f4) #[] #[], .func (.func f5) #[] #[], .func (.func f6) #[] #[], .func (.func f7) #[] #[]] w (Ret (NumP w z)) := by
  unfold EntersF at en
  have H := Lib.hid h
  clear h
  go_enter Tryz.func30, Tryz.ntmps30
  go_wp2_with fail
  refine H.out.mono ?_
  rintro e w2 ⟨v, rfl, hR⟩
  have HF := Lib.hid (show Ret (NumP w z) (.returned v) w2 from ⟨_, rfl, hR⟩)
  clear hR
  go_wp2_with fail
  go_ret
  exact HF.out
set_option maxHeartbeats 4000000 in
set_option maxRecDepth 100000 in
theorem num_ib (f1 f2 f3 f4 f5 f6 f7 : Nat) (w : World) (z : Int) (l : Int) (r : Nat) (en : EntersF f3) (hI : I64 l) (h : ∀ w1, IntIn w1 w1.heap.size l w.heap.size → Below w.heap.size w w1 → Calls Tryz.prog f3 #[.pointer (some ⟨w.heap.size, 0, none⟩), .pointer (some ⟨r, 0, none⟩)] w1 (Ret (NumP w1 z))) :
    Calls Tryz.prog 30 #[.iface 3 (.int .i64 l), .iface 39 (.pointer (some ⟨r, 0, none⟩)), .func (.func f1) #[] #[], .func (.func f2) #[] #[], .func (.func f3) #[] #[], .func (.func f4) #[] #[], .func (.func f5) #[] #[], .func (.func f6) #[] #[], .func (.func f7) #[] #[]] w (Ret (NumP w z)) := by
  unfold EntersF at en
  have H := Lib.hid h
  have HN := Lib.hid (newInt_any w l hI)
  clear h
  go_enter Tryz.func30, Tryz.ntmps30
  go_wp2_with fail
  refine HN.out.mono ?_
  rintro e w1 ⟨rfl, h1, h2⟩
  have hC := H.out w1 h1 h2
  have H2 := Lib.hid h2
  clear h1 h2
  go_wp2_with fail
  refine hC.mono ?_
  rintro e w2 ⟨v, rfl, hR⟩
  have HF := Lib.hid (show Ret (NumP w z) (.returned v) w2 from ⟨_, rfl, ⟨hR.1, below_next H2.out hR.2⟩⟩)
  clear hR
  go_wp2_with fail
  go_ret
  exact HF.out
set_option maxHeartbeats 4000000 in
set_option maxRecDepth 100000 in
theorem num_bi (f1 f2 f3 f4 f5 f6 f7 : Nat) (w : World) (z : Int) (l : Nat) (r : Int) (en : EntersF f3) (hI : I64 r) (h : ∀ w1, IntIn w1 w1.heap.size r w.heap.size → Below w.heap.size w w1 → Calls Tryz.prog f3 #[.pointer (some ⟨l, 0, none⟩), .pointer (some ⟨w.heap.size, 0, none⟩)] w1 (Ret (NumP w1 z))) :
    Calls Tryz.prog 30 #[.iface 39 (.pointer (some ⟨l, 0, none⟩)), .iface 3 (.int .i64 r), .func (.func f1) #[] #[], .func (.func f2) #[] #[], .func (.func f3) #[] #[], .func (.func f4) #[] #[], .func (.func f5) #[] #[], .func (.func f6) #[] #[], .func (.func f7) #[] #[]] w (Ret (NumP w z)) := by
  unfold EntersF at en
  have H := Lib.hid h
  have HN := Lib.hid (newInt_any w r hI)
  clear h
  go_enter Tryz.func30, Tryz.ntmps30
  go_wp2_with fail
  refine HN.out.mono ?_
  rintro e w1 ⟨rfl, h1, h2⟩
  have hC := H.out w1 h1 h2
  have H2 := Lib.hid h2
  clear h1 h2
  go_wp2_with fail
  refine hC.mono ?_
  rintro e w2 ⟨v, rfl, hR⟩
  have HF := Lib.hid (show Ret (NumP w z) (.returned v) w2 from ⟨_, rfl, ⟨hR.1, below_next H2.out hR.2⟩⟩)
  clear hR
  go_wp2_with fail
  go_ret
  exact HF.out
theorem num_any (f1 f2 f3 f4 f5 f6 f7 : Nat) (en1 : EntersF f1) (en3 : EntersF f3) (w : World) (z l r : Int) (vl vr : Value) (hl : NumAt w w.heap.size l vl) (hr : NumAt w w.heap.size r vr)
    (hI : I64 l → I64 r → Calls Tryz.prog f1 #[.int .i64 l, .int .i64 r] w (Ret (NumP w z)))
    (hB : ∀ w1 xb yb, IntIn w1 w1.heap.size l xb → IntIn w1 w1.heap.size r yb → Calls Tryz.prog f3 #[.pointer (some ⟨xb, 0, none⟩), .pointer (some ⟨yb, 0, none⟩)] w1 (Ret (NumP w1 z))) :
    Calls Tryz.prog 30 #[vl, vr, .func (.func f1) #[] #[], .func (.func f2) #[] #[], .func (.func f3) #[] #[], .func (.func f4) #[] #[], .func (.func f5) #[] #[], .func (.func f6) #[] #[], .func (.func f7) #[] #[]] w (Ret (NumP w z)) := by
  rcases hl with ⟨rfl, h1⟩ | ⟨xb, rfl, h1⟩ <;> rcases hr with ⟨rfl, h2⟩ | ⟨yb, rfl, h2⟩
  · exact num_ii f1 f2 f3 f4 f5 f6 f7 w z l r en1 (hI h1 h2)
  · exact num_ib f1 f2 f3 f4 f5 f6 f7 w z l yb en3 h1 fun w1 h3 h4 => hB w1 _ _ h3 (h2.carry h4 h4.size)
  · exact num_bi f1 f2 f3 f4 f5 f6 f7 w z xb r en3 h2 fun w1 h3 h4 => hB w1 _ _ (h1.carry h4 h4.size) h3
  · exact num_bb f1 f2 f3 f4 f5 f6 f7 w z xb yb en3 (hB w _ _ h1 h2)
set_option maxHeartbeats 4000000 in
set_option maxRecDepth 100000 in
theorem opAdd_any (w : World) (l r : Int) (vl vr : Value) (hl : NumAt w w.heap.size l vl) (hr : NumAt w w.heap.size r vr) (bl : l.natAbs < xMax) (br : r.natAbs < xMax) :
    Calls Tryz.prog 13 #[vl, vr] w (Ret (NumP w (l + r))) := by
  have HN := Lib.hid (num_any 31 34 35 36 37 38 40 (by intro args w; rfl) (by intro args w; rfl) w (l + r) l r vl vr hl hr (fun h1 h2 => addI_any w l r h1 h2) (fun w1 xb yb h1 h2 => addB_any w1 xb yb l r h1 h2 bl br))
  obtain ⟨tl, ul, rfl⟩ : ∃ t u, vl = .iface t u := by
    rcases hl with ⟨e, _⟩ | ⟨b, e, _⟩
    · exact ⟨_, _, e⟩
    · exact ⟨_, _, e⟩
  obtain ⟨tr, ur, rfl⟩ : ∃ t u, vr = .iface t u := by
    rcases hr with ⟨e, _⟩ | ⟨b, e, _⟩
    · exact ⟨_, _, e⟩
    · exact ⟨_, _, e⟩
  clear hl hr
  generalize (l + r) = z at *
  have HO : Hid (Calls Tryz.prog 22 #[.nilIface, .iface tl ul, .iface tr ur] w (Ret (NumP w z))) := by
    refine Lib.hid ?_
    go_enter Tryz.func22, Tryz.ntmps22
    go_wp2_with fail
    refine HN.out.mono ?_
    rintro e w1 ⟨v, rfl, hv⟩
    have HF := Lib.hid (show Ret (NumP w z) (.returned v) w1 from ⟨_, rfl, hv⟩)
    clear hv
    go_wp2_with fail
    go_ret
    exact HF.out
  go_enter Tryz.func13, Tryz.ntmps13
  go_wp2_with fail
  refine HO.out.mono ?_
  rintro e w1 ⟨v, rfl, hv⟩
  have HF := Lib.hid (show Ret (NumP w z) (.returned v) w1 from ⟨_, rfl, hv⟩)
  clear hv
  go_wp2_with fail
  go_ret
  exact HF.out
set_option maxHeartbeats 4000000 in
set_option maxRecDepth 100000 in
theorem opSub_any (w : World) (l r : Int) (vl vr : Value) (hl : NumAt w w.heap.size l vl) (hr : NumAt w w.heap.size r vr) (bl : l.natAbs < xMax) (br : r.natAbs < xMax) :
    Calls Tryz.prog 15 #[vl, vr] w (Ret (NumP w (l - r))) := by
  have HN := Lib.hid (num_any 52 54 55 56 57 59 60 (by intro args w; rfl) (by intro args w; rfl) w (l - r) l r vl vr hl hr (fun h1 h2 => subI_any w l r h1 h2) (fun w1 xb yb h1 h2 => subB_any w1 xb yb l r h1 h2 bl br))
  obtain ⟨tl, ul, rfl⟩ : ∃ t u, vl = .iface t u := by
    rcases hl with ⟨e, _⟩ | ⟨b, e, _⟩
    · exact ⟨_, _, e⟩
    · exact ⟨_, _, e⟩
  obtain ⟨tr, ur, rfl⟩ : ∃ t u, vr = .iface t u := by
    rcases hr with ⟨e, _⟩ | ⟨b, e, _⟩
    · exact ⟨_, _, e⟩
    · exact ⟨_, _, e⟩
  clear hl hr
  generalize (l - r) = z at *
  have HO : Hid (Calls Tryz.prog 24 #[.nilIface, .iface tl ul, .iface tr ur] w (Ret (NumP w z))) := by
    refine Lib.hid ?_
    go_enter Tryz.func24, Tryz.ntmps24
    go_wp2_with fail
    refine HN.out.mono ?_
    rintro e w1 ⟨v, rfl, hv⟩
    have HF := Lib.hid (show Ret (NumP w z) (.returned v) w1 from ⟨_, rfl, hv⟩)
    clear hv
    go_wp2_with fail
    go_ret
    exact HF.out
  go_enter Tryz.func15, Tryz.ntmps15
  go_wp2_with fail
  refine HO.out.mono ?_
  rintro e w1 ⟨v, rfl, hv⟩
  have HF := Lib.hid (show Ret (NumP w z) (.returned v) w1 from ⟨_, rfl, hv⟩)
  clear hv
  go_wp2_with fail
  go_ret
  exact HF.out
set_option maxHeartbeats 4000000 in
set_option maxRecDepth 100000 in
theorem opMul_any (w : World) (l r : Int) (vl vr : Value) (hl : NumAt w w.heap.size l vl) (hr : NumAt w w.heap.size r vr) (bl : l.natAbs < xMax) (br : r.natAbs < xMax) :
    Calls Tryz.prog 14 #[vl, vr] w (Ret (NumP w (l * r))) := by
  have HN := Lib.hid (num_any 41 44 45 46 47 48 49 (by intro args w; rfl) (by intro args w; rfl) w (l * r) l r vl vr hl hr (fun h1 h2 => mulI_any w l r h1 h2) (fun w1 xb yb h1 h2 => mulB_any w1 xb yb l r h1 h2 bl br))
  obtain ⟨tl, ul, rfl⟩ : ∃ t u, vl = .iface t u := by
    rcases hl with ⟨e, _⟩ | ⟨b, e, _⟩
    · exact ⟨_, _, e⟩
    · exact ⟨_, _, e⟩
  obtain ⟨tr, ur, rfl⟩ : ∃ t u, vr = .iface t u := by
    rcases hr with ⟨e, _⟩ | ⟨b, e, _⟩
    · exact ⟨_, _, e⟩
    · exact ⟨_, _, e⟩
  clear hl hr
  generalize (l * r) = z at *
  have HO : Hid (Calls Tryz.prog 23 #[.nilIface, .iface tl ul, .iface tr ur] w (Ret (NumP w z))) := by
    refine Lib.hid ?_
    go_enter Tryz.func23, Tryz.ntmps23
    go_wp2_with fail
    refine HN.out.mono ?_
    rintro e w1 ⟨v, rfl, hv⟩
    have HF := Lib.hid (show Ret (NumP w z) (.returned v) w1 from ⟨_, rfl, hv⟩)
    clear hv
    go_wp2_with fail
    go_ret
    exact HF.out
  go_enter Tryz.func14, Tryz.ntmps14
  go_wp2_with fail
  refine HO.out.mono ?_
  rintro e w1 ⟨v, rfl, hv⟩
  have HF := Lib.hid (show Ret (NumP w z) (.returned v) w1 from ⟨_, rfl, hv⟩)
  clear hv
  go_wp2_with fail
  go_ret
  exact HF.out
theorem natAbs_dvd {l r : Int} (h : l.tmod r = 0) : r.natAbs ∣ l.natAbs := Int.natAbs_dvd_natAbs.2 (Int.dvd_of_tmod_eq_zero h)
set_option maxHeartbeats 4000000 in
set_option maxRecDepth 100000 in
theorem opDiv_any (w : World) (l r : Int) (vl vr : Value) (hl : NumAt w w.heap.size l vl) (hr : NumAt w w.heap.size r vr) (bl : l.natAbs < xMax) (h0 : r ≠ 0) (hd : l.tmod r = 0) :
    Calls Tryz.prog 16 #[vl, vr] w (Ret (NumP w (l.tdiv r))) := by
  have HN := Lib.hid (num_any 61 62 63 67 69 70 71 (by intro args w; rfl) (by intro args w; rfl) w (l.tdiv r) l r vl vr hl hr (fun h1 _ => divI_any w l r h1 h0 hd) (fun w1 xb yb h1 h2 => divB_any w1 xb yb l r h1 h2 bl h0 (natAbs_dvd hd)))
  obtain ⟨tl, ul, rfl⟩ : ∃ t u, vl = .iface t u := by
    rcases hl with ⟨e, _⟩ | ⟨b, e, _⟩
    · exact ⟨_, _, e⟩
    · exact ⟨_, _, e⟩
  obtain ⟨tr, ur, rfl⟩ : ∃ t u, vr = .iface t u := by
    rcases hr with ⟨e, _⟩ | ⟨b, e, _⟩
    · exact ⟨_, _, e⟩
    · exact ⟨_, _, e⟩
  clear hl hr
  generalize (l.tdiv r) = z at *
  have HO : Hid (Calls Tryz.prog 25 #[.nilIface, .iface tl ul, .iface tr ur] w (Ret (NumP w z))) := by
    refine Lib.hid ?_
    go_enter Tryz.func25, Tryz.ntmps25
    go_wp2_with fail
    refine HN.out.mono ?_
    rintro e w1 ⟨v, rfl, hv⟩
    have HF := Lib.hid (show Ret (NumP w z) (.returned v) w1 from ⟨_, rfl, hv⟩)
    clear hv
    go_wp2_with fail
    go_ret
    exact HF.out
  go_enter Tryz.func16, Tryz.ntmps16
  go_wp2_with fail
  refine HO.out.mono ?_
  rintro e w1 ⟨v, rfl, hv⟩
  have HF := Lib.hid (show Ret (NumP w z) (.returned v) w1 from ⟨_, rfl, hv⟩)
  clear hv
  go_wp2_with fail
  go_ret
  exact HF.out
end Go.Proofs.YtfgjaoejcbldoaaGreatDoor

namespace Go.Proofs.YtfgjaoejcbldoaaGreatDoor
open Go Go.RowKit Go.Deep
theorem strL_list (l : List UInt8) : (strL l).toList = l := by rw [ByteArray.toList_eq]; rfl
set_option maxHeartbeats 4000000 in
set_option maxRecDepth 100000 in
theorem isDigits_any (w : World) (d : List UInt8) (h : DigsT d) (hn : d.length ≤ 1000000) : Calls Tryz.prog 18 #[.string (strL d)] w (fun e w' => e = .returned (.bool true) ∧ w' = w) := by
  obtain ⟨h1, h2, h3⟩ := h
  have hsz := strL_size d
  have hli := strL_list d
  have hpos : 0 < d.length := List.length_pos_iff.2 h1
  have hg : ∀ i (hi : i < (strL d).size), 48 ≤ ((strL d)[i]'hi).toNat ∧ ((strL d)[i]'hi).toNat ≤ 57 := fun i hi => h2 _ (List.getElem_mem (by rw [hsz] at hi; exact hi))
  have hfin : d = [48] ∨ (d ≠ [48] ∧ ∀ h0 : 0 < (strL d).size, ((strL d)[0]'h0).toNat ≠ 48) := by
    by_cases e : d = [48]
    · exact .inl e
    · refine .inr ⟨e, fun h0 hc => e ?_⟩
      cases d with
      | nil => exact absurd rfl h1
      | cons a r =>
        have ha : a = 48 := by
          have : a.toNat = 48 := hc
          rw [← UInt8.ofNat_toNat (x := a), this]
          rfl
        subst ha
        have := h3 rfl
        have hr : r = [] := by simpa using this
        rw [hr]
  have Hg := Lib.hid hg
  have Hf := Lib.hid hfin
  have Hl := Lib.hid hli
  obtain ⟨N, hN⟩ : ∃ N, d.length = N := ⟨_, rfl⟩
  rw [hN] at hsz hpos hn
  have HN := Lib.hid (show 0 < d.length by omega)
  generalize strL d = s at *
  clear h1 h2 h3 hg hfin hN hli
  go_enter Tryz.func18, Tryz.ntmps18
  go_wp2_with fail
  go_loopw [3, 6] (fun _ vi wr => wr = w ∧ ∃ i : Nat, vi = .int .i64 i ∧ i ≤ N) (fun _ vi _ => N - (intOf vi).toNat)
  case atStart => exact ⟨rfl, 0, by go_num, Nat.zero_le _⟩
  case round =>
    obtain ⟨hw, i, rfl, hi⟩ := hrel
    have Hw := Lib.hid hw
    clear hw
    by_cases hin : i < N
    · have u1 : (i : Int) < (N : Int) := by omega
      have u2 : ¬ (i : Int) < 0 := by omega
      obtain ⟨g1, g2⟩ := Hg.out i (by omega)
      have hgi : ∀ h, ∃ c, (s[i]'h).toNat = c := fun h => ⟨_, rfl⟩
      obtain ⟨c, hc⟩ : ∃ c, (s[i]'(by omega)).toNat = c := ⟨_, rfl⟩
      rw [hc] at g1 g2
      have hgj : ∀ h, (s[i]'h).toNat = c := fun _ => hc
      have v1 : ¬ (c : Int) < 48 := by omega
      have v2 : ¬ (57 : Int) < (c : Int) := by omega
      clear hgi hc
      go_wp2_with fail
      exact ⟨⟨Hw.out, i + 1, by go_num, by omega⟩, by simp [intOf]; omega⟩
    · have u1 : ¬ (i : Int) < (N : Int) := by omega
      have b2 : s.toList.isEmpty = false := by
        rw [Hl.out]
        cases d with
        | nil => have := HN.out; simp at this
        | cons a r => rfl
      rcases Hf.out with e | ⟨e, e0⟩
      · have b1 : (s.toList == [48]) = true := by rw [Hl.out, e]; rfl
        clear e
        go_wp2_with fail
        go_ret
        exact ⟨rfl, Hw.out⟩
      · have b1 : (s.toList == [48]) = false := by rw [Hl.out]; exact beq_eq_false_iff_ne.2 e
        obtain ⟨c, hc⟩ : ∃ c, (s[0]'(by omega)).toNat = c := ⟨_, rfl⟩
        have hgj : ∀ h, (s[0]'h).toNat = c := fun _ => hc
        have hc0 : c ≠ 48 := by rw [← hc]; exact e0 _
        have b3 : ((c : Int) != 48) = true := by
          have : (c : Int) ≠ 48 := by omega
          simpa using this
        clear e e0 hc hc0
        go_wp2_with fail
        go_ret
        exact ⟨rfl, Hw.out⟩
/-- How bigToGo answers. -/
def ToP (w : World) (z : Int) (e : Ending) (w' : World) : Prop := ∃ v, e = .returned (.tuple #[v, .bool true]) ∧ NumP w z v w'
set_option maxHeartbeats 4000000 in
set_option maxRecDepth 100000 in
theorem bigToGo_any (w : World) (l : List UInt8) (h : WholeT l) (hl : l.length ≤ 1000000) (hx : (wholeN l).natAbs < xMax) (hT : BigTabs w) : Calls Tryz.prog 11 #[.string (strL l)] w (ToP w (wholeN l)) := by
  have HZ := Lib.hid (zzToNumber_any w l h hl hx hT)
  obtain ⟨z, hz⟩ : ∃ z, wholeN l = z := ⟨_, rfl⟩
  rw [hz] at HZ ⊢
  have hli := strL_list l
  have hsz := strL_size l
  have hne : (strL l).toList.isEmpty = false := by
    rw [hli]
    rcases h with ⟨h1, _⟩ | ⟨_, h2, _⟩
    · cases l with
      | nil => simp at h1
      | cons a r => rfl
    · cases l with
      | nil => exact absurd rfl h2
      | cons a r => rfl
  have hway : (∃ d, DigsT d ∧ d.length ≤ 1000000 ∧ ((l = 45 :: d ∧ d ≠ [48]) ∨ (l = d ∧ ∀ h0 : 0 < (strL l).size, ((strL l)[0]'h0).toNat ≠ 45))) := by
    rcases h with ⟨h1, h2, h3⟩ | ⟨h1, h2⟩
    · cases l with
      | nil => simp at h1
      | cons a r =>
        obtain rfl : a = 45 := by simpa using h1
        exact ⟨r, h2, by simp at hl; omega, .inl ⟨rfl, h3⟩⟩
    · refine ⟨l, h2, hl, .inr ⟨rfl, fun h0 hc => h1 ?_⟩⟩
      cases l with
      | nil => exact absurd h0 (by decide)
      | cons a r =>
        have : a.toNat = 45 := hc
        rw [List.head?_cons, ← UInt8.ofNat_toNat (x := a), this]
        rfl
  obtain ⟨d, hd, hdl, hway⟩ := hway
  have hlen : l.length = d.length ∨ l.length = d.length + 1 := by
    rcases hway with ⟨e, _⟩ | ⟨e, _⟩
    · rw [e]; exact .inr rfl
    · rw [e]; exact .inl rfl
  have HD := Lib.hid (isDigits_any w d hd hdl)
  have hpos : 0 < l.length := by
    have : 0 < d.length := List.length_pos_iff.2 hd.1
    omega
  rcases hway with ⟨rfl, hd48⟩ | ⟨rfl, h0⟩
  · have hg0 : ∀ h, (((strL (45 :: d))[0]'h).toNat) = 45 := fun _ => rfl
    have hex : (strL (45 :: d)).extract 1 (d.length + 1) = strL d := by
      refine ByteArray.ext ?_
      rw [ByteArray.data_extract]
      simp [strL]
    have hb : ((strL d).toList == [48]) = false := by rw [strL_list]; exact beq_eq_false_iff_ne.2 hd48
    rw [List.length_cons] at hsz hl
    generalize strL (45 :: d) = s at *
    generalize hsd : strL d = t at *
    generalize d.length = N at *
    clear hlen hpos hd48 hz hx hT h hd hli
    go_enter Tryz.func11, Tryz.ntmps11
    go_wp2_with fail
    refine HD.out.mono ?_
    clear HD
    rintro e w1 ⟨rfl, rfl⟩
    go_wp2_with fail
    refine HZ.out.mono ?_
    rintro e w2 ⟨v, rfl, hv⟩
    have HF := Lib.hid (show ToP w1 z (.returned (.tuple #[v, .bool true])) w2 from ⟨_, rfl, hv⟩)
    clear hv
    go_wp2_with fail
    go_ret2
    exact HF.out
  · obtain ⟨c, hc⟩ : ∃ c, ((strL l)[0]'(by rw [hsz]; exact hpos)).toNat = c := ⟨_, rfl⟩
    have hg0 : ∀ h, (((strL l)[0]'h).toNat) = c := fun _ => hc
    have hc0 : c ≠ 45 := by rw [← hc]; exact h0 _
    have b3 : ((c : Int) == 45) = false := by
      have : ¬ (c : Int) = 45 := by omega
      simpa using this
    have hls : 0 < (strL l).size := by rw [hsz]; exact hpos
    by_cases h48 : l = [48]
    · have b4 : ((strL l).toList == [48]) = true := by rw [hli, h48]; rfl
      generalize strL l = s at *
      clear hlen hpos hz hx hT h hd hli h0 hc hc0 h48 hsz hl hdl
      go_enter Tryz.func11, Tryz.ntmps11
      go_wp2_with fail
      refine HD.out.mono ?_
      clear HD
      rintro e w1 ⟨rfl, rfl⟩
      go_wp2_with fail
      refine HZ.out.mono ?_
      rintro e w2 ⟨v, rfl, hv⟩
      have HF := Lib.hid (show ToP w1 z (.returned (.tuple #[v, .bool true])) w2 from ⟨_, rfl, hv⟩)
      clear hv
      go_wp2_with fail
      go_ret2
      exact HF.out
    · have b4 : ((strL l).toList == [48]) = false := by rw [hli]; exact beq_eq_false_iff_ne.2 h48
      generalize strL l = s at *
      clear hlen hpos hz hx hT h hd hli h0 hc hc0 h48 hsz hl hdl
      go_enter Tryz.func11, Tryz.ntmps11
      go_wp2_with fail
      refine HD.out.mono ?_
      clear HD
      rintro e w1 ⟨rfl, rfl⟩
      go_wp2_with fail
      refine HZ.out.mono ?_
      rintro e w2 ⟨v, rfl, hv⟩
      have HF := Lib.hid (show ToP w1 z (.returned (.tuple #[v, .bool true])) w2 from ⟨_, rfl, hv⟩)
      clear hv
      go_wp2_with fail
      go_ret2
      exact HF.out
end Go.Proofs.YtfgjaoejcbldoaaGreatDoor

namespace Go.Proofs.YtfgjaoejcbldoaaGreatDoor
open Go Go.RowKit Go.Deep
set_option maxHeartbeats 4000000 in
set_option maxRecDepth 100000 in
theorem below_any (w : World) (l : List UInt8) (hn : l.length ≤ 9223372036854775807) : Calls Tryz.prog 26 #[.string (strL l)] w (fun e w' => e = .returned (.bool (decide (l.head? = some 45))) ∧ w' = w) := by
  have hsz := strL_size l
  cases l with
  | nil =>
    have hz : (strL []).size = 0 := rfl
    generalize strL [] = s at *
    clear hsz hn
    go_enter Tryz.func26, Tryz.ntmps26
    go_wp2_with fail
    go_ret
    exact ⟨rfl, rfl⟩
  | cons c r =>
    have hg : ∀ h, ((strL (c :: r))[0]'h).toNat = c.toNat := fun _ => rfl
    have hd : (decide ((c :: r).head? = some 45)) = ((c.toNat : Int) == 45) := by
      by_cases e : c = 45
      · subst e; rfl
      · have h1 : ¬ c.toNat = 45 := fun h => e (by rw [← UInt8.ofNat_toNat (x := c), h]; rfl)
        have h2 : ¬ (c.toNat : Int) = 45 := by omega
        rw [decide_eq_false (by simpa using e)]
        exact (beq_eq_false_iff_ne.2 h2).symm
    rw [hd]
    have hp : 0 < (strL (c :: r)).size := by rw [hsz]; simp
    rw [List.length_cons] at hsz hn
    generalize strL (c :: r) = s at *
    generalize c.toNat = k at *
    generalize r.length = N at *
    clear hd
    go_enter Tryz.func26, Tryz.ntmps26
    go_wp2_with fail
    go_ret
    exact ⟨rfl, rfl⟩
set_option maxHeartbeats 4000000 in
set_option maxRecDepth 100000 in
theorem digitsOf_any (w : World) (l : List UInt8) (hn : l.length ≤ 9223372036854775807) : Calls Tryz.prog 17 #[.string (strL l)] w (fun e w' => e = .returned (.string (strL (bodyT l))) ∧ w' = w) := by
  have HB := Lib.hid (below_any w l hn)
  have hsz := strL_size l
  unfold bodyT
  by_cases h : l.head? = some 45
  · obtain ⟨c, r, rfl⟩ : ∃ c r, l = c :: r := by
      cases l with
      | nil => simp at h
      | cons c r => exact ⟨c, r, rfl⟩
    rw [decide_eq_true h] at HB
    rw [if_pos h]
    have hex : (strL (c :: r)).extract 1 (r.length + 1) = strL (c :: r).tail := by
      refine ByteArray.ext ?_
      rw [ByteArray.data_extract]
      simp [strL]
    rw [List.length_cons] at hsz hn
    generalize strL (c :: r) = s at *
    generalize strL (c :: r).tail = t at *
    generalize r.length = N at *
    clear h
    go_enter Tryz.func17, Tryz.ntmps17
    go_wp2_with fail
    refine HB.out.mono ?_
    rintro e w1 ⟨rfl, rfl⟩
    go_wp2_with fail
    go_ret
    exact ⟨rfl, rfl⟩
  · rw [decide_eq_false h] at HB
    rw [if_neg h]
    generalize strL l = s at *
    clear h hsz hn
    go_enter Tryz.func17, Tryz.ntmps17
    go_wp2_with fail
    refine HB.out.mono ?_
    rintro e w1 ⟨rfl, rfl⟩
    go_wp2_with fail
    go_ret
    exact ⟨rfl, rfl⟩
/-- How IsWhole answers. -/
def IsP (w : World) (l : List UInt8) (e : Ending) (w' : World) : Prop := ∃ b, e = .returned (.bool b) ∧ (b = true → WholeT l) ∧ w' = w
set_option maxHeartbeats 4000000 in
set_option maxRecDepth 100000 in
theorem isWhole_any (w : World) (l : List UInt8) (hn : l.length ≤ 9223372036854775807) : Calls Tryz.prog 10 #[.string (strL l)] w (IsP w l) := by
  have HD := Lib.hid (digitsOf_any w l hn)
  have hbl : (bodyT l).length ≤ l.length := by
    unfold bodyT
    split
    · rw [List.length_tail]; omega
    · exact Nat.le_refl _
  have hsl := strL_list l
  have hsz := strL_size (bodyT l)
  have hg : ∀ i (hi : i < (strL (bodyT l)).size) (hi' : i < (bodyT l).length), ((strL (bodyT l))[i]'hi).toNat = ((bodyT l)[i]'hi').toNat := fun i hi hi' => rfl
  have HG := Lib.hid hg
  have HW := Lib.hid (@whole_of l)
  have HL := Lib.hid (show ((strL l).toList == [48]) = true ↔ l = [48] by rw [hsl]; exact beq_iff_eq)
  obtain ⟨d, hd⟩ : ∃ d, bodyT l = d := ⟨_, rfl⟩
  rw [hd] at HD hbl hsz HG HW
  obtain ⟨N, hN⟩ : ∃ N, d.length = N := ⟨_, rfl⟩
  have HN := Lib.hid hN
  rw [hN] at hbl hsz
  generalize strL l = s at *
  generalize strL d = t at *
  clear hg hd hsl hN
  go_enter Tryz.func10, Tryz.ntmps10
  go_wp2_with fail
  refine HD.out.mono ?_
  clear HD
  rintro e w1 ⟨rfl, rfl⟩
  have HF := Lib.hid (show IsP w1 l (.returned (.bool false)) w1 from ⟨false, rfl, fun h => absurd h (by decide), rfl⟩)
  by_cases h0 : N = 0
  · have z0 : ((N : Int) == 0) = true := by subst h0; rfl
    go_wp2_with fail
    go_ret
    exact HF.out
  · have z0 : ((N : Int) == 0) = false := by
      have : ¬ (N : Int) = 0 := by omega
      simpa using this
    have hp : 0 < t.size := by omega
    obtain ⟨c0, hc0⟩ : ∃ c, (t[0]'hp).toNat = c := ⟨_, rfl⟩
    have hg0 : ∀ h, (t[0]'h).toNat = c0 := fun _ => hc0
    have Hc0 := Lib.hid hc0
    clear hc0
    obtain ⟨q, hq⟩ : ∃ q, (s.toList == [48]) = q := ⟨_, rfl⟩
    rw [hq] at HL
    by_cases hbad : c0 = 48 ∧ q = false
    · obtain ⟨rfl, rfl⟩ := hbad
      go_wp2_with fail
      go_ret
      exact HF.out
    · by_cases e : c0 = 48
      · have hq1 : q = true := by
          cases hqq : q
          · exact absurd ⟨e, hqq⟩ hbad
          · rfl
        have HQ : Hid (d.head? ≠ some 48 ∨ l = [48]) := Lib.hid (.inr (HL.out.1 hq1))
        subst e
        rw [hq1] at hq
        clear hbad hq1
        go_wp2_with fail
        go_loopw [4] (fun vi wr => wr = w1 ∧ ∃ i : Nat, vi = .int .i64 i ∧ i ≤ N ∧ ∀ k, k < i → ∀ hk : k < d.length, isDig d[k]) (fun vi _ => N - (intOf vi).toNat)
        case atStart => exact ⟨rfl, 0, by go_num, Nat.zero_le _, fun k hk => absurd hk (Nat.not_lt_zero _)⟩
        case round =>
          obtain ⟨hw, i, rfl, hi, hdig⟩ := hrel
          have Hw := Lib.hid hw
          have Hdig := Lib.hid hdig
          clear hw hdig
          by_cases hin : i < N
          · have u1 : (i : Int) < (N : Int) := by omega
            have u2 : ¬ (i : Int) < 0 := by omega
            have hid : i < d.length := by have := HN.out; omega
            have hgi := HG.out i (by omega) hid
            obtain ⟨c, hc⟩ : ∃ c, (d[i]'hid).toNat = c := ⟨_, rfl⟩
            rw [hc] at hgi
            have hgj : ∀ h, (t[i]'h).toNat = c := fun _ => hgi
            have HFF := Lib.hid (show IsP w1 l (.returned (.bool false)) wr from ⟨false, rfl, fun h => absurd h (by decide), Hw.out⟩)
            have Hc := Lib.hid hc
            clear hgi hc
            by_cases v1 : (c : Int) < 48
            · go_wp2_with fail
              go_ret
              exact HFF.out
            · by_cases v2 : (57 : Int) < (c : Int)
              · go_wp2_with fail
                go_ret
                exact HFF.out
              · go_wp2_with fail
                refine ⟨⟨Hw.out, i + 1, by go_num, by omega, fun k hk hkd => ?_⟩, by simp [intOf]; omega⟩
                by_cases e : k = i
                · subst e
                  unfold isDig
                  rw [Hc.out]
                  omega
                · exact Hdig.out k (by omega) hkd
          · have u1 : ¬ (i : Int) < (N : Int) := by omega
            have HT := Lib.hid (show IsP w1 l (.returned (.bool true)) wr from ⟨true, rfl, fun _ => HW.out (fun e => by have := HN.out; rw [e] at this; simp at this; omega) HQ.out (fun c hc => by
              obtain ⟨k, hk, rfl⟩ := List.mem_iff_getElem.1 hc
              exact Hdig.out k (by have := HN.out; omega) hk), Hw.out⟩)
            go_wp2_with fail
            go_ret
            exact HT.out
      · have be : ((c0 : Int) == 48) = false := by
          have : ¬ (c0 : Int) = 48 := by omega
          simpa using this
        have HQ : Hid (d.head? ≠ some 48 ∨ l = [48]) := Lib.hid (.inl fun h => by
          cases d with
          | nil => simp at h
          | cons a r =>
            obtain rfl : a = 48 := by simpa using h
            have h1 := HG.out 0 hp (by simp)
            rw [Hc0.out] at h1
            exact e h1)
        clear hbad e
        go_wp2_with fail
        go_loopw [4] (fun vi wr => wr = w1 ∧ ∃ i : Nat, vi = .int .i64 i ∧ i ≤ N ∧ ∀ k, k < i → ∀ hk : k < d.length, isDig d[k]) (fun vi _ => N - (intOf vi).toNat)
        case atStart => exact ⟨rfl, 0, by go_num, Nat.zero_le _, fun k hk => absurd hk (Nat.not_lt_zero _)⟩
        case round =>
          obtain ⟨hw, i, rfl, hi, hdig⟩ := hrel
          have Hw := Lib.hid hw
          have Hdig := Lib.hid hdig
          clear hw hdig
          by_cases hin : i < N
          · have u1 : (i : Int) < (N : Int) := by omega
            have u2 : ¬ (i : Int) < 0 := by omega
            have hid : i < d.length := by have := HN.out; omega
            have hgi := HG.out i (by omega) hid
            obtain ⟨c, hc⟩ : ∃ c, (d[i]'hid).toNat = c := ⟨_, rfl⟩
            rw [hc] at hgi
            have hgj : ∀ h, (t[i]'h).toNat = c := fun _ => hgi
            have HFF := Lib.hid (show IsP w1 l (.returned (.bool false)) wr from ⟨false, rfl, fun h => absurd h (by decide), Hw.out⟩)
            have Hc := Lib.hid hc
            clear hgi hc
            by_cases v1 : (c : Int) < 48
            · go_wp2_with fail
              go_ret
              exact HFF.out
            · by_cases v2 : (57 : Int) < (c : Int)
              · go_wp2_with fail
                go_ret
                exact HFF.out
              · go_wp2_with fail
                refine ⟨⟨Hw.out, i + 1, by go_num, by omega, fun k hk hkd => ?_⟩, by simp [intOf]; omega⟩
                by_cases e : k = i
                · subst e
                  unfold isDig
                  rw [Hc.out]
                  omega
                · exact Hdig.out k (by omega) hkd
          · have u1 : ¬ (i : Int) < (N : Int) := by omega
            have HT := Lib.hid (show IsP w1 l (.returned (.bool true)) wr from ⟨true, rfl, fun _ => HW.out (fun e => by have := HN.out; rw [e] at this; simp at this; omega) HQ.out (fun c hc => by
              obtain ⟨k, hk, rfl⟩ := List.mem_iff_getElem.1 hc
              exact Hdig.out k (by have := HN.out; omega) hk), Hw.out⟩)
            go_wp2_with fail
            go_ret
            exact HT.out
end Go.Proofs.YtfgjaoejcbldoaaGreatDoor

namespace Go.Proofs.YtfgjaoejcbldoaaGreatDoor
open Go Go.RowKit Go.Deep
theorem noErr_int (v : Value) (w : World) : (Instr.typeAssert (.iface 3 v) 20 37 true).run Tryz.prog w = .ok (.tuple #[.nilIface, .bool false]) w :=
  run_assert_iface Tryz.underlying37 (by simp) (fun _ => by kernel_rfl) (by kernel_rfl) v w
open Go.Instr in
theorem missing_one {n : String} {sig : TypeId} {got : Array Method} (h : (got.any fun m => m.name == n && m.sig == sig) = false) : ∃ m, missingMethod #[(n, sig)] got = some m := by
  unfold missingMethod
  have e : ((#[(n, sig)] : Array (String × TypeId)).toList.filter fun x => match x with | (name, sig) => !got.any fun m => m.name == name && m.sig == sig) = [(n, sig)] := by
    simp only [List.filter_cons, h, List.filter_nil]
    rfl
  simp only [e]
  generalize hl : [(n, sig)].map (·.1) = l
  have hne : l ≠ [] := by rw [← hl]; simp
  generalize hp : l.partition _ = q
  have hq : q.1 ≠ [] ∨ q.2 ≠ [] := by rw [← hp]; exact part_some _ l hne
  obtain ⟨u, x⟩ := q
  cases x with
  | cons a r => exact ⟨_, rfl⟩
  | nil =>
    cases u with
    | nil => exact absurd rfl (hq.resolve_right (fun n => n rfl))
    | cons a r => exact ⟨_, rfl⟩
theorem run_assert_miss {P : Program} {T xT t : TypeId} {n : String} {sig : TypeId} {i : TypeInfo} (hd : P.underlying T = some (.interface #[(n, sig)])) (hz : ∀ w : World, (zeroValue T).run P w = .ok .nilIface w) (hi : P.info? t = some i) (hm : (i.methods.any fun m => m.name == n && m.sig == sig) = false) (v : Value) (w : World) :
    (Instr.typeAssert (.iface t v) xT T true).run P w = .ok (.tuple #[.nilIface, .bool false]) w := by
  obtain ⟨m, hm⟩ := missing_one hm
  unfold Instr.typeAssert
  simp [run_underlying hd, run_typeInfo _ hi, Result.andThen, hm, hz]
theorem noErr_big (v : Value) (w : World) : (Instr.typeAssert (.iface 39 v) 20 37 true).run Tryz.prog w = .ok (.tuple #[.nilIface, .bool false]) w :=
  run_assert_miss (i := (Tryz.prog.info? 39).get (by kernel_rfl)) Tryz.underlying37 (fun _ => by kernel_rfl) (by kernel_rfl) (by kernel_rfl) v w
attribute [local go_sem] noErr_int noErr_big assert_int assert_pbigInt
theorem set_row2 {w : World} {b : Nat} {c0 c1 : Value} {t : TypeId} (h : w.heap[b]? = some (.cells #[c0, c1] t)) (v0 v1 : Value) : ((w.setCell ⟨b, 0, none⟩ v0).setCell ⟨b, 1, none⟩ v1).heap[b]? = some (.cells #[v0, v1] t) := by
  have h0 := heap_setCell_same _ b 0 _ t v0 h
  have h1 := heap_setCell_same _ b 1 _ t v1 h0
  simpa using h1
theorem below_set2 {B b : Nat} {w0 w : World} (h : Below B w0 w) (hb : B ≤ b) (u v : Value) : Below B w0 ((w.setCell ⟨b, 0, none⟩ u).setCell ⟨b, 1, none⟩ v) := (h.setCell (show B ≤ (⟨b, 0, none⟩ : Addr).block from hb) _).setCell (show B ≤ (⟨b, 1, none⟩ : Addr).block from hb) _
/-- How an answer looks: the text of an integer, no fault. -/
def BigP (w : World) (l : List UInt8) (e : Ending) (w' : World) : Prop := e = .returned (.agg #[.string (strL l), .int .i64 0]) ∧ Below w.heap.size w w'
set_option maxHeartbeats 4000000 in
set_option maxRecDepth 100000 in
theorem bigFromGo_any (w : World) (z : Int) (v : Value) (h : NumAt w w.heap.size z v) (hz : z.natAbs < xMax) (hT : BigTabs w) : Calls Tryz.prog 12 #[v] w (BigP w (Lib.itoa z)) := by
  have hb := below_alloc1 w (.cells #[.string ByteArray.empty, .int .i64 0] 24)
  rcases h with ⟨rfl, hI⟩ | ⟨b, rfl, hI⟩
  · have HI := Lib.hid (itoa_any _ z hI (hT.carry hb))
    clear hb hT hI hz
    generalize Lib.itoa z = l at *
    go_enter Tryz.func12, Tryz.ntmps12
    go_wp2_with fail
    refine HI.out.mono ?_
    rintro e w1 ⟨rfl, h1⟩
    have hc := (h1.block w.heap.size (by rw [size_alloc1]; omega)).trans (heap_alloc_new w _)
    obtain ⟨p0, p1, p2, p3⟩ := of_block2 hc
    have HS := Lib.hid (set_row2 hc (.string (strL l)) (.int .i64 0))
    have HB := Lib.hid (show Below w.heap.size w ((w1.setCell ⟨w.heap.size, 0, none⟩ (.string (strL l))).setCell ⟨w.heap.size, 1, none⟩ (.int .i64 0)) from below_set2 (below_next (below_alloc1 _ _) h1) (Nat.le_refl _) _ _)
    clear h1 hc
    go_wp2_with fail
    refine bodyPost_ret (v := .agg #[.string (strL l), .int .i64 0]) ?_ rfl ⟨rfl, ?_⟩
    · refine results_cell_row (p := 2) (ty := 24) rfl _ _ w.heap.size 24 _ (0, 0) _ rfl ?_ Tryz.underlying24 rfl (by kernel_rfl)
      exact HS.out
    · exact HB.out
  · have HI := Lib.hid (intString_any _ b z (hI.carry hb hb.size) hz)
    clear hb hT hI hz
    generalize Lib.itoa z = l at *
    go_enter Tryz.func12, Tryz.ntmps12
    go_wp2_with fail
    refine HI.out.mono ?_
    rintro e w1 ⟨rfl, h1⟩
    have hc := (h1.block w.heap.size (by rw [size_alloc1]; omega)).trans (heap_alloc_new w _)
    obtain ⟨p0, p1, p2, p3⟩ := of_block2 hc
    have HS := Lib.hid (set_row2 hc (.string (strL l)) (.int .i64 0))
    have HB := Lib.hid (show Below w.heap.size w ((w1.setCell ⟨w.heap.size, 0, none⟩ (.string (strL l))).setCell ⟨w.heap.size, 1, none⟩ (.int .i64 0)) from below_set2 (below_next (below_alloc1 _ _) h1) (Nat.le_refl _) _ _)
    clear h1 hc
    go_wp2_with fail
    refine bodyPost_ret (v := .agg #[.string (strL l), .int .i64 0]) ?_ rfl ⟨rfl, ?_⟩
    · refine results_cell_row (p := 2) (ty := 24) rfl _ _ w.heap.size 24 _ (0, 0) _ rfl ?_ Tryz.underlying24 rfl (by kernel_rfl)
      exact HS.out
    · exact HB.out
/-- What a door of two texts is asked. -/
structure TwoT (w : World) (a b : List UInt8) : Prop where
  wa : WholeT a
  wb : WholeT b
  la : a.length ≤ 1000000
  lb : b.length ≤ 1000000
  xa : (wholeN a).natAbs < xMax
  xb : (wholeN b).natAbs < xMax
  tabs : BigTabs w
end Go.Proofs.YtfgjaoejcbldoaaGreatDoor
