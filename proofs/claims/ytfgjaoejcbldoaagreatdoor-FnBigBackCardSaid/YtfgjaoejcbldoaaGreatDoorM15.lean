/- Contracts of the callbacks of gojq's + and - at two ints and at two *big.Int; negate. -/
/- Contracts of json.Number's Int64 and String, gojq.parseNumber, toNumber, ZzToNumber at an integer's text. -/
/- Contract of package big's Int.DivMod, where the division comes out even. -/
/- Contracts of the callbacks of gojq's * and / at two ints and at two *big.Int; negate. -/
/- Type assertions at this program's types. -/
import Derived.Test.YtfgjaoejcbldoaaGreatDoorM08
import Derived.Test.YtfgjaoejcbldoaaGreatDoorM13
import Derived.Test.YtfgjaoejcbldoaaGreatDoorM14
import Derived.Test.YtfgjaoejcbldoaaGreatDoorM05
import Derived.Test.YtfgjaoejcbldoaaGreatDoorM06
import Derived.Test.YtfgjaoejcbldoaaGreatDoorM12
import Derived.Test.YtfgjaoejcbldoaaGreatDoorM01
import Derived.Test.YtfgjaoejcbldoaaGreatDoorProg
import Derived.WalkLawsBesides
import Derived.KernelRfl
namespace Go.Proofs.YtfgjaoejcbldoaaGreatDoor
open Go Go.RowKit Go.Deep
/-- How a reckoning answers: the number, as an int or as a *big.Int. -/
def NumP (w : World) (z : Int) (v : Value) (w' : World) : Prop := NumAt w' w'.heap.size z v ∧ Below w.heap.size w w'
theorem NumP.big {w w' : World} {b : Nat} {z : Int} (h : IntIn w' w'.heap.size z b) (hb : Below w.heap.size w w') : NumP w z (.iface 39 (.pointer (some ⟨b, 0, none⟩))) w' := ⟨.inr ⟨b, rfl, h⟩, hb⟩
theorem NumP.int {w w' : World} {z : Int} (h : I64 z) (hb : Below w.heap.size w w') : NumP w z (.iface 3 (.int .i64 z)) w' := ⟨.inl ⟨rfl, h⟩, hb⟩
theorem i64_max {z : Int} (h : I64 z) : z.natAbs < xMax := by
  have h1 : z.natAbs < bD ^ 2 := by unfold I64 at h; unfold bD; omega
  have h2 : bD ^ 2 ≤ bD ^ lenS := Nat.pow_le_pow_right (by decide) (by decide)
  exact Nat.lt_of_lt_of_le h1 h2
/-- Two new Ints of two ints. -/
structure TwoI (w w2 : World) (l r : Int) (xb yb : Nat) : Prop where
  x : IntIn w2 w2.heap.size l xb
  y : IntIn w2 w2.heap.size r yb
  ne : xb < yb
  le : w.heap.size ≤ xb
  bel : Below w.heap.size w w2
theorem newTwo (w : World) (l r : Int) (hl : I64 l) (hr : I64 r) {K : Ending → World → Prop} (h : ∀ w1, IntZ w w.heap.size l (.returned (.pointer (some ⟨w.heap.size, 0, none⟩))) w1 → w.heap.size < w1.heap.size ∧
    Calls Tryz.prog 32 #[.int .i64 r] w1 (fun e w2 => e = .returned (.pointer (some ⟨w1.heap.size, 0, none⟩)) ∧ TwoI w w2 l r w.heap.size w1.heap.size) → K (.returned (.pointer (some ⟨w.heap.size, 0, none⟩))) w1) :
    Calls Tryz.prog 32 #[.int .i64 l] w K := by
  refine (newInt_any w l hl).mono ?_
  rintro e w1 ⟨rfl, h1, h2⟩
  refine h w1 ⟨rfl, h1, h2⟩ ⟨h1.1, (newInt_any w1 r hr).mono ?_⟩
  rintro e w2 ⟨rfl, h3, h4⟩
  exact ⟨rfl, h1.carry h4 h4.size, h3, h1.1, Nat.le_refl _, below_next h2 h4⟩
set_option maxHeartbeats 4000000 in
set_option maxRecDepth 100000 in
theorem addI_any (w : World) (l r : Int) (hl : I64 l) (hr : I64 r) : Calls Tryz.prog 31 #[.int .i64 l, .int .i64 r] w (Ret (NumP w (l + r))) := by
  have HL := Lib.hid (fun (K : Ending → World → Prop) => newTwo w l r hl hr (K := K))
  have HA := Lib.hid fun (w' : World) (xb yb : Nat) (h : TwoI w w' l r xb yb) => intAdd_any w' xb xb yb l l r h.x h.x h.y (i64_max hl) (i64_max hr)
  have hw := add_ok hl hr
  have hwr := wrap_I64 (l + r)
  obtain ⟨s, es⟩ : ∃ s, wrap64 (l + r) = s := ⟨_, rfl⟩
  rw [es] at hw hwr
  have Hw := Lib.hid hw
  have Hwr := Lib.hid hwr
  clear hw hwr hl hr
  by_cases hc : l ≤ s ↔ 0 ≤ r
  · have hs := Hw.out hc
    have HF := Lib.hid (show Ret (NumP w (l + r)) (.returned (.iface 3 (.int .i64 s))) w from ⟨_, rfl, by rw [← hs]; exact NumP.int Hwr.out (Below.refl _ _)⟩)
    have hc' : (decide (l ≤ s) == decide (0 ≤ r)) = true := by
      by_cases h1 : l ≤ s
      · simp [h1, hc.1 h1]
      · have : ¬ 0 ≤ r := fun h => h1 (hc.2 h)
        simp [h1, this]
    clear hs hc
    go_enter Tryz.func31, Tryz.ntmps31
    go_wp2_with fail
    go_ret
    exact HF.out
  · have hc' : (decide (l ≤ s) == decide (0 ≤ r)) = false := by
      by_cases h1 : l ≤ s
      · have : ¬ 0 ≤ r := fun h => hc ⟨fun _ => h, fun _ => h1⟩
        simp [h1, this]
      · have : 0 ≤ r := Int.not_lt.1 fun h => hc ⟨fun h2 => absurd h2 h1, fun h2 => absurd h2 (Int.not_le.2 h)⟩
        simp [h1, this]
    clear hc
    go_enter Tryz.func31, Tryz.ntmps31
    go_wp2_with fail
    refine HL.out _ fun w1 hz1 ⟨hlt, hN⟩ => ?_
    have HN := Lib.hid hN
    clear hz1 hN
    go_wp2_with fail
    refine HN.out.mono ?_
    rintro e w2 ⟨rfl, hT⟩
    have hA := HA.out w2 _ _ hT
    have HT := Lib.hid hT
    clear hT
    go_wp2_with fail
    refine hA.mono ?_
    rintro e w3 ⟨rfl, h3, h4⟩
    have HF := Lib.hid (show Ret (NumP w (l + r)) (.returned (.iface 39 (.pointer (some ⟨w.heap.size, 0, none⟩)))) w3 from ⟨_, rfl, NumP.big h3 (HT.out.bel.trans h4)⟩)
    clear h3 h4 hA
    go_wp2_with fail
    go_ret
    exact HF.out
set_option maxHeartbeats 4000000 in
set_option maxRecDepth 100000 in
theorem addB_any (w : World) (xb yb : Nat) (l r : Int) (hl : IntIn w w.heap.size l xb) (hr : IntIn w w.heap.size r yb) (bl : l.natAbs < xMax) (br : r.natAbs < xMax) :
    Calls Tryz.prog 35 #[.pointer (some ⟨xb, 0, none⟩), .pointer (some ⟨yb, 0, none⟩)] w (Ret (NumP w (l + r))) := by
  have hb := below_alloc1 w (.cells #[.bool false, .slice none 0 0] 51)
  have HA := Lib.hid (intAdd_any (w.alloc (.cells #[.bool false, .slice none 0 0] 51)) w.heap.size xb yb 0 l r (IntIn.zero w) (hl.carry hb hb.size) (hr.carry hb hb.size) bl br)
  clear hb hl hr
  go_enter Tryz.func35, Tryz.ntmps35
  go_wp2_with fail
  refine HA.out.mono ?_
  rintro e w3 ⟨rfl, h3, h4⟩
  have HF := Lib.hid (show Ret (NumP w (l + r)) (.returned (.iface 39 (.pointer (some ⟨w.heap.size, 0, none⟩)))) w3 from ⟨_, rfl, NumP.big h3 ((below_alloc1 _ _).trans h4)⟩)
  clear h3 h4
  go_wp2_with fail
  go_ret
  exact HF.out
set_option maxHeartbeats 4000000 in
set_option maxRecDepth 100000 in
theorem subI_any (w : World) (l r : Int) (hl : I64 l) (hr : I64 r) : Calls Tryz.prog 52 #[.int .i64 l, .int .i64 r] w (Ret (NumP w (l - r))) := by
  have HL := Lib.hid (fun (K : Ending → World → Prop) => newTwo w l r hl hr (K := K))
  have HA := Lib.hid fun (w' : World) (xb yb : Nat) (h : TwoI w w' l r xb yb) => intSub_any w' xb xb yb l l r h.x h.x h.y (i64_max hl) (i64_max hr)
  have hw := sub_ok hl hr
  have hwr := wrap_I64 (l - r)
  obtain ⟨s, es⟩ : ∃ s, wrap64 (l - r) = s := ⟨_, rfl⟩
  rw [es] at hw hwr
  have Hw := Lib.hid hw
  have Hwr := Lib.hid hwr
  clear hw hwr hl hr
  by_cases hc : s ≤ l ↔ 0 ≤ r
  · have hs := Hw.out hc
    have HF := Lib.hid (show Ret (NumP w (l - r)) (.returned (.iface 3 (.int .i64 s))) w from ⟨_, rfl, by rw [← hs]; exact NumP.int Hwr.out (Below.refl _ _)⟩)
    have hc' : (decide (s ≤ l) == decide (0 ≤ r)) = true := by
      by_cases h1 : s ≤ l
      · simp [h1, hc.1 h1]
      · have : ¬ 0 ≤ r := fun h => h1 (hc.2 h)
        simp [h1, this]
    clear hs hc
    go_enter Tryz.func52, Tryz.ntmps52
    go_wp2_with fail
    go_ret
    exact HF.out
  · have hc' : (decide (s ≤ l) == decide (0 ≤ r)) = false := by
      by_cases h1 : s ≤ l
      · have : ¬ 0 ≤ r := fun h => hc ⟨fun _ => h, fun _ => h1⟩
        simp [h1, this]
      · have : 0 ≤ r := Int.not_lt.1 fun h => hc ⟨fun h2 => absurd h2 h1, fun h2 => absurd h2 (Int.not_le.2 h)⟩
        simp [h1, this]
    clear hc
    go_enter Tryz.func52, Tryz.ntmps52
    go_wp2_with fail
    refine HL.out _ fun w1 hz1 ⟨hlt, hN⟩ => ?_
    have HN := Lib.hid hN
    clear hz1 hN
    go_wp2_with fail
    refine HN.out.mono ?_
    rintro e w2 ⟨rfl, hT⟩
    have hA := HA.out w2 _ _ hT
    have HT := Lib.hid hT
    clear hT
    go_wp2_with fail
    refine hA.mono ?_
    rintro e w3 ⟨rfl, h3, h4⟩
    have HF := Lib.hid (show Ret (NumP w (l - r)) (.returned (.iface 39 (.pointer (some ⟨w.heap.size, 0, none⟩)))) w3 from ⟨_, rfl, NumP.big h3 (HT.out.bel.trans h4)⟩)
    clear h3 h4 hA
    go_wp2_with fail
    go_ret
    exact HF.out
set_option maxHeartbeats 4000000 in
set_option maxRecDepth 100000 in
theorem subB_any (w : World) (xb yb : Nat) (l r : Int) (hl : IntIn w w.heap.size l xb) (hr : IntIn w w.heap.size r yb) (bl : l.natAbs < xMax) (br : r.natAbs < xMax) :
    Calls Tryz.prog 55 #[.pointer (some ⟨xb, 0, none⟩), .pointer (some ⟨yb, 0, none⟩)] w (Ret (NumP w (l - r))) := by
  have hb := below_alloc1 w (.cells #[.bool false, .slice none 0 0] 51)
  have HA := Lib.hid (intSub_any (w.alloc (.cells #[.bool false, .slice none 0 0] 51)) w.heap.size xb yb 0 l r (IntIn.zero w) (hl.carry hb hb.size) (hr.carry hb hb.size) bl br)
  clear hb hl hr
  go_enter Tryz.func55, Tryz.ntmps55
  go_wp2_with fail
  refine HA.out.mono ?_
  rintro e w3 ⟨rfl, h3, h4⟩
  have HF := Lib.hid (show Ret (NumP w (l - r)) (.returned (.iface 39 (.pointer (some ⟨w.heap.size, 0, none⟩)))) w3 from ⟨_, rfl, NumP.big h3 ((below_alloc1 _ _).trans h4)⟩)
  clear h3 h4
  go_wp2_with fail
  go_ret
  exact HF.out
end Go.Proofs.YtfgjaoejcbldoaaGreatDoor

namespace Go.Proofs.YtfgjaoejcbldoaaGreatDoor
open Go Go.RowKit Go.Deep
set_option maxHeartbeats 4000000 in
set_option maxRecDepth 100000 in
theorem int64_any (w : World) (l : List UInt8) (h : WholeT l) (hl : l.length ≤ 281474976710656) (hT : BigTabs w) : Calls Tryz.prog 100 #[.string (strL l)] w (ParseP w l) := by
  have HP := Lib.hid (parseInt_any w l h hl hT)
  generalize hs : strL l = s at *
  clear hs h hl hT
  go_enter Tryz.func100, Tryz.ntmps100
  go_wp2_with fail
  refine HP.out.mono ?_
  rintro e w1 ⟨hp, hb⟩
  have Hb := Lib.hid hb
  clear hb
  rcases hp with ⟨hI, rfl⟩ | ⟨hI, k, t, b, rfl⟩
  · have HF := Lib.hid (show ParseP w l (.returned (.tuple #[.int .i64 (wholeN l), .nilIface])) w1 from ⟨.inl ⟨hI, rfl⟩, Hb.out⟩)
    clear hI
    go_wp2_with fail
    go_ret2
    exact HF.out
  · have HF := Lib.hid (show ParseP w l (.returned (.tuple #[.int .i64 k, .iface t (.pointer (some ⟨b, 0, none⟩))])) w1 from ⟨.inr ⟨hI, k, t, b, rfl⟩, Hb.out⟩)
    clear hI
    go_wp2_with fail
    go_ret2
    exact HF.out
theorem numString_any (w : World) (s : ByteArray) : Calls Tryz.prog 102 #[.string s] w (fun e w' => e = .returned (.string s) ∧ w' = w) := by
  go_enter Tryz.func102, Tryz.ntmps102
  go_wp2_with fail
  go_ret
  exact ⟨rfl, rfl⟩
set_option maxHeartbeats 4000000 in
set_option maxRecDepth 100000 in
theorem parseNumber_any (w : World) (l : List UInt8) (h : WholeT l) (hl : l.length ≤ 1000000) (hx : (wholeN l).natAbs < xMax) (hT : BigTabs w) : Calls Tryz.prog 72 #[.string (strL l)] w (Ret (NumP w (wholeN l))) := by
  have HI := Lib.hid (int64_any w l h (by omega) hT)
  have HN := Lib.hid fun w' => numString_any w' (strL l)
  have HC := Lib.hid fun w' => containsAny_any w' l h
  have HS := Lib.hid fun (w' : World) (zb : Nat) (z0 : Int) (hz : IntIn w' w'.heap.size z0 zb) => setString_any w' zb z0 l hz h hl hx
  generalize hs : strL l = s at *
  obtain ⟨z, hz⟩ : ∃ z, wholeN l = z := ⟨_, rfl⟩
  unfold ParseP at HI
  rw [hz] at HI HS hx ⊢
  clear hs h hl hT hz
  go_enter Tryz.func72, Tryz.ntmps72
  go_wp2_with fail
  refine HI.out.mono ?_
  clear HI
  rintro e w1 ⟨⟨hI, rfl⟩ | ⟨hI, k, t, b, rfl⟩, hb⟩
  · have HF := Lib.hid (show Ret (NumP w z) (.returned (.iface 3 (.int .i64 z))) w1 from ⟨_, rfl, NumP.int hI hb⟩)
    have i1 : -9223372036854775808 ≤ z := hI.1
    have i2 : z ≤ 9223372036854775807 := hI.2
    clear hI hb
    go_wp2_with fail
    go_ret
    exact HF.out
  · have hN := HN.out w1
    have Hb := Lib.hid hb
    clear hI hb
    go_wp2_with fail
    refine hN.mono ?_
    clear hN
    rintro e w2 ⟨rfl, rfl⟩
    have hC := HC.out w2
    go_wp2_with fail
    refine hC.mono ?_
    clear hC
    rintro e w3 ⟨rfl, hb3⟩
    have Hb3 := Lib.hid (below_next Hb.out hb3)
    clear hb3
    have hN := HN.out (w3.alloc (.cells #[.bool false, .slice none 0 0] 51))
    go_wp2_with fail
    refine hN.mono ?_
    clear hN
    rintro e w4 ⟨rfl, rfl⟩
    have hS := HS.out _ _ _ (IntIn.zero w3)
    go_wp2_with fail
    refine hS.mono ?_
    clear hS
    rintro e w5 ⟨rfl, h5, hb5⟩
    have HF := Lib.hid (show Ret (NumP w z) (.returned (.iface 39 (.pointer (some ⟨w3.heap.size, 0, none⟩)))) w5 from ⟨_, rfl, NumP.big h5 (below_next Hb3.out ((below_alloc1 _ _).trans hb5))⟩)
    clear h5 hb5
    go_wp2_with fail
    go_ret
    exact HF.out
set_option maxHeartbeats 4000000 in
set_option maxRecDepth 100000 in
theorem zzToNumber_any (w : World) (l : List UInt8) (h : WholeT l) (hl : l.length ≤ 1000000) (hx : (wholeN l).natAbs < xMax) (hT : BigTabs w) : Calls Tryz.prog 19 #[.string (strL l)] w (Ret (NumP w (wholeN l))) := by
  have HP := Lib.hid (parseNumber_any w l h hl hx hT)
  generalize strL l = s at *
  generalize wholeN l = z at *
  have HT : Hid (Calls Tryz.prog 27 #[.string s] w (Ret (NumP w z))) := by
    refine Lib.hid ?_
    go_enter Tryz.func27, Tryz.ntmps27
    go_wp2_with fail
    refine HP.out.mono ?_
    rintro e w1 ⟨v, rfl, hv⟩
    have HF := Lib.hid (show Ret (NumP w z) (.returned v) w1 from ⟨_, rfl, hv⟩)
    clear hv
    go_wp2_with fail
    go_ret
    exact HF.out
  go_enter Tryz.func19, Tryz.ntmps19
  go_wp2_with fail
  refine HT.out.mono ?_
  rintro e w1 ⟨v, rfl, hv⟩
  have HF := Lib.hid (show Ret (NumP w z) (.returned v) w1 from ⟨_, rfl, hv⟩)
  clear hv
  go_wp2_with fail
  go_ret
  exact HF.out
end Go.Proofs.YtfgjaoejcbldoaaGreatDoor

namespace Go.Proofs.YtfgjaoejcbldoaaGreatDoor
open Go Go.RowKit Go.Deep
theorem IntIn.nought {w : World} {B b : Nat} (h : IntIn w B 0 b) : ∃ v, w.heap[b]? = some (.cells #[.bool false, v] 51) := by
  obtain ⟨_, s, v, x, h1, _, h3, h4⟩ := h
  have : x = 0 := by
    cases s
    · simp at h3; omega
    · simp at h3; omega
  rw [h4 this] at h1
  exact ⟨v, h1⟩
set_option maxHeartbeats 4000000 in
set_option maxRecDepth 100000 in
theorem divMod_any (w : World) (zb rb xb yb : Nat) (z0 r0 zx zy : Int) (hz : IntIn w w.heap.size z0 zb) (hr : IntIn w w.heap.size r0 rb) (hx : IntIn w w.heap.size zx xb) (hy : IntIn w w.heap.size zy yb)
    (h1 : xb < zb) (h2 : yb < zb) (h3 : zb < rb) (bx : zx.natAbs < xMax) (hy0 : zy ≠ 0) (hd : zy.natAbs ∣ zx.natAbs) :
    Calls Tryz.prog 65 #[.pointer (some ⟨zb, 0, none⟩), .pointer (some ⟨xb, 0, none⟩), .pointer (some ⟨yb, 0, none⟩), .pointer (some ⟨rb, 0, none⟩)] w (QuoP w zb rb (zx.tdiv zy)) := by
  obtain ⟨t, a', n', c', y, hyc, -⟩ := hy.open
  have HQ := Lib.hid fun (w' : World) (hb : Below w.heap.size w w') => quoRem_any w' zb rb xb yb z0 r0 zx zy (hz.carry hb hb.size) (hr.carry hb hb.size) (hx.carry hb hb.size) (hy.carry hb hb.size) h1 h2 h3 bx hy0 hd
  have hzb : zb < w.heap.size := hz.1
  obtain ⟨y0, y1, _, _⟩ := of_block2 hyc
  clear hz hr hx hy bx hd hy0
  go_enter Tryz.func65, Tryz.ntmps65
  go_wp2_with fail
  refine (HQ.out _ (below_alloc1 _ _)).mono ?_
  clear HQ
  rintro e w1 ⟨rfl, hz1, hr1, hb1⟩
  obtain ⟨v, hv⟩ := hr1.nought
  obtain ⟨p0, p1, _, _⟩ := of_block2 hv
  have HF := Lib.hid (show QuoP w zb rb (zx.tdiv zy) (.returned (.tuple #[.pointer (some ⟨zb, 0, none⟩), .pointer (some ⟨rb, 0, none⟩)])) w1 from ⟨rfl, hz1, hr1, ((below_alloc1 w _).mono (Nat.le_of_lt hzb)).trans hb1⟩)
  clear hz1 hr1 hb1 hv
  go_wp2_with fail
  go_ret2
  exact HF.out
end Go.Proofs.YtfgjaoejcbldoaaGreatDoor

namespace Go.Proofs.YtfgjaoejcbldoaaGreatDoor
open Go Go.RowKit Go.Deep
set_option maxHeartbeats 4000000 in
set_option maxRecDepth 100000 in
theorem sign_any (w : World) (b : Nat) (z : Int) (hz : IntIn w w.heap.size z b) : Calls Tryz.prog 64 #[.pointer (some ⟨b, 0, none⟩)] w (fun e w' => w' = w ∧ ∃ k : Int, e = .returned (.int .i64 k) ∧ (k = 0 ↔ z = 0)) := by
  obtain ⟨s, a, n, c, x, hc, hn, rfl, hs, _, hn0, _⟩ := hz.open
  obtain ⟨y0, y1, _, _⟩ := of_block2 hc
  have hx : n ≠ 0 → num s x ≠ 0 := fun h e => by
    have := congrArg Int.natAbs e
    rw [num_abs] at this
    exact h (hn0.2 (by simpa using this))
  have hx0 : n = 0 → num s x = 0 := fun h => by rw [hn0.1 h]; unfold num; cases s <;> rfl
  have H1 := Lib.hid hx
  have H0 := Lib.hid hx0
  clear hz hn hs hc hn0 hx hx0
  generalize num s x = z at *
  by_cases h0 : n = 0
  · subst h0
    have hz := Lib.hid (H0.out rfl)
    go_enter Tryz.func64, Tryz.ntmps64
    go_wp2_with fail
    go_ret
    exact ⟨rfl, 0, rfl, fun _ => hz.out, fun _ => rfl⟩
  · have hz := Lib.hid (H1.out h0)
    have z0 : (((n : Nat) : Int) == 0) = false := by
      have : ((n : Nat) : Int) ≠ 0 := by omega
      simpa using this
    cases s
    · go_enter Tryz.func64, Tryz.ntmps64
      go_wp2_with fail
      go_ret
      exact ⟨rfl, 1, rfl, fun h => absurd h (by decide), fun h => absurd h hz.out⟩
    · go_enter Tryz.func64, Tryz.ntmps64
      go_wp2_with fail
      go_ret
      exact ⟨rfl, -1, rfl, fun h => absurd h (by decide), fun h => absurd h hz.out⟩
set_option maxHeartbeats 4000000 in
set_option maxRecDepth 100000 in
theorem negate_any (w : World) (v : Int) (hv : I64 v) : Calls Tryz.prog 42 #[.int .i64 v] w (Ret (NumP w (-v))) := by
  by_cases h : v = -9223372036854775808
  · subst h
    have HN := Lib.hid (newInt_any (w.alloc (.cells #[.bool false, .slice none 0 0] 51)) (-9223372036854775808) hv)
    clear hv
    go_enter Tryz.func42, Tryz.ntmps42
    go_wp2_with fail
    rw [size_alloc1] at HN
    refine HN.out.mono ?_
    rintro e w1 ⟨rfl, h1, h2⟩
    have hz1 := (IntIn.zero w).carry (w' := w1) (B' := w1.heap.size) (by rw [size_alloc1]; exact h2) (by have := h1.1; rw [size_alloc1]; omega)
    have HG := Lib.hid (neg_any w1 w.heap.size (w.heap.size + 1) 0 _ hz1 h1 (by omega) (by decide))
    have Hb := Lib.hid (show Below w.heap.size w w1 from (below_alloc1 w (.cells #[.bool false, .slice none 0 0] 51)).trans (h2.mono (Nat.le_succ _)))
    clear h1 h2 hz1
    go_wp2_with fail
    refine HG.out.mono ?_
    rintro e w2 ⟨rfl, h3, h4⟩
    have HF := Lib.hid (show Ret (NumP w (-(-9223372036854775808))) (.returned (.iface 39 (.pointer (some ⟨w.heap.size, 0, none⟩)))) w2 from ⟨_, rfl, NumP.big h3 (Hb.out.trans h4)⟩)
    clear h3 h4
    go_wp2_with fail
    go_ret
    exact HF.out
  · have hb : (v == -9223372036854775808) = false := by simpa using h
    have hI : I64 (-v) := by unfold I64 at hv ⊢; omega
    have hw : wrap64 (-v) = -v := wrap_self hI
    have HF := Lib.hid (show Ret (NumP w (-v)) (.returned (.iface 3 (.int .i64 (-v)))) w from ⟨_, rfl, NumP.int hI (Below.refl _ _)⟩)
    clear hI hv
    go_enter Tryz.func42, Tryz.ntmps42
    go_wp2_with fail
    go_ret
    exact HF.out
theorem tdiv_I64 {s r : Int} (hs : I64 s) (h : r ≠ -1) : I64 (s.tdiv r) := by
  rcases Int.lt_trichotomy r 0 with h1 | h1 | h1
  · have h2 : (s.tdiv r).natAbs = s.natAbs / r.natAbs := Int.natAbs_tdiv s r
    have h3 : s.natAbs / r.natAbs ≤ s.natAbs / 2 := Nat.div_le_div_left (by omega) (by decide)
    unfold I64 at *
    omega
  · subst h1
    simp [I64]
  · have h2 : (s.tdiv r).natAbs = s.natAbs / r.natAbs := Int.natAbs_tdiv s r
    have h3 : s.natAbs / r.natAbs ≤ s.natAbs := Nat.div_le_self _ _
    by_cases h4 : r = 1
    · subst h4; simpa using hs
    · have h5 : s.natAbs / r.natAbs ≤ s.natAbs / 2 := Nat.div_le_div_left (by omega) (by decide)
      unfold I64 at *
      omega
set_option maxHeartbeats 4000000 in
set_option maxRecDepth 100000 in
theorem mulI_any (w : World) (l r : Int) (hl : I64 l) (hr : I64 r) : Calls Tryz.prog 41 #[.int .i64 l, .int .i64 r] w (Ret (NumP w (l * r))) := by
  by_cases h1 : r = -1
  · subst h1
    have HN := Lib.hid (negate_any w l hl)
    rw [show l * -1 = -l by omega]
    clear hl hr
    go_enter Tryz.func41, Tryz.ntmps41
    go_wp2_with fail
    refine HN.out.mono ?_
    rintro e w1 ⟨v, rfl, hv⟩
    have HF := Lib.hid (show Ret (NumP w (-l)) (.returned v) w1 from ⟨_, rfl, hv⟩)
    clear hv
    go_wp2_with fail
    go_ret
    exact HF.out
  · have HL := Lib.hid (fun (K : Ending → World → Prop) => newTwo w l r hl hr (K := K))
    have HA := Lib.hid fun (w' : World) (xb yb : Nat) (h : TwoI w w' l r xb yb) => intMul_any w' xb xb yb l l r h.x h.x h.y (i64_max hl) (i64_max hr)
    have hw : r ≠ 0 → (wrap64 (l * r)).tdiv r = l → wrap64 (l * r) = l * r := fun h0 h => mul_ok hr h0 h
    have hz : r = 0 → wrap64 (l * r) = l * r := fun h => by subst h; rw [Int.mul_zero]; exact wrap_self (by unfold I64; omega)
    have hwr := wrap_I64 (l * r)
    obtain ⟨s, es⟩ : ∃ s, wrap64 (l * r) = s := ⟨_, rfl⟩
    rw [es] at hw hwr hz
    have hq : wrap64 (s.tdiv r) = s.tdiv r := wrap_self (tdiv_I64 hwr h1)
    have b1 : (r == -1) = false := by simpa using h1
    have Hwr := Lib.hid hwr
    have H1 := Lib.hid h1
    by_cases hc : r = 0 ∨ s.tdiv r = l
    · have hs : s = l * r := by
        by_cases h0 : r = 0
        · exact hz h0
        · exact hw h0 (hc.resolve_left h0)
      have HF := Lib.hid (show Ret (NumP w (l * r)) (.returned (.iface 3 (.int .i64 s))) w from ⟨_, rfl, by rw [← hs]; exact NumP.int Hwr.out (Below.refl _ _)⟩)
      clear hs hw hz hwr hl hr h1
      by_cases h0 : r = 0
      · have b0 : (r == 0) = true := by simpa using h0
        clear hc h0
        go_enter Tryz.func41, Tryz.ntmps41
        go_wp2_with fail
        go_ret
        exact HF.out
      · have b0 : (r == 0) = false := by simpa using h0
        have h2 := hc.resolve_left h0
        have b2 : (s.tdiv r == l) = true := by simpa using h2
        clear hc h2
        go_enter Tryz.func41, Tryz.ntmps41
        go_wp2_with fail
        go_ret
        exact HF.out
    · have h0 : r ≠ 0 := fun e => hc (.inl e)
      have b0 : (r == 0) = false := by simpa using h0
      have b2 : (s.tdiv r == l) = false := by simpa using fun e => hc (.inr e)
      clear hw hz hwr hl hr h1 hc
      go_enter Tryz.func41, Tryz.ntmps41
      go_wp2_with fail
      refine HL.out _ fun w1 hz1 ⟨hlt, hN⟩ => ?_
      have HN := Lib.hid hN
      clear hz1 hN
      go_wp2_with fail
      refine HN.out.mono ?_
      rintro e w2 ⟨rfl, hT⟩
      have hA := HA.out w2 _ _ hT
      have HT := Lib.hid hT
      clear hT
      go_wp2_with fail
      refine hA.mono ?_
      rintro e w3 ⟨rfl, h3, h4⟩
      have HF := Lib.hid (show Ret (NumP w (l * r)) (.returned (.iface 39 (.pointer (some ⟨w.heap.size, 0, none⟩)))) w3 from ⟨_, rfl, NumP.big h3 (HT.out.bel.trans h4)⟩)
      clear h3 h4 hA
      go_wp2_with fail
      go_ret
      exact HF.out
set_option maxHeartbeats 4000000 in
set_option maxRecDepth 100000 in
theorem mulB_any (w : World) (xb yb : Nat) (l r : Int) (hl : IntIn w w.heap.size l xb) (hr : IntIn w w.heap.size r yb) (bl : l.natAbs < xMax) (br : r.natAbs < xMax) :
    Calls Tryz.prog 45 #[.pointer (some ⟨xb, 0, none⟩), .pointer (some ⟨yb, 0, none⟩)] w (Ret (NumP w (l * r))) := by
  have hb := below_alloc1 w (.cells #[.bool false, .slice none 0 0] 51)
  have HA := Lib.hid (intMul_any (w.alloc (.cells #[.bool false, .slice none 0 0] 51)) w.heap.size xb yb 0 l r (IntIn.zero w) (hl.carry hb hb.size) (hr.carry hb hb.size) bl br)
  clear hb hl hr
  go_enter Tryz.func45, Tryz.ntmps45
  go_wp2_with fail
  refine HA.out.mono ?_
  rintro e w3 ⟨rfl, h3, h4⟩
  have HF := Lib.hid (show Ret (NumP w (l * r)) (.returned (.iface 39 (.pointer (some ⟨w.heap.size, 0, none⟩)))) w3 from ⟨_, rfl, NumP.big h3 ((below_alloc1 _ _).trans h4)⟩)
  clear h3 h4
  go_wp2_with fail
  go_ret
  exact HF.out
set_option maxHeartbeats 4000000 in
set_option maxRecDepth 100000 in
theorem divI_any (w : World) (l r : Int) (hl : I64 l) (h0 : r ≠ 0) (hd : l.tmod r = 0) : Calls Tryz.prog 61 #[.int .i64 l, .int .i64 r] w (Ret (NumP w (l.tdiv r))) := by
  have b0 : (r == 0) = false := by simpa using h0
  by_cases h1 : r = -1
  · subst h1
    have HN := Lib.hid (negate_any w l hl)
    rw [show l.tdiv (-1) = -l by rw [Int.tdiv_neg, Int.tdiv_one]]
    clear hl hd b0
    go_enter Tryz.func61, Tryz.ntmps61
    go_wp2_with fail
    refine HN.out.mono ?_
    rintro e w1 ⟨v, rfl, hv⟩
    have HF := Lib.hid (show Ret (NumP w (-l)) (.returned v) w1 from ⟨_, rfl, hv⟩)
    clear hv
    go_wp2_with fail
    go_ret
    exact HF.out
  · have b1 : (r == -1) = false := by simpa using h1
    have hI := tdiv_I64 hl h1
    have hq : wrap64 (l.tdiv r) = l.tdiv r := wrap_self hI
    have HF := Lib.hid (show Ret (NumP w (l.tdiv r)) (.returned (.iface 3 (.int .i64 (l.tdiv r)))) w from ⟨_, rfl, NumP.int hI (Below.refl _ _)⟩)
    clear hI hl
    go_enter Tryz.func61, Tryz.ntmps61
    go_wp2_with fail
    go_ret
    exact HF.out
set_option maxHeartbeats 4000000 in
set_option maxRecDepth 100000 in
theorem divB_any (w : World) (xb yb : Nat) (l r : Int) (hl : IntIn w w.heap.size l xb) (hr : IntIn w w.heap.size r yb) (bl : l.natAbs < xMax) (h0 : r ≠ 0) (hd : r.natAbs ∣ l.natAbs) :
    Calls Tryz.prog 63 #[.pointer (some ⟨xb, 0, none⟩), .pointer (some ⟨yb, 0, none⟩)] w (Ret (NumP w (l.tdiv r))) := by
  have hb := below_alloc2 w (.cells #[.bool false, .slice none 0 0] 51) (.cells #[.bool false, .slice none 0 0] 51)
  have hz := (IntIn.zero w).carry (below_alloc1 _ (.cells #[.bool false, .slice none 0 0] 51)) (show _ ≤ ((w.alloc (.cells #[.bool false, .slice none 0 0] 51)).alloc (.cells #[.bool false, .slice none 0 0] 51)).heap.size by rw [size_alloc2, size_alloc1]; omega)
  have hm := IntIn.zero (w.alloc (.cells #[.bool false, .slice none 0 0] 51))
  rw [size_alloc1 w] at hm
  have HD := Lib.hid (divMod_any _ w.heap.size (w.heap.size + 1) xb yb 0 0 l r hz hm (hl.carry hb hb.size) (hr.carry hb hb.size) hl.1 hr.1 (by omega) bl h0 hd)
  have HS := Lib.hid (sign_any w yb r hr)
  have HT := Lib.hid fun (w' : World) (b : Nat) (h : IntIn w' w'.heap.size 0 b) => sign_any w' b 0 h
  have Hb := Lib.hid hb
  clear hb hz hm hl hr hd
  go_enter Tryz.func63, Tryz.ntmps63
  go_wp2_with fail
  refine HS.out.mono ?_
  rintro e w1 ⟨rfl, k, rfl, hk⟩
  have bk : (k == 0) = false := by simpa using fun e => h0 (hk.1 e)
  clear hk HS
  go_wp2_with fail
  refine HD.out.mono ?_
  rintro e w2 ⟨rfl, h1, h2, h3⟩
  have hT := HT.out w2 _ h2
  have H1 := Lib.hid h1
  have H3 := Lib.hid h3
  clear h1 h2 h3 HD HT
  go_wp2_with fail
  refine hT.mono ?_
  rintro e w3 ⟨rfl, k, rfl, hk⟩
  obtain rfl : k = 0 := by simpa using hk
  have HF := Lib.hid (show Ret (NumP w1 (l.tdiv r)) (.returned (.iface 39 (.pointer (some ⟨w1.heap.size, 0, none⟩)))) w3 from ⟨_, rfl, NumP.big H1.out (Hb.out.trans H3.out)⟩)
  clear hk hT
  go_wp2_with fail
  go_ret
  exact HF.out
end Go.Proofs.YtfgjaoejcbldoaaGreatDoor

namespace Go.Proofs.YtfgjaoejcbldoaaGreatDoor
open Go Go.RowKit
theorem run_assert {P : Program} {T xT : TypeId} {d : TypeDesc} {z : Value} (hd : P.underlying T = some d) (hni : ∀ ms, d ≠ .interface ms) (hz : ∀ w : World, (zeroValue T).run P w = .ok z w) (t : TypeId) (v : Value) (w : World) :
    (Instr.typeAssert (.iface t v) xT T true).run P w = .ok (if t = T then .tuple #[v, .bool true] else .tuple #[z, .bool false]) w := by
  unfold Instr.typeAssert
  by_cases h : t = T
  · subst h
    cases d <;> first | (exact absurd rfl (hni _)) | simp [run_underlying hd, Result.andThen]
  · cases d <;> first | (exact absurd rfl (hni _)) | simp [run_underlying hd, Result.andThen, h, hz]
theorem run_assert_nil {P : Program} {T xT : TypeId} {d : TypeDesc} {z : Value} (hd : P.underlying T = some d) (hni : ∀ ms, d ≠ .interface ms) (hz : ∀ w : World, (zeroValue T).run P w = .ok z w) (w : World) :
    (Instr.typeAssert .nilIface xT T true).run P w = .ok (.tuple #[z, .bool false]) w := by
  unfold Instr.typeAssert
  cases d <;> first | (exact absurd rfl (hni _)) | simp [run_underlying hd, Result.andThen, hz]
theorem part_some (p : String → Bool) (l : List String) (hne : l ≠ []) : (l.partition p).1 ≠ [] ∨ (l.partition p).2 ≠ [] := by
  cases l with
  | nil => exact absurd rfl hne
  | cons a r =>
    rw [List.partition_eq_filter_filter]
    by_cases hc : p a = true
    · refine .inl fun (e : List.filter p (a :: r) = []) => ?_
      have := List.mem_filter.2 ⟨List.mem_cons_self (a := a) (l := r), hc⟩
      rw [e] at this
      cases this
    · refine .inr fun (e : List.filter (Bool.not ∘ p) (a :: r) = []) => ?_
      have := List.mem_filter.2 ⟨List.mem_cons_self (a := a) (l := r), (by simpa using hc : (Bool.not ∘ p) a = true)⟩
      rw [e] at this
      cases this
open Go.Instr in
theorem missing_some (want : Array (String × TypeId)) (h : want.toList ≠ []) : ∃ m, missingMethod want #[] = some m := by
  unfold missingMethod
  have e : (want.toList.filter fun x => match x with | (name, sig) => !(#[] : Array Method).any fun m => m.name == name && m.sig == sig) = want.toList := by
    rw [List.filter_eq_self]
    intro p _
    simp
  simp only [e]
  generalize hl : want.toList.map (·.1) = l
  have hne : l ≠ [] := by rw [← hl]; simpa using h
  generalize hp : l.partition _ = q
  have hq : q.1 ≠ [] ∨ q.2 ≠ [] := by rw [← hp]; exact part_some _ l hne
  obtain ⟨u, x⟩ := q
  cases x with
  | cons a r => exact ⟨_, rfl⟩
  | nil =>
    cases u with
    | nil => exact absurd rfl (hq.resolve_right (fun n => n rfl))
    | cons a r => exact ⟨_, rfl⟩
theorem run_assert_iface {P : Program} {T xT t : TypeId} {want : Array (String × TypeId)} (hd : P.underlying T = some (.interface want)) (hw : want.toList ≠ []) (hz : ∀ w : World, (zeroValue T).run P w = .ok .nilIface w) (hi : (P.info? t).map (·.methods) = some #[]) (v : Value) (w : World) :
    (Instr.typeAssert (.iface t v) xT T true).run P w = .ok (.tuple #[.nilIface, .bool false]) w := by
  obtain ⟨i, hi, hm⟩ := Option.map_eq_some_iff.1 hi
  obtain ⟨m, hmm⟩ := missing_some want hw
  unfold Instr.typeAssert
  simp [run_underlying hd, run_typeInfo _ hi, Result.andThen, hm, hmm, hz]
theorem assert_jsonNumber (t : TypeId) (v : Value) (w : World) : (Instr.typeAssert (.iface t v) 20 77 true).run Tryz.prog w = .ok (if t = 77 then .tuple #[v, .bool true] else .tuple #[.string ByteArray.empty, .bool false]) w :=
  run_assert Tryz.underlying77 (fun _ h => by cases h) (fun _ => by kernel_rfl) t v w
theorem assert_jsonNumber_nil (w : World) : (Instr.typeAssert .nilIface 20 77 true).run Tryz.prog w = .ok (.tuple #[.string ByteArray.empty, .bool false]) w :=
  run_assert_nil Tryz.underlying77 (fun _ h => by cases h) (fun _ => by kernel_rfl) w
theorem assert_int (t : TypeId) (v : Value) (w : World) : (Instr.typeAssert (.iface t v) 20 3 true).run Tryz.prog w = .ok (if t = 3 then .tuple #[v, .bool true] else .tuple #[.int .i64 0, .bool false]) w :=
  run_assert Tryz.underlying3 (fun _ h => by cases h) (fun _ => by kernel_rfl) t v w
theorem assert_int_nil (w : World) : (Instr.typeAssert .nilIface 20 3 true).run Tryz.prog w = .ok (.tuple #[.int .i64 0, .bool false]) w :=
  run_assert_nil Tryz.underlying3 (fun _ h => by cases h) (fun _ => by kernel_rfl) w
theorem assert_float64 (t : TypeId) (v : Value) (w : World) : (Instr.typeAssert (.iface t v) 20 46 true).run Tryz.prog w = .ok (if t = 46 then .tuple #[v, .bool true] else .tuple #[.float .f64 0, .bool false]) w :=
  run_assert Tryz.underlying46 (fun _ h => by cases h) (fun _ => by kernel_rfl) t v w
theorem assert_float64_nil (w : World) : (Instr.typeAssert .nilIface 20 46 true).run Tryz.prog w = .ok (.tuple #[.float .f64 0, .bool false]) w :=
  run_assert_nil Tryz.underlying46 (fun _ h => by cases h) (fun _ => by kernel_rfl) w
theorem assert_pbigInt (t : TypeId) (v : Value) (w : World) : (Instr.typeAssert (.iface t v) 20 39 true).run Tryz.prog w = .ok (if t = 39 then .tuple #[v, .bool true] else .tuple #[.pointer none, .bool false]) w :=
  run_assert Tryz.underlying39 (fun _ h => by cases h) (fun _ => by kernel_rfl) t v w
theorem assert_pbigInt_nil (w : World) : (Instr.typeAssert .nilIface 20 39 true).run Tryz.prog w = .ok (.tuple #[.pointer none, .bool false]) w :=
  run_assert_nil Tryz.underlying39 (fun _ h => by cases h) (fun _ => by kernel_rfl) w
theorem assert_string (t : TypeId) (v : Value) (w : World) : (Instr.typeAssert (.iface t v) 20 9 true).run Tryz.prog w = .ok (if t = 9 then .tuple #[v, .bool true] else .tuple #[.string ByteArray.empty, .bool false]) w :=
  run_assert Tryz.underlying9 (fun _ h => by cases h) (fun _ => by kernel_rfl) t v w
theorem assert_string_nil (w : World) : (Instr.typeAssert .nilIface 20 9 true).run Tryz.prog w = .ok (.tuple #[.string ByteArray.empty, .bool false]) w :=
  run_assert_nil Tryz.underlying9 (fun _ h => by cases h) (fun _ => by kernel_rfl) w
theorem assert_sl (t : TypeId) (v : Value) (w : World) : (Instr.typeAssert (.iface t v) 20 54 true).run Tryz.prog w = .ok (if t = 54 then .tuple #[v, .bool true] else .tuple #[.slice none 0 0, .bool false]) w :=
  run_assert Tryz.underlying54 (fun _ h => by cases h) (fun _ => by kernel_rfl) t v w
theorem assert_sl_nil (w : World) : (Instr.typeAssert .nilIface 20 54 true).run Tryz.prog w = .ok (.tuple #[.slice none 0 0, .bool false]) w :=
  run_assert_nil Tryz.underlying54 (fun _ h => by cases h) (fun _ => by kernel_rfl) w
theorem assert_m (t : TypeId) (v : Value) (w : World) : (Instr.typeAssert (.iface t v) 20 56 true).run Tryz.prog w = .ok (if t = 56 then .tuple #[v, .bool true] else .tuple #[.map none, .bool false]) w :=
  run_assert Tryz.underlying56 (fun _ h => by cases h) (fun _ => by kernel_rfl) t v w
theorem assert_m_nil (w : World) : (Instr.typeAssert .nilIface 20 56 true).run Tryz.prog w = .ok (.tuple #[.map none, .bool false]) w :=
  run_assert_nil Tryz.underlying56 (fun _ h => by cases h) (fun _ => by kernel_rfl) w
theorem assert_bool (t : TypeId) (v : Value) (w : World) : (Instr.typeAssert (.iface t v) 20 4 true).run Tryz.prog w = .ok (if t = 4 then .tuple #[v, .bool true] else .tuple #[.bool false, .bool false]) w :=
  run_assert Tryz.underlying4 (fun _ h => by cases h) (fun _ => by kernel_rfl) t v w
theorem assert_bool_nil (w : World) : (Instr.typeAssert .nilIface 20 4 true).run Tryz.prog w = .ok (.tuple #[.bool false, .bool false]) w :=
  run_assert_nil Tryz.underlying4 (fun _ h => by cases h) (fun _ => by kernel_rfl) w
end Go.Proofs.YtfgjaoejcbldoaaGreatDoor
