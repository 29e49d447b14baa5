/- Contracts of impl.fromGo at null, booleans, numbers and strings. -/
/- utf8.ValidString, by the library's contract laid at this program; the two tables of package unicode/utf8 that it reads. -/
/- Contracts of spec.looker's methods and of spec.Fit. -/
/- Contract of spec.looker.value. -/
/- Contracts of spec.Fit, laws.fit, laws.zzFits1, spec.Vague. -/
import Derived.Test.YtjlkoekfcdpnaaaGreatDoorM09
import Derived.Test.YtjlkoekfcdpnaaaGreatDoorM03
import Derived.Test.YtjlkoekfcdpnaaaGreatDoorM01
import Derived.Shelf.Unicode.ValidAny
import Derived.Ground.NamesProg
import Derived.Test.YtjlkoekfcdpnaaaGreatDoorM02
import Derived.Deep.DeepCutAuto
import Derived.Deep.CutBlock
namespace Go.Proofs.YtjlkoekfcdpnaaaGreatDoor
open Go Go.RowKit
attribute [local go_sem] assert_int assert_int_nil assert_float64 assert_float64_nil assert_string assert_string_nil assert_sl assert_sl_nil assert_m assert_m_nil assert_bool assert_bool_nil
def FreshS (lo hi k : Nat) : Prop := lo ≤ k ∧ k < hi
/-- What impl.fromGo gives where it gives v. -/
def FromP (w : World) (v : V) (e : Ending) (w' : World) : Prop :=
  ∃ cs, e = .returned (.tuple #[.agg (List.toArray cs), .bool true]) ∧ RepS w' (FreshS w.heap.size w'.heap.size) v cs ∧ Below w.heap.size w w'
theorem repS_num (w : World) (S : Nat → Prop) (k h : Int) (hk : -9223372036854775808 ≤ k ∧ k ≤ 9223372036854775807) (hh : -9223372036854775808 ≤ h ∧ h ≤ 9223372036854775807) (t : ByteArray) (ht : t.size ≤ 140737488351232) :
    RepS w S (.mk k h t [] [] []) [.int .i64 k, .int .i64 h, .string t, .slice none 0 0, .slice none 0 0, .slice none 0 0] :=
  .mk (l := []) (ks := []) (vs := []) (fun _ => []) (fun _ => []) hk hh ht (by simp) (by simp) (by simp) (fun s hs => by simp at hs) (fun h => by simp at h) (fun i hi => by simp at hi)
    (fun h => by simp at h) (fun h => by simp at h) (fun i hi => by simp at hi) (Nat.le_refl 0)
def aggV (k h : Int) (t : ByteArray) : Value := .tuple #[.agg #[.int .i64 k, .int .i64 h, .string t, .slice none 0 0, .slice none 0 0, .slice none 0 0], .bool true]
theorem fromP_num {w w' : World} {k h : Int} {t : ByteArray} (hk : -9223372036854775808 ≤ k ∧ k ≤ 9223372036854775807) (hh : -9223372036854775808 ≤ h ∧ h ≤ 9223372036854775807) (ht : t.size ≤ 140737488351232) (hb : Below w.heap.size w w') :
    FromP w (.mk k h t [] [] []) (.returned (aggV k h t)) w' :=
  ⟨[.int .i64 k, .int .i64 h, .string t, .slice none 0 0, .slice none 0 0, .slice none 0 0], rfl, repS_num _ _ _ _ hk hh _ ht, hb⟩
set_option maxHeartbeats 1000000 in
set_option maxRecDepth 100000 in
theorem fromGo_null (w : World) : Calls Tryz.prog 25 #[.nilIface] w (FromP w (.mk 0 0 ⟨#[]⟩ [] [] [])) := by
  go_enter Tryz.func25, Tryz.ntmps25
  go_wp2_with fail
  exact bodyPost_ret (v := aggV 0 0 ⟨#[]⟩) (results_row_tmp (p := 2) (u := 3) (ty := 26) rfl _ _ w.heap.size 26 _ (0, 0) _ rfl (at_alloc w _) Tryz.underlying26 rfl (by kernel_rfl)) rfl (fromP_num (by omega) (by omega) (Nat.zero_le _) (below_alloc1 w _))
set_option maxHeartbeats 1000000 in
set_option maxRecDepth 100000 in
theorem fromGo_bool (b : Bool) (w : World) : Calls Tryz.prog 25 #[.iface 4 (.bool b)] w (FromP w (.mk (if b then 2 else 1) 0 ⟨#[]⟩ [] [] [])) := by
  cases b
  · go_enter Tryz.func25, Tryz.ntmps25
    go_wp2_with fail
    exact bodyPost_ret (v := aggV 1 0 ⟨#[]⟩) (results_row_tmp (p := 2) (u := 3) (ty := 26) rfl _ _ w.heap.size 26 _ (0, 0) _ rfl (at_alloc w _) Tryz.underlying26 rfl (by kernel_rfl)) rfl (fromP_num (by omega) (by omega) (Nat.zero_le _) (below_alloc1 w _))
  · go_enter Tryz.func25, Tryz.ntmps25
    go_wp2_with fail
    exact bodyPost_ret (v := aggV 2 0 ⟨#[]⟩) (results_row_tmp (p := 2) (u := 3) (ty := 26) rfl _ _ w.heap.size 26 _ (0, 0) _ rfl (at_alloc w _) Tryz.underlying26 rfl (by kernel_rfl)) rfl (fromP_num (by omega) (by omega) (Nat.zero_le _) (below_alloc1 w _))
set_option maxHeartbeats 1000000 in
set_option maxRecDepth 100000 in
theorem fromGo_str (t : ByteArray) (ht : t.size ≤ 140737488351232) (w : World) : Calls Tryz.prog 25 #[.iface 9 (.string t)] w (FromP w (.mk 4 0 t [] [] [])) := by
  go_enter Tryz.func25, Tryz.ntmps25
  go_wp2_with fail
  exact bodyPost_ret (v := aggV 4 0 t) (results_row_tmp (p := 2) (u := 3) (ty := 26) rfl _ _ w.heap.size 26 _ (0, 0) _ rfl (at_alloc w _) Tryz.underlying26 rfl (by kernel_rfl)) rfl (fromP_num (by omega) (by omega) ht (below_alloc1 w _))
set_option maxHeartbeats 1000000 in
set_option maxRecDepth 100000 in
theorem fromGo_small (n : Int) (w : World) (h1 : -4611686018427387904 ≤ n) (h2 : n ≤ 4611686018427387903) : Calls Tryz.prog 25 #[.iface 3 (.int .i64 n)] w (FromP w (.mk 3 (2 * n) ⟨#[]⟩ [] [] [])) := by
  go_enter Tryz.func25, Tryz.ntmps25
  go_wp2_with fail
  exact bodyPost_ret (v := aggV 3 (2 * n) ⟨#[]⟩) (results_row_tmp (p := 2) (u := 3) (ty := 26) rfl _ _ w.heap.size 26 _ (0, 0) _ rfl (at_alloc w _) Tryz.underlying26 rfl (by kernel_rfl)) rfl (fromP_num (by omega) (by omega) (Nat.zero_le _) (below_alloc1 w _))
set_option maxHeartbeats 1000000 in
set_option maxRecDepth 100000 in
theorem fromGo_flt (x y : Nat) (hm : FloatKind.f64.format.mul 4611686018427387904 x = some y) (P : Bool → Int → Prop) (H : ∀ w : World, Calls Tryz.prog 33 #[.float .f64 y] w fun e w' => ∃ b h, P b h ∧ e = .returned (HalfV b h) ∧ Below w.heap.size w w')
    (w : World) : Calls Tryz.prog 25 #[.iface 49 (.float .f64 x)] w fun e w' => ∃ b h, P b h ∧ e = .returned (HalfV b h) ∧ Below w.heap.size w w' := by
  have HH := Lib.hid H; clear H
  have hq : ∀ w : World, (binOp .mul 49 (.float .f64 4611686018427387904) (.float .f64 x)).run Tryz.prog w = .ok (.float .f64 y) w := fun w => run_float_arith w .mul _ .f64 _ _ _ hm
  clear hm
  go_enter Tryz.func25, Tryz.ntmps25
  go_wp2_with fail
  refine (HH.out _).mono ?_
  rintro e w2 ⟨b, h, hP, rfl, hb⟩
  have hat := (hb.block w.heap.size (by simp)).trans (at_alloc w _)
  have hb2 := below_next (below_alloc1 w _) hb
  obtain ⟨e0, e1, e2, e3, e4, e5⟩ := of_block6 hat
  obtain ⟨f0, f1, f2, f3, f4, f5⟩ := free_block6 hat
  have HP := Lib.hid hP; clear hP
  have Hat := Lib.hid hat; clear hat
  have Hb2 := Lib.hid hb2; clear hb2 hb
  cases b
  all_goals
    simp only [HalfV, Bool.false_eq_true, if_false, if_true]
    go_wp2_with fail
    refine bodyPost_ret (v := HalfV _ h) (results_row_tmp (p := 2) (u := 3) (ty := 26) rfl _ _ w.heap.size 26 _ (0, 0) _ rfl (set_row6 Hat.out _ _ _ _ _ _) Tryz.underlying26 rfl (by kernel_rfl)) rfl ⟨_, h, HP.out, rfl, below_set6 Hb2.out (Nat.le_refl _) _ _ _ _ _ _⟩
theorem fromGo_half {h : Int} (f : FitsH h) (w : World) : Calls Tryz.prog 25 #[.iface 49 (.float .f64 (hb h))] w (FromP w (.mk 3 h ⟨#[]⟩ [] [] [])) := by
  have hr : -18014398509481984 ≤ h ∧ h ≤ 18014398509481984 := ⟨f.1, f.2.1⟩
  refine (fromGo_flt (hb h) (hb (2 * h)) (mul_two_hb (hb_isH f)).1 (fun b x => b = true ∧ x = h) (fun w => (half_hb h f.exact.2 (by omega) (by omega) w).mono fun e w' q => ⟨true, h, ⟨rfl, rfl⟩, q.1, q.2⟩) w).mono ?_
  rintro e w' ⟨b, x, ⟨rfl, rfl⟩, rfl, hb⟩
  exact fromP_num (by omega) (by omega) (Nat.zero_le _) hb
end Go.Proofs.YtjlkoekfcdpnaaaGreatDoor

namespace Go.Proofs.YtjlkoekfcdpnaaaGreatDoor
open Go Go.RowKit Go.Shelf
def valid_ren : Go.Shelf.Ren := ⟨fun | 196 => 40 | 259 => 55 | n => n, fun | 0 => 0 | 3 => 3 | 4 => 4 | 5 => 5 | 9 => 9 | 12 => 12 | 46 => 122 | 53 => 137 | 119 => 118 | 138 => 120 | 139 => 121 | n => n, fun | 3 => 0 | 4 => 1 | n => n⟩
theorem valid_lays : Go.Proofs.Lays.n196 Tryz.prog valid_ren := {
  mixed := by kernel_rfl
  f196 := Tryz.func40.trans (congrArg some (by kernel_rfl))
  f259 := Tryz.func55.trans (congrArg some (by kernel_rfl))
  t0 := Tryz.underlying0
  a0 := Tryz.isAgg0
  z0 := Tryz.sizeOf0
  v0 := Tryz.zeroValue0
  t3 := Tryz.underlying3
  a3 := Tryz.isAgg3
  z3 := Tryz.sizeOf3
  v3 := Tryz.zeroValue3
  t4 := Tryz.underlying4
  a4 := Tryz.isAgg4
  z4 := Tryz.sizeOf4
  v4 := Tryz.zeroValue4
  t5 := Tryz.underlying5
  a5 := Tryz.isAgg5
  z5 := Tryz.sizeOf5
  v5 := Tryz.zeroValue5
  t9 := Tryz.underlying9
  a9 := Tryz.isAgg9
  z9 := Tryz.sizeOf9
  v9 := Tryz.zeroValue9
  t12 := Tryz.underlying12
  a12 := Tryz.isAgg12
  z12 := Tryz.sizeOf12
  v12 := Tryz.zeroValue12
  t46 := Tryz.underlying122
  a46 := Tryz.isAgg122
  z46 := Tryz.sizeOf122
  v46 := Tryz.zeroValue122
  t53 := Tryz.underlying137
  a53 := Tryz.isAgg137
  z53 := Tryz.sizeOf137
  v53 := Tryz.zeroValue137
  t119 := Tryz.underlying118
  a119 := Tryz.isAgg118
  z119 := Tryz.sizeOf118
  t138 := Tryz.underlying120
  a138 := Tryz.isAgg120
  z138 := Tryz.sizeOf120
  v138 := Tryz.zeroValue120
  t139 := Tryz.underlying121
  a139 := Tryz.isAgg121
  z139 := Tryz.sizeOf121
  v139 := Tryz.zeroValue121
  g3 := by kernel_rfl
  g4 := by kernel_rfl }
/-- The two tables of package unicode/utf8 lie in w. -/
def Tabs (w : World) : Prop := Lib.Utf8Tabs 0 1 w
theorem Tabs.carry {B : Nat} {w w' : World} (h : Tabs w) (hb : Below B w w') (h1 : 0 < B) (h2 : 1 < B) : Tabs w' := by
  refine ⟨fun c hc => (hb.cell (p := ⟨_, c, none⟩) h1).trans (h.1 c hc), fun i hi => ⟨(hb.cell (p := ⟨_, _, none⟩) h2).trans (h.2 i hi).1, (hb.cell (p := ⟨_, _, none⟩) h2).trans (h.2 i hi).2⟩⟩
theorem Tabs.setCell {w : World} (h : Tabs w) (b i : Nat) (u : Value) (h1 : 0 < b) (h2 : 1 < b) : Tabs (w.setCell ⟨b, i, none⟩ u) :=
  h.carry (B := b) (⟨rfl, rfl, rfl, by simp [World.setCell], fun k hk => Below.heap_setCell _ _ _ _ (by simp; omega)⟩) h1 h2
theorem valid_any (s : ByteArray) (w : World) (hs : s.size ≤ 9223372036854775807) (hT : Tabs w) :
    Calls Tryz.prog 40 #[.string s] w fun e w' => e = .returned (.bool (Lib.validD s.data.toList)) ∧ Below w.heap.size w w' :=
  Any.utf8_ValidString valid_lays s w hs hT
end Go.Proofs.YtjlkoekfcdpnaaaGreatDoor

namespace Go.Proofs.YtjlkoekfcdpnaaaGreatDoor
open Go Go.RowKit
/-- Block b holds the looker's three cells. -/
def LkAt (w : World) (b : Nat) (s : Lk) : Prop := w.heap[b]? = some (.cells #[.int .i64 s.parts, .int .i64 s.bytes, .bool s.bad] 47 (0, 0))
theorem LkAt.c0 {w : World} {b : Nat} {s : Lk} (h : LkAt w b s) : w.cell? ⟨b, 0, none⟩ = some (.int .i64 s.parts) := by unfold LkAt at h; simp [World.cell?, h]
theorem LkAt.c1 {w : World} {b : Nat} {s : Lk} (h : LkAt w b s) : w.cell? ⟨b, 1, none⟩ = some (.int .i64 s.bytes) := by unfold LkAt at h; simp [World.cell?, h]
theorem LkAt.c2 {w : World} {b : Nat} {s : Lk} (h : LkAt w b s) : w.cell? ⟨b, 2, none⟩ = some (.bool s.bad) := by unfold LkAt at h; simp [World.cell?, h]
theorem LkAt.fr {w : World} {b : Nat} {s : Lk} (h : LkAt w b s) (i : Nat) : w.frozen? ⟨b, i, none⟩ = false := by unfold LkAt at h; simp [World.frozen?, h]
theorem LkAt.lt {w : World} {b : Nat} {s : Lk} (h : LkAt w b s) : b < w.heap.size := (Array.getElem?_eq_some_iff.1 h).1
theorem blk_set {w : World} {b t : Nat} {cs : Array Value} (h : w.heap[b]? = some (.cells cs t (0, 0))) (i : Nat) (u : Value) : (w.setCell ⟨b, i, none⟩ u).heap[b]? = some (.cells (cs.setIfInBounds i u) t (0, 0)) := by
  simp only [World.setCell, Array.getElem?_modify]
  rw [if_pos trivial, h]
  rfl
theorem LkAt.s0 {w : World} {b : Nat} {s : Lk} (h : LkAt w b s) (n : Int) : LkAt (w.setCell ⟨b, 0, none⟩ (.int .i64 n)) b ⟨n, s.bytes, s.bad⟩ := blk_set h 0 _
theorem LkAt.s1 {w : World} {b : Nat} {s : Lk} (h : LkAt w b s) (n : Int) : LkAt (w.setCell ⟨b, 1, none⟩ (.int .i64 n)) b ⟨s.parts, n, s.bad⟩ := blk_set h 1 _
theorem LkAt.s2 {w : World} {b : Nat} {s : Lk} (h : LkAt w b s) (x : Bool) : LkAt (w.setCell ⟨b, 2, none⟩ (.bool x)) b ⟨s.parts, s.bytes, x⟩ := blk_set h 2 _
theorem LkAt.grown {w w' : World} {b : Nat} {s : Lk} {row : Option Nat} (h : LkAt w b s) (hg : w.grownBy w' row) (hne : some b ≠ row) : LkAt w' b s := (hg.block b h.lt hne).trans h
theorem LkAt.below {w w' : World} {B b : Nat} {s : Lk} (h : LkAt w b s) (hb : Below B w w') (hlt : b < B) : LkAt w' b s := (hb.block b hlt).trans h
theorem grown_setCell (w : World) (b i : Nat) (v : Value) : w.grownBy (w.setCell ⟨b, i, none⟩ v) (some b) :=
  ⟨rfl, rfl, rfl, by simp [World.setCell], fun k _ hk => Below.heap_setCell _ _ _ _ (fun e => hk (by rw [e]))⟩
theorem grown_below {w w' : World} {b B : Nat} (h : w.grownBy w' (some b)) (hB : B ≤ b) (hs : B ≤ w.heap.size) : Below B w w' :=
  ⟨h.os, h.tape, h.output, h.size, fun k hk => h.block k (by omega) (by simp; omega)⟩
theorem below_grown {w w' : World} (h : Below w.heap.size w w') (row : Option Nat) : w.grownBy w' row := ⟨h.os, h.tape, h.output, h.size, fun k hk _ => h.block k hk⟩
theorem Lk.want_eq (s : Lk) (ok : Bool) : s.want ok = ⟨s.parts, s.bytes, s.bad || !ok⟩ := rfl
set_option maxRecDepth 100000 in
theorem want_any (w : World) (b : Nat) (s : Lk) (ok : Bool) (h : LkAt w b s) : Calls Tryz.prog 31 #[.pointer (some ⟨b, 0, none⟩), .bool ok] w fun e w' =>
    e = .returned (.tuple #[]) ∧ LkAt w' b (s.want ok) ∧ w.grownBy w' (some b) := by
  have h2 := h.c2
  have f2 := h.fr 2
  go_enter Tryz.func31, Tryz.ntmps31
  go_wp2
  · have hs : s.bad = true := by assumption
    go_end0
    exact ⟨rfl, by rw [Lk.want_eq, hs]; exact h.s2 _, grown_setCell _ _ _ _⟩
  · have hs : s.bad = false := by simpa using (show ¬ s.bad = true by assumption)
    go_end0
    exact ⟨rfl, by rw [Lk.want_eq, hs]; exact h.s2 _, grown_setCell _ _ _ _⟩
theorem part_eq (s : Lk) (deep : Int) (ok : Bool) (h : ok = (decide (wrap64 (s.parts + 1) ≤ 400) && decide (s.bytes ≤ 2000) && decide (deep ≤ 60))) :
    Lk.want ⟨wrap64 (s.parts + 1), s.bytes, s.bad⟩ ok = s.part deep := by subst h; rfl
theorem str_eq (s : Lk) (t : ByteArray) (ok : Bool) (h : ok = (decide (wrap64 (s.bytes + t.size) ≤ 2000) && Lib.validD t.data.toList)) :
    Lk.want ⟨s.parts, wrap64 (s.bytes + t.size), s.bad⟩ ok = s.str t := by subst h; rfl
set_option maxRecDepth 100000 in
theorem part_any (w : World) (b : Nat) (s : Lk) (deep : Int) (h : LkAt w b s) : Calls Tryz.prog 30 #[.pointer (some ⟨b, 0, none⟩), .int .i64 deep] w fun e w' =>
    e = .returned (.bool (!(s.part deep).bad)) ∧ LkAt w' b (s.part deep) ∧ w.grownBy w' (some b) := by
  have h0 := h.c0
  have f0 := h.fr 0
  have H1 := (h.s0 (wrap64 (s.parts + 1)))
  have h1 := H1.c1
  go_enter Tryz.func30, Tryz.ntmps30
  go_wp2_with (go_at_call 31; refine (want_any _ b _ _ H1).mono ?_; rintro e w' ⟨rfl, hl, hg⟩; rw [part_eq s deep _ (by simp [*] <;> omega)] at hl; have hc2 := hl.c2)
  all_goals
    go_ret
    exact ⟨rfl, by assumption, (grown_setCell _ _ _ _).trans (by assumption)⟩
set_option maxRecDepth 100000 in
theorem str_any (w : World) (b : Nat) (s : Lk) (t : ByteArray) (h : LkAt w b s) (hT : Tabs w) (g1 : 0 < b) (g2 : 1 < b) (ht : t.size ≤ 140737488351232) : Calls Tryz.prog 32 #[.pointer (some ⟨b, 0, none⟩), .string t] w fun e w' =>
    e = .returned (.tuple #[]) ∧ LkAt w' b (s.str t) ∧ w.grownBy w' (some b) := by
  have h1 := h.c1
  have f1 := h.fr 1
  have H1 := (h.s1 (wrap64 (s.bytes + t.size)))
  have h2 := H1.c1
  have hT1 : Tabs (w.setCell ⟨b, 1, none⟩ (.int .i64 (wrap64 (s.bytes + t.size)))) := hT.setCell _ _ _ g1 g2
  go_enter Tryz.func32, Tryz.ntmps32
  by_cases hn : wrap64 (s.bytes + t.size) ≤ 2000
  · go_wp2_with fail
    refine (valid_any t _ (by omega) hT1).mono ?_
    rintro e w' ⟨rfl, hb⟩
    have hl := H1.below hb (by have := h.lt; simpa [World.setCell] using this)
    go_wp2_with fail
    refine (want_any _ b _ _ hl).mono ?_
    rintro e w2 ⟨rfl, hl2, hg2⟩
    rw [str_eq s t _ (by simp [hn])] at hl2
    go_wp2_with fail
    go_end0
    exact ⟨rfl, hl2, ((grown_setCell _ _ _ _).trans (below_grown hb _)).trans hg2⟩
  · go_wp2_with fail
    refine (want_any _ b _ _ H1).mono ?_
    rintro e w2 ⟨rfl, hl2, hg2⟩
    rw [str_eq s t _ (by simp; omega)] at hl2
    go_wp2_with fail
    go_end0
    exact ⟨rfl, hl2, (grown_setCell _ _ _ _).trans hg2⟩
end Go.Proofs.YtjlkoekfcdpnaaaGreatDoor

namespace Go.Proofs.YtjlkoekfcdpnaaaGreatDoor
open Go Go.RowKit
/-- wx is w with the argument's box laid, and what has turned since: new blocks, and block b. -/
def BoxG (w : World) (b : Nat) (cs : List Value) (wx : World) : Prop := (w.alloc (.cells cs.toArray 26)).grownBy wx (some b)
theorem BoxG.next {w wx wy : World} {b : Nat} {cs : List Value} (h : BoxG w b cs wx) (hg : wx.grownBy wy (some b)) : BoxG w b cs wy := World.grownBy.trans h hg
theorem BoxG.all {w wx : World} {b : Nat} {cs : List Value} (h : BoxG w b cs wx) : w.grownBy wx (some b) := (World.grownBy_alloc w _ (some b)).trans h
theorem BoxG.cells {w wx : World} {b : Nat} {c0 c1 c2 c3 c4 c5 : Value} (hg : BoxG w b [c0, c1, c2, c3, c4, c5] wx) (hb : b < w.heap.size) :
    wx.cell? ⟨w.heap.size, 0, none⟩ = some c0 ∧ wx.cell? ⟨w.heap.size, 1, none⟩ = some c1 ∧ wx.cell? ⟨w.heap.size, 2, none⟩ = some c2 ∧ wx.cell? ⟨w.heap.size, 3, none⟩ = some c3 ∧ wx.cell? ⟨w.heap.size, 4, none⟩ = some c4 ∧ wx.cell? ⟨w.heap.size, 5, none⟩ = some c5 := by
  have h := hg.block w.heap.size (by simp) (by simp; omega)
  have e : (w.alloc (.cells [c0, c1, c2, c3, c4, c5].toArray 26)).heap[w.heap.size]? = some (.cells [c0, c1, c2, c3, c4, c5].toArray 26) := by
    show (w.heap.push _)[w.heap.size]? = _
    simp
  rw [e] at h
  simp [World.cell?, h]
theorem RepV.six {w : World} {B : Nat} {v : V} {cs : List Value} (h : RepV w B v cs) : ∃ c0 c1 c2 c3 c4 c5, cs = [c0, c1, c2, c3, c4, c5] := by
  cases h
  exact ⟨_, _, _, _, _, _, rfl⟩
theorem want_as (w : World) (b : Nat) (s : Lk) (ok ok' : Bool) (e : ok = ok') (h : LkAt w b s) : Calls Tryz.prog 31 #[.pointer (some ⟨b, 0, none⟩), .bool ok] w fun e w' =>
    e = .returned (.tuple #[]) ∧ LkAt w' b (s.want ok') ∧ w.grownBy w' (some b) := by subst e; exact want_any w b s ok h
theorem lookL_bad (l : List V) (deep : Int) (s : Lk) (h : s.bad = true) : lookL l deep s = s := by cases l <;> simp [lookL, h]
theorem lookM_bad (p : Option ByteArray) (ks : List ByteArray) (vs : List V) (deep : Int) (s : Lk) (h : s.bad = true) : lookM p ks vs deep s = s := by cases ks <;> cases vs <;> simp [lookM, h]
def TabsB (w : World) (B : Nat) : Prop := Tabs w ∧ 0 < B ∧ 1 < B
theorem TabsB.at {w0 w : World} {B : Nat} (h : TabsB w0 B) (hb : Below B w0 w) : Tabs w := h.1.carry hb h.2.1 h.2.2
def LoopL (w0 : World) (b : Nat) (cs : List Value) (l : List V) (deep : Int) (fin : Lk) (i : Value) (wr : World) : Prop :=
  ∃ n s, n ≤ l.length ∧ i = .int .i64 (n : Nat) ∧ LkAt wr b s ∧ BoxG w0 b cs wr ∧ lookL (l.drop n) deep s = fin
def prevOf (ks : List ByteArray) (n : Nat) : Option ByteArray := if n = 0 then none else ks[n - 1]?
def LoopM (w0 : World) (b : Nat) (cs : List Value) (ks : List ByteArray) (vs : List V) (deep : Int) (fin : Lk) (i : Value) (wr : World) : Prop :=
  ∃ n s, n ≤ ks.length ∧ i = .int .i64 (n : Nat) ∧ LkAt wr b s ∧ BoxG w0 b cs wr ∧ (s.bad = true ∨ ks.length = vs.length) ∧ lookM (prevOf ks n) (ks.drop n) (vs.drop n) deep s = fin
set_option maxHeartbeats 16000000 in
set_option maxRecDepth 100000 in
theorem value_any (w0 : World) (B : Nat) (v : V) (cs : List Value) (hv : RepV w0 B v cs) (hTB : TabsB w0 B) : ∀ (w : World) (b : Nat) (s : Lk) (deep : Int), Below B w0 w → B ≤ b → LkAt w b s →
   Calls Tryz.prog 22 #[.pointer (some ⟨b, 0, none⟩), .agg cs.toArray, .int .i64 deep] w fun e w' =>
    e = .returned (.tuple #[]) ∧ LkAt w' b (lookV v deep s) ∧ w.grownBy w' (some b) := by
  induction hv with
  | @mk k hf t l ks vs la ka va lc kc vc C D hk hh ht hl hks hvs hs cl rl ck cv rv _ ihl ihv =>
  intro w b s deep hbel hB h
  have hblt := h.lt
  have hBw : B ≤ w.heap.size := by omega
  have key : ∀ wx, w.grownBy wx (some b) → Below B w0 wx := fun wx hg => hbel.trans (grown_below hg hB hBw)
  have Hih := Lib.hid ihl; clear ihl
  have Hiv := Lib.hid ihv; clear ihv
  have Hcl := Lib.hid cl; clear cl
  have Hck := Lib.hid ck; clear ck
  have Hcv := Lib.hid cv; clear cv
  have Hkey := Lib.hid key; clear key
  have Hfin := Lib.hid (show lookV (.mk k hf t l ks vs) deep s = _ from by rw [lookV])
  go_enter Tryz.func22, Tryz.ntmps22
  go_wp2_with fail
  refine (part_any _ b s deep (h.grown (World.grownBy_alloc w _ none) (by simp))).mono ?_
  rintro e wx ⟨rfl, h1, hg1⟩
  obtain ⟨BX, hBX⟩ : ∃ BX, [Value.int .i64 k, .int .i64 hf, .string t, .slice la l.length lc, .slice ka ks.length kc, .slice va vs.length vc] = BX := ⟨_, rfl⟩
  have G1 : BoxG w b BX wx := by subst hBX; exact hg1
  clear hg1
  have HBX := Lib.hid hBX; clear hBX
  have boxes : ∀ wx, BoxG w b BX wx → wx.cell? ⟨w.heap.size, 0, none⟩ = some (.int .i64 k) ∧ wx.cell? ⟨w.heap.size, 1, none⟩ = some (.int .i64 hf) ∧ wx.cell? ⟨w.heap.size, 2, none⟩ = some (.string t) ∧ wx.cell? ⟨w.heap.size, 3, none⟩ = some (.slice la l.length lc) ∧ wx.cell? ⟨w.heap.size, 4, none⟩ = some (.slice ka ks.length kc) ∧ wx.cell? ⟨w.heap.size, 5, none⟩ = some (.slice va vs.length vc) := by
    intro wx hx
    rw [← HBX.out] at hx
    exact hx.cells hblt
  have Hbox := Lib.hid boxes; clear boxes
  obtain ⟨x0, x1, x2, x3, x4, x5⟩ := Hbox.out _ G1
  by_cases hbad : (s.part deep).bad = true
  · go_wp2_with fail
    refine bodyPost_ret (results_none rfl _ _ _) rfl ⟨rfl, ?_, G1.all⟩
    rw [Hfin.out, if_pos hbad]; exact h1
  · generalize hs1 : s.part deep = s1 at *
    have Hs1 := Lib.hid hs1; clear hs1
    go_upto_region 2 with fail
    go_cut [1] (fun _ wy => LkAt wy b (s1.want (shapeB k hf t l.length ks.length vs.length)) ∧ wx.grownBy wy (some b))
    case first =>
      clear Hih Hiv Hcl Hck Hcv Hkey Hfin Hs1 G1 HBX Hbox hTB hs hl hks hvs ht hk hh hbel h
      go_wp2_with (go_at_call 31; refine (want_as _ b _ _ (shapeB k hf t l.length ks.length vs.length) (by first | (simp [shapeB, *]; done) | (simp [shapeB, *]; omega) | (simp [shapeB, *]; rw [Bool.eq_iff_iff]; simp; omega)) h1).mono ?_; rintro e w' ⟨rfl, hl, hg⟩)
      all_goals (go_meet; exact ⟨by assumption, by assumption⟩)
    case rest =>
      obtain ⟨h2, hg2⟩ := hcut
      have G2 := G1.next hg2
      clear hg2 G1 x0 x1 x2 x3 x4 x5
      obtain ⟨x0, x1, x2, x3, x4, x5⟩ := Hbox.out _ G2
      generalize hs2 : s1.want (shapeB k hf t l.length ks.length vs.length) = s2 at *
      have Hs2 := Lib.hid hs2; clear hs2
      go_upto_region 3 with fail
      go_cut [] (fun wy => LkAt wy b (s2.want (halfB hf)) ∧ wc.grownBy wy (some b))
      case first =>
        clear Hih Hiv Hcl Hck Hcv Hkey Hfin Hs1 Hs2 G2 HBX Hbox hTB hs hl hks hvs ht hk hh hbel h
        go_wp2_with (go_at_call 31; refine (want_as _ b _ _ (halfB hf) (by first | (simp [halfB, *]; done) | (simp [halfB, *]; omega)) h2).mono ?_; rintro e w' ⟨rfl, hl, hg⟩)
        all_goals (go_meet; exact ⟨by assumption, by assumption⟩)
      case rest =>
        obtain ⟨h3, hg3⟩ := hcut
        have G3 := G2.next hg3
        clear hg3 G2 x0 x1 x2 x3 x4 x5
        obtain ⟨x0, x1, x2, x3, x4, x5⟩ := Hbox.out _ G3
        go_wp2_with fail
        refine (str_any _ b _ t h3 (hTB.at (Hkey.out _ G3.all)) (by have := hTB.2.1; omega) (by have := hTB.2.2; omega) ht).mono ?_
        rintro e wd ⟨rfl, h4, hg4⟩
        have G4 := G3.next hg4
        clear x0 x1 x2 x3 x4 x5 hbel h h1 h2 h3 G3 hg4
        generalize hs4 : (s2.want (halfB hf)).str t = s4 at *
        have Hs4 := Lib.hid hs4; clear hs4
        go_upto_block 0 with fail
        go_cut [6] (fun _ wy => LkAt wy b (lookL l deep s4) ∧ BoxG w b BX wy)
        case first =>
          clear Hiv Hck Hcv Hs1 Hs2 Hs4 Hfin HBX hk hh ht hks hvs
          go_wp2_with fail
          go_loopw [6] (fun i wr => LoopL w b BX l deep (lookL l deep s4) i wr) (fun i _ => l.length - (intOf i).toNat)
          case atStart => exact ⟨0, s4, Nat.zero_le _, rfl, h4, G4, rfl⟩
          case round =>
            obtain ⟨n, s5, hn, rfl, h5, G5, hfin⟩ := hrel
            have Hfin5 := Lib.hid hfin; clear hfin
            clear h4 G4
            obtain ⟨x0, x1, x2, x3, x4, x5⟩ := Hbox.out _ G5
            have hc2 := h5.c2
            by_cases hn' : n < l.length
            · by_cases hb5 : s5.bad = true
              · go_wp2_with fail
                go_meet
                exact ⟨by rw [← Hfin5.out, lookL_bad _ _ _ hb5]; exact h5, G5⟩
              · rw [Bool.not_eq_true] at hb5
                obtain ⟨lb, lo, rfl, hlb, hcel⟩ := Hcl.out (by omega)
                have hb0 : Below B w0 wr := Hkey.out _ G5.all
                have cc := (hcel n hn').below hb0 hlb
                have ih := Hih.out n hn' wr b s5 (wrap64 (deep + 1)) hb0 hB h5
                obtain ⟨c0, c1, c2, c3, c4, c5, hCn⟩ := (rl n hn').six
                rw [hCn] at cc ih
                obtain ⟨y0, y1, y2, y3, y4, y5⟩ := cells6 cc
                have HI := Lib.hid ih
                clear ih hCn cc hcel hb0
                go_wp2_with fail
                refine HI.out.mono ?_
                rintro e w2 ⟨rfl, h6, hg6⟩
                go_wp2_with fail
                go_roundw
                case rel => exact ⟨n + 1, _, by omega, by go_num, h6, G5.next hg6, by rw [← Hfin5.out, List.drop_eq_getElem_cons hn', lookL, if_neg (by simp [hb5])]⟩
                case measure => simp [intOf]; omega
            · go_wp2_with fail
              go_meet
              have e : n = l.length := by omega
              exact ⟨by rw [← Hfin5.out, e, List.drop_length, lookL]; exact h5, G5⟩
        case rest =>
          obtain ⟨h5, G5⟩ := hcut
          have hlen : (lookL l deep s4).bad = true ∨ ks.length = vs.length := by
            by_cases hsh : ks.length = vs.length
            · exact .inr hsh
            · left
              have e2 : s2.bad = true := by rw [← Hs2.out]; simp [Lk.want, shapeB, hsh]
              have e4 : s4.bad = true := by rw [← Hs4.out]; simp [Lk.want, Lk.str, e2]
              rw [lookL_bad _ _ _ e4]; exact e4
          generalize hs6 : lookL l deep s4 = s6 at *
          have Hs6 := Lib.hid hs6; clear hs6
          have Hlen := Lib.hid hlen; clear hlen
          clear h4 G4
          clear Hih Hcl
          go_wp2_with fail
          go_loopw [7] (fun i wr => LoopM w b BX ks vs deep (lookM none ks vs deep s6) i wr) (fun i _ => ks.length - (intOf i).toNat)
          case atStart => exact ⟨0, s6, Nat.zero_le _, rfl, h5, G5, Hlen.out, rfl⟩
          case round =>
            obtain ⟨n, s7, hn, rfl, h7, G7, hle, hfin⟩ := hrel
            have Hfin7 := Lib.hid hfin; clear hfin
            clear h5 G5
            obtain ⟨x0, x1, x2, x3, x4, x5⟩ := Hbox.out _ G7
            have hc2 := h7.c2
            by_cases hn' : n < ks.length
            · by_cases hb7 : s7.bad = true
              · go_wp2_with fail
                refine bodyPost_end (results_none rfl _ _ _) rfl ⟨rfl, ?_, G7.all⟩
                rw [Hfin.out, if_neg hbad, ← Hfin7.out, lookM_bad _ _ _ _ _ hb7]
                exact h7
              · rw [Bool.not_eq_true] at hb7
                have hle' : ks.length = vs.length := by rcases hle with e | e; (rw [hb7] at e; cases e); exact e
                have hnv : n < vs.length := by omega
                have Hle := Lib.hid hle'; clear hle' hle
                obtain ⟨kb, ko, rfl, hkb, hkc⟩ := Hck.out (by omega)
                obtain ⟨lb, lo, rfl, hlb, hcel⟩ := Hcv.out (by omega)
                have hb0 : Below B w0 wr := Hkey.out _ G7.all
                have kc0 : ∀ wy, Below B w0 wy → wy.cell? ⟨kb, ko + n, none⟩ = some (.string ks[n]) := fun wy hy => (hy.cell (p := ⟨kb, ko + n, none⟩) hkb).trans (hkc n hn')
                have kcN := Lib.hid kc0; clear kc0
                have k1 := kcN.out _ hb0
                have hs1n : ks[n].size ≤ 140737488351232 := hs _ (List.getElem_mem hn')
                obtain ⟨kn, hkn⟩ : ∃ kn, ks[n] = kn := ⟨_, rfl⟩
                rw [hkn] at k1 hs1n
                have Hkn := Lib.hid hkn; clear hkn
                go_wp2_with fail
                refine (str_any _ b _ kn h7 (hTB.at hb0) (by have := hTB.2.1; omega) (by have := hTB.2.2; omega) hs1n).mono ?_
                rintro e w8 ⟨rfl, h8, hg8⟩
                have G8 := G7.next hg8
                clear x0 x1 x2 x3 x4 x5 k1 hb0 hg8
                obtain ⟨x0, x1, x2, x3, x4, x5⟩ := Hbox.out _ G8
                go_upto_region 13 with fail
                go_cut [] (fun wy => LkAt wy b ((s7.str kn).want (riseB (prevOf ks n) kn)) ∧ w8.grownBy wy (some b))
                case first =>
                  have hb8 : Below B w0 w8 := Hkey.out _ G8.all
                  have k8 := kcN.out _ hb8
                  rw [Hkn.out] at k8
                  have h8d : LkAt w8.drew b (s7.str kn) := h8
                  by_cases hn0 : n = 0
                  · subst hn0
                    clear Hiv Hck Hcv Hs1 Hs2 Hs4 Hs6 Hfin HBX hk hh ht hks hvs kcN Hle Hfin7 hs hl hkc hcel rl hb8
                    rw [show ((0 : Nat) : Int) = 0 from rfl]
                    refine wp_region_tail 17 (by kernel_rfl) (by kernel_rfl) ?_
                    simp only [List.take_succ_cons, List.take_zero, List.drop_succ_cons, List.drop_zero]
                    repeat (go_big_quiet_step (fail))
                    refine wpQuiet_nil ?_
                    go_wp2_with fail
                    refine (want_as _ b _ _ (riseB (prevOf ks 0) kn) (by simp [riseB, prevOf]) h8d).mono ?_
                    rintro e w9 ⟨rfl, h9, hg9⟩
                    go_wp2_with fail
                    go_meet
                    exact ⟨h9, ⟨hg9.os, hg9.tape, hg9.output, hg9.size, hg9.block⟩⟩
                  · obtain ⟨pk, hpk⟩ : ∃ pk, ks[n - 1] = pk := ⟨_, rfl⟩
                    have k9 : w8.cell? ⟨kb, ko + (n - 1), none⟩ = some (.string pk) := by
                      rw [← hpk]
                      exact (hb8.cell (p := ⟨kb, ko + (n - 1), none⟩) hkb).trans (hkc (n - 1) (by omega))
                    have hpr : prevOf ks n = some pk := by rw [prevOf, if_neg hn0, List.getElem?_eq_getElem (by omega), hpk]
                    have Hpr := Lib.hid hpr; clear hpr hpk
                    have t0 : ((n : Int) == 0) = false := by simp; omega
                    have t1 : (0 : Int) ≤ (n : Int) - 1 := by omega
                    have t2 : (n : Int) - 1 < (ks.length : Int) := by omega
                    have t3 : (n : Int) < (ks.length : Int) := by omega
                    clear Hiv Hck Hcv Hs1 Hs2 Hs4 Hs6 Hfin HBX hk hh ht hvs kcN Hle Hfin7 hs hl hkc hcel rl hb8
                    refine wp_region_tail 17 (by kernel_rfl) (by kernel_rfl) ?_
                    simp only [List.take_succ_cons, List.take_zero, List.drop_succ_cons, List.drop_zero]
                    repeat (go_big_quiet_step (fail))
                    refine wpQuiet_nil ?_
                    go_wp2_with fail
                    refine (want_as _ b _ _ (riseB (prevOf ks n) kn) (by rw [Hpr.out]; rfl) h8d).mono ?_
                    rintro e w9 ⟨rfl, h9, hg9⟩
                    go_wp2_with fail
                    go_meet
                    exact ⟨h9, ⟨hg9.os, hg9.tape, hg9.output, hg9.size, hg9.block⟩⟩
                case rest =>
                  obtain ⟨h9, hg9⟩ := hcut
                  have G9 := G8.next hg9
                  clear h8 G8 hg9 x0 x1 x2 x3 x4 x5
                  obtain ⟨x0, x1, x2, x3, x4, x5⟩ := Hbox.out _ G9
                  have hb9 : Below B w0 wc := Hkey.out _ G9.all
                  have cc := (hcel n hnv).below hb9 hlb
                  have ih := Hiv.out n hnv wc b ((s7.str kn).want (riseB (prevOf ks n) kn)) (wrap64 (deep + 1)) hb9 hB h9
                  obtain ⟨c0, c1, c2, c3, c4, c5, hCn⟩ := (rv n hnv).six
                  rw [hCn] at cc ih
                  obtain ⟨y0, y1, y2, y3, y4, y5⟩ := cells6 cc
                  have HI := Lib.hid ih
                  clear ih hCn cc hcel hb9
                  go_wp2_with fail
                  refine HI.out.mono ?_
                  rintro e w2 ⟨rfl, h10, hg10⟩
                  go_wp2_with fail
                  go_roundw
                  case rel => exact ⟨n + 1, _, by omega, by go_num, h10, G9.next hg10, .inr Hle.out, by
                    rw [← Hfin7.out, List.drop_eq_getElem_cons hn', List.drop_eq_getElem_cons hnv, lookM, if_neg (by simp [hb7]), Hkn.out]
                    congr 1
                    simp [prevOf, hn', Hkn.out]⟩
                  case measure => simp [intOf]; omega
            · go_wp2_with fail
              refine bodyPost_end (results_none rfl _ _ _) rfl ⟨rfl, ?_, G7.all⟩
              have e : n = ks.length := by omega
              rw [Hfin.out, if_neg hbad, ← Hfin7.out, e, List.drop_length, lookM]
              exact h7
end Go.Proofs.YtjlkoekfcdpnaaaGreatDoor

namespace Go.Proofs.YtjlkoekfcdpnaaaGreatDoor
open Go Go.RowKit
theorem TabsB.carry {w w' : World} {B : Nat} (h : TabsB w B) (hb : Below B w w') {B' : Nat} (hB : B ≤ B') : TabsB w' B' :=
  ⟨h.at hb, by have := h.2.1; omega, by have := h.2.2; omega⟩
theorem heap_alloc_old (w : World) (o : Obj) {k : Nat} (h : k < w.heap.size) : (w.alloc o).heap[k]? = w.heap[k]? := Below.heap_alloc w o k h
set_option maxRecDepth 100000 in
theorem fit_any (w : World) (v : V) (cs : List Value) (hv : RepV w w.heap.size v cs) (hTB : TabsB w w.heap.size) :
    Calls Tryz.prog 15 #[.agg cs.toArray] w fun e w' => e = .returned (.bool (fitB v)) ∧ Below w.heap.size w w' := by
  obtain ⟨c0, c1, c2, c3, c4, c5, rfl⟩ := hv.six
  go_enter Tryz.func15, Tryz.ntmps15
  go_wp2_with fail
  have hb1 : Below w.heap.size w ((w.alloc (.cells #[c0, c1, c2, c3, c4, c5] 26)).alloc (.cells #[.int .i64 0, .int .i64 0, .bool false] 47)) :=
    ((Below.refl _ _).alloc (Nat.le_refl _) _).alloc (by simp) _
  have hl0 : LkAt ((w.alloc (.cells #[c0, c1, c2, c3, c4, c5] 26)).alloc (.cells #[.int .i64 0, .int .i64 0, .bool false] 47)) (w.heap.size + 1) ⟨0, 0, false⟩ := at_alloc2 _ _ _
  refine (value_any w w.heap.size v _ hv hTB _ _ _ 0 hb1 (by omega) hl0).mono ?_
  rintro e w2 ⟨rfl, hl, hg⟩
  have c2 := hl.c2
  have hb2 := hb1.trans (grown_below hg (B := w.heap.size) (by omega) (by simp; omega))
  go_wp2_with fail
  go_ret
  exact ⟨rfl, hb2⟩
def SomeBool (w : World) (e : Ending) (w' : World) : Prop := (∃ b : Bool, e = .returned (.bool b)) ∧ Below w.heap.size w w'
set_option maxRecDepth 100000 in
theorem zz2_any (w : World) (ks : List ByteArray) (ka : Option Addr) (kc : Nat) (hl : ks.length * 16 ≤ 140737488351232)
    (ck : 0 < ks.length → ∃ b o, ka = some ⟨b, o, none⟩ ∧ ∀ i (hi : i < ks.length), w.cell? ⟨b, o + i, none⟩ = some (.string ks[i])) :
    Calls Tryz.prog 14 #[.slice ka ks.length kc] w (SomeBool w) := by
  have Hck := Lib.hid ck; clear ck
  go_enter Tryz.func14, Tryz.ntmps14
  go_wp2_with fail
  · go_ret
    exact ⟨⟨_, rfl⟩, Below.refl _ _⟩
  · go_loop [10] (fun i => ∃ n : Nat, n ≤ ks.length ∧ i = .int .i64 (n : Nat)) (fun i => ks.length - (intOf i).toNat)
    case atStart => exact ⟨0, Nat.zero_le _, rfl⟩
    case round =>
      obtain ⟨n, hn, rfl⟩ := hrel
      by_cases hn' : n < ks.length
      · obtain ⟨b, o, rfl, hc⟩ := Hck.out (by omega)
        have c0 := hc n hn'
        generalize ks[n] = kn at c0
        clear hc
        go_wp2_with fail
        · go_ret
          exact ⟨⟨_, rfl⟩, Below.refl _ _⟩
        · go_round
          case rel => exact ⟨n + 1, by omega, by go_num⟩
          case measure => simp [intOf]; omega
      · go_wp2_with fail
        go_ret
        exact ⟨⟨_, rfl⟩, Below.refl _ _⟩
set_option maxRecDepth 100000 in
theorem zz1_any (w : World) (v : V) (cs : List Value) (hv : RepV w w.heap.size v cs) :
    Calls Tryz.prog 4 #[.agg cs.toArray] w (SomeBool w) := by
  cases hv with
  | @mk k hf t l ks vs la ka va lc kc vc C D hk hh ht hl hks hvs hs cl rl ck cv rv =>
  have hz := zz2_any (w.alloc (.cells #[.int .i64 k, .int .i64 hf, .string t, .slice la l.length lc, .slice ka ks.length kc, .slice va vs.length vc] 26)) ks ka kc hks (fun h0 => by
    obtain ⟨b, o, e, hb, hc⟩ := ck h0
    exact ⟨b, o, e, fun i hi => ((below_alloc1 w _).cell (p := ⟨b, o + i, none⟩) hb).trans (hc i hi)⟩)
  have HZ := Lib.hid hz; clear hz
  clear cl rl ck cv rv hs
  go_enter Tryz.func4, Tryz.ntmps4
  go_wp2_with fail
  · refine bodyPost_ret (results_tmp rfl _ _ _) rfl ⟨⟨_, rfl⟩, below_alloc1 _ _⟩
  · refine bodyPost_ret (results_tmp rfl _ _ _) rfl ⟨⟨_, rfl⟩, below_alloc1 _ _⟩
  · refine HZ.out.mono ?_
    rintro e w2 ⟨⟨bb, rfl⟩, hb2⟩
    have hb3 := below_next (below_alloc1 w _) hb2
    obtain ⟨e0, e1, e2, e3, e4, e5⟩ := of_block6 ((hb2.block w.heap.size (by simp)).trans (at_alloc _ _))
    cases bb
    · go_wp2_with fail
      refine bodyPost_ret (results_tmp rfl _ _ _) rfl ⟨⟨_, rfl⟩, hb3⟩
    · go_wp2_with fail
      all_goals refine bodyPost_ret (results_tmp rfl _ _ _) rfl ⟨⟨_, rfl⟩, by assumption⟩
end Go.Proofs.YtjlkoekfcdpnaaaGreatDoor
