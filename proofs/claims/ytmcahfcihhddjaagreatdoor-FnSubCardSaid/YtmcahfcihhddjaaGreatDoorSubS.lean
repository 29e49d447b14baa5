/- Contracts of spec.number, Array, among, minus. -/
/- Contract of spec.minus. -/
/- spec.Operate at "-". -/
import Derived.Test.YtmcahfcihhddjaaGreatDoorTold2
import Derived.Test.YtmcahfcihhddjaaGreatDoorRowB
import Derived.Test.YtmcahfcihhddjaaGreatDoorLook3
import Derived.WalkLawsBesides
namespace Go.Proofs.YtmcahfcihhddjaaGreatDoor
open Go Go.RowKit Go.Maps Go.Deep

/-- What the reference answers. -/
inductive Ans where
  | fine (v : V)
  | raises
  | silent
def Ans.how : Ans → Int
  | .fine _ => 0
  | .raises => 1
  | .silent => 2

/-- The blocks below B, and those made since w. -/
def OldNew (B : Nat) (w w' : World) (k : Nat) : Prop := k < B ∨ (w.heap.size ≤ k ∧ k < w'.heap.size)

def AnsAt (w : World) (B : Nat) (a : Ans) (e : Ending) (w' : World) : Prop :=
  ∃ (k h : Int) (t : ByteArray) (la ka va : Option Addr) (nl cl nk ck nv cv : Nat), e = .returned (.tuple #[.agg #[.int .i64 k, .int .i64 h, .string t, .slice la nl cl, .slice ka nk ck, .slice va nv cv], .int .i64 a.how]) ∧
    (∀ v, a = .fine v → RepS w' (OldNew B w w') v [.int .i64 k, .int .i64 h, .string t, .slice la nl cl, .slice ka nk ck, .slice va nv cv]) ∧ Below w.heap.size w w'

def numA (h : Int) : Ans := if h < -18014398509481984 ∨ h > 18014398509481984 ∨ (h.tmod 2 ≠ 0 ∧ (h ≤ -9007199254740992 ∨ h ≥ 9007199254740992)) then .silent else .fine (.mk 3 h ⟨#[]⟩ [] [] [])

theorem repS_half (w : World) (B : Nat → Prop) (k h : Int) (hk : -9223372036854775808 ≤ k ∧ k ≤ 9223372036854775807) (hh : -9223372036854775808 ≤ h ∧ h ≤ 9223372036854775807) :
    RepS w B (.mk k h ⟨#[]⟩ [] [] []) [.int .i64 k, .int .i64 h, .string ⟨#[]⟩, .slice none 0 0, .slice none 0 0, .slice none 0 0] :=
  .mk (l := []) (ks := []) (vs := []) (fun _ => []) (fun _ => []) hk hh (Nat.zero_le _) (by simp) (by simp) (by simp) (fun s hs => by simp at hs) (fun h => by simp at h) (fun i hi => by simp at hi)
    (fun h => by simp at h) (fun h => by simp at h) (fun i hi => by simp at hi)

theorem tmod_emod (h : Int) : h.tmod 2 = 0 ↔ h % 2 = 0 := by
  by_cases c : 0 ≤ h
  · rw [Int.tmod_eq_emod_of_nonneg c]
  · have e : h.tmod 2 = -((-h) % 2) := by
      have := Int.tmod_eq_emod_of_nonneg (a := -h) (b := 2) (by omega)
      rw [Int.neg_tmod] at this
      omega
    rw [e]
    omega

set_option maxHeartbeats 1000000 in
set_option maxRecDepth 100000 in
theorem number_any (B : Nat) (h : Int) (w : World) (hr : -9223372036854775808 ≤ h ∧ h ≤ 9223372036854775807) : Calls Tryz.prog 27 #[.int .i64 h] w (AnsAt w B (numA h)) := by
  have no : numA h = .silent → AnsAt w B (numA h) (.returned (.tuple #[.agg #[.int .i64 0, .int .i64 0, .string ⟨#[]⟩, .slice none 0 0, .slice none 0 0, .slice none 0 0], .int .i64 2])) (w.alloc (.cells #[.int .i64 0, .int .i64 0, .string ⟨#[]⟩, .slice none 0 0, .slice none 0 0, .slice none 0 0] 26)) := by
    intro e
    rw [e]
    exact ⟨_, _, _, _, _, _, _, _, _, _, _, _, rfl, (fun v e => by cases e), below_alloc1 w _⟩
  have yes : numA h = .fine (.mk 3 h ⟨#[]⟩ [] [] []) → AnsAt w B (numA h) (.returned (.tuple #[.agg #[.int .i64 3, .int .i64 h, .string ⟨#[]⟩, .slice none 0 0, .slice none 0 0, .slice none 0 0], .int .i64 0])) (w.alloc (.cells #[.int .i64 3, .int .i64 h, .string ⟨#[]⟩, .slice none 0 0, .slice none 0 0, .slice none 0 0] 26)) := by
    intro e
    rw [e]
    exact ⟨_, _, _, _, _, _, _, _, _, _, _, _, rfl, (fun v e => by cases e; exact repS_half _ _ 3 h (by omega) hr), below_alloc1 w _⟩
  by_cases c1 : h < -18014398509481984
  · have Hno := Lib.hid (no (by unfold numA; rw [if_pos (.inl c1)]))
    clear no yes hr
    go_enter Tryz.func27, Tryz.ntmps27
    go_wp2_with fail
    exact bodyPost_ret (results_row_tmp (p := 2) (u := 3) (ty := 26) rfl _ _ w.heap.size 26 _ (0, 0) _ rfl (at_alloc w _) Tryz.underlying26 rfl (by kernel_rfl)) rfl Hno.out
  by_cases c2 : h > 18014398509481984
  · have Hno := Lib.hid (no (by unfold numA; rw [if_pos (.inr (.inl c2))]))
    clear no yes hr
    go_enter Tryz.func27, Tryz.ntmps27
    go_wp2_with fail
    exact bodyPost_ret (results_row_tmp (p := 2) (u := 3) (ty := 26) rfl _ _ w.heap.size 26 _ (0, 0) _ rfl (at_alloc w _) Tryz.underlying26 rfl (by kernel_rfl)) rfl Hno.out
  by_cases c3 : h.tmod 2 = 0
  · have Hyes := Lib.hid (yes (by unfold numA; rw [if_neg (by omega)]))
    have t3 : (h.tmod 2 != 0) = false := by rw [c3]; rfl
    have t4 : (h % 2 != 0) = false := by rw [(tmod_emod h).1 c3]; rfl
    clear no yes hr c3
    go_enter Tryz.func27, Tryz.ntmps27
    go_wp2_with fail
    exact bodyPost_ret (results_row_tmp (p := 2) (u := 3) (ty := 26) rfl _ _ w.heap.size 26 _ (0, 0) _ rfl (at_alloc w _) Tryz.underlying26 rfl (by kernel_rfl)) rfl Hyes.out
  have t3 : (h.tmod 2 != 0) = true := by simpa using c3
  have t4 : (h % 2 != 0) = true := by rw [bne_iff_ne]; exact fun e => c3 ((tmod_emod h).2 e)
  by_cases c4 : h ≤ -9007199254740992
  · have Hno := Lib.hid (no (by unfold numA; rw [if_pos (.inr (.inr ⟨c3, .inl c4⟩))]))
    clear no yes hr c3
    go_enter Tryz.func27, Tryz.ntmps27
    go_wp2_with fail
    exact bodyPost_ret (results_row_tmp (p := 2) (u := 3) (ty := 26) rfl _ _ w.heap.size 26 _ (0, 0) _ rfl (at_alloc w _) Tryz.underlying26 rfl (by kernel_rfl)) rfl Hno.out
  by_cases c5 : h ≥ 9007199254740992
  · have Hno := Lib.hid (no (by unfold numA; rw [if_pos (.inr (.inr ⟨c3, .inr c5⟩))]))
    clear no yes hr c3
    go_enter Tryz.func27, Tryz.ntmps27
    go_wp2_with fail
    exact bodyPost_ret (results_row_tmp (p := 2) (u := 3) (ty := 26) rfl _ _ w.heap.size 26 _ (0, 0) _ rfl (at_alloc w _) Tryz.underlying26 rfl (by kernel_rfl)) rfl Hno.out
  have Hyes := Lib.hid (yes (by unfold numA; rw [if_neg (by omega)]))
  clear no yes hr c3
  go_enter Tryz.func27, Tryz.ntmps27
  go_wp2_with fail
  exact bodyPost_ret (results_row_tmp (p := 2) (u := 3) (ty := 26) rfl _ _ w.heap.size 26 _ (0, 0) _ rfl (at_alloc w _) Tryz.underlying26 rfl (by kernel_rfl)) rfl Hyes.out

set_option maxRecDepth 100000 in
theorem array_any (a : Option Addr) (n c : Nat) (w : World) : Calls Tryz.prog 29 #[.slice a n c] w fun e w' =>
    e = .returned (.agg #[.int .i64 5, .int .i64 0, .string ⟨#[]⟩, .slice a n c, .slice none 0 0, .slice none 0 0]) ∧ Below w.heap.size w w' := by
  go_enter Tryz.func29, Tryz.ntmps29
  go_wp2_with fail
  refine bodyPost_ret (v := .agg #[.int .i64 5, .int .i64 0, .string ⟨#[]⟩, .slice a n c, .slice none 0 0, .slice none 0 0]) ?_ rfl ⟨rfl, below_alloc1 w _⟩
  exact results_cell_row (p := 2) (ty := 26) rfl _ _ w.heap.size 26 _ (0, 0) _ rfl (at_alloc w _) Tryz.underlying26 rfl (by kernel_rfl)

def AmongLoop (W : World) (l : List V) (x : V) (i : Value) (wr : World) : Prop := ∃ n : Nat, n ≤ l.length ∧ i = .int .i64 (n : Nat) ∧ Below W.heap.size W wr ∧ (l.take n).any (fun y => sameB y x) = false

set_option maxHeartbeats 2000000 in
set_option maxRecDepth 100000 in
theorem among_any (w0 : World) (B : Nat) (l : List V) (la : Option Addr) (lc : Nat) (C : Nat → List Value) (x : V) (cx : List Value) (hl : l.length * 104 ≤ 140737488351232)
    (cl : 0 < l.length → ∃ b o, la = some ⟨b, o, none⟩ ∧ b < B ∧ ∀ i, i < l.length → CellsAt w0 b (o + i * 6) (C i)) (rl : ∀ i (hi : i < l.length), RepV w0 B l[i] (C i))
    (hx : RepV w0 B x cx) (w : World) (hbel : Below B w0 w) (hB : B ≤ w.heap.size) :
    Calls Tryz.prog 31 #[.slice la l.length lc, .agg cx.toArray] w (BoolP w (l.any fun y => sameB y x)) := by
  have Hcl := Lib.hid cl; clear cl
  obtain ⟨k, h, t, la', ka', va', nl, cl, nk, ck, nv, cv, rfl⟩ := hx.shape
  obtain ⟨W, hW⟩ : ∃ W, W = w.alloc (.cells #[.int .i64 k, .int .i64 h, .string t, .slice la' nl cl, .slice ka' nk ck, .slice va' nv cv] 26) := ⟨_, rfl⟩
  have hWs : W.heap.size = w.heap.size + 1 := by rw [hW]; simp
  have hbW : Below w.heap.size w W := by rw [hW]; exact below_alloc1 _ _
  have hat : W.heap[w.heap.size]? = some (.cells #[.int .i64 k, .int .i64 h, .string t, .slice la' nl cl, .slice ka' nk ck, .slice va' nv cv] 26) := by rw [hW]; exact at_alloc _ _
  have key : ∀ wx, Below W.heap.size W wx → Below B w0 wx ∧ Below w.heap.size w wx := fun wx hx => ⟨(hbel.trans (hbW.mono hB)).trans (hx.mono (by omega)), hbW.trans (hx.mono (by omega))⟩
  have Hkey := Lib.hid key; clear key
  have Hat := Lib.hid hat; clear hat
  have S := Lib.hid fun n (hn : n < l.length) w' h1 h2 => same_any w0 B l[n] x _ _ (rl n hn) hx w' h1 h2
  clear hbel hx
  go_enter Tryz.func31, Tryz.ntmps31
  go_wp2_with fail
  rw [← hW]
  have HW := Lib.hid hW; clear hW
  go_loopw [9] (fun i wr => AmongLoop W l x i wr) (fun i _ => l.length - (intOf i).toNat)
  case atStart => exact ⟨0, Nat.zero_le _, rfl, Below.refl _ _, rfl⟩
  case round =>
    obtain ⟨n, hn, rfl, hb, hany⟩ := hrel
    obtain ⟨hb0, hb1⟩ := Hkey.out _ hb
    have hs := hb.size
    by_cases hn' : n < l.length
    · obtain ⟨lb, lo, rfl, hlb, hcel⟩ := Hcl.out (by omega)
      have cc := (hcel n hn').below hb0 hlb
      have hb2 : Below wr.heap.size wr (wr.alloc (.cells (C n).toArray 26)) := below_alloc1 _ _
      have ss := S.out n hn' _ (hb0.trans (hb2.mono (by omega))) (by simp; omega)
      obtain ⟨k', h', t', la2, ka2, va2, nl', cl', nk', ck', nv', cv', hCn⟩ := (rl n hn').shape
      rw [hCn] at cc ss hb2
      obtain ⟨y0, y1, y2, y3, y4, y5⟩ := cells6 cc
      obtain ⟨a0, a1, a2, a3, a4, a5⟩ := of_block6 ((hb.block w.heap.size (by omega)).trans Hat.out)
      have hlt : w.heap.size < wr.heap.size := by omega
      have hne : ¬ (w.heap.size = wr.heap.size) := by omega
      have HS := Lib.hid ss
      have Hany := Lib.hid hany
      have hsn : (l.take (n + 1)).any (fun y => sameB y x) = sameB l[n] x := by
        rw [List.take_succ_eq_append_getElem hn', List.any_append, hany]; simp
      have hall : sameB l[n] x = true → l.any (fun y => sameB y x) = true := fun h => List.any_eq_true.2 ⟨_, List.getElem_mem hn', h⟩
      have Hsn := Lib.hid hsn
      have Hall := Lib.hid hall
      clear ss hCn cc hcel hb0 hany hsn hall
      go_wp2_with fail
      refine HS.out.mono ?_
      rintro e w2 ⟨rfl, hb3⟩
      have hb4 : Below W.heap.size W w2 := (hb.trans (hb2.mono hb.size)).trans (hb3.mono (by simp; omega))
      clear HS a0 a1 a2 a3 a4 a5 y0 y1 y2 y3 y4 y5
      cases hsb : sameB l[n] x with
      | true =>
        have Hr := Lib.hid (Hall.out hsb)
        clear hsb
        go_wp2_with fail
        go_ret
        exact ⟨by rw [Hr.out]; rfl, (Hkey.out _ hb4).2⟩
      | false =>
        have Hr := Lib.hid (Hsn.out.trans hsb)
        clear hsb
        go_wp2_with fail
        go_roundw
        case rel => exact ⟨n + 1, by omega, by go_num, hb4, Hr.out⟩
        case measure => simp [intOf]; omega
    · have e : n = l.length := by omega
      have Hr := Lib.hid (show l.any (fun y => sameB y x) = false by rw [← hany, e, List.take_length])
      clear hany
      go_wp2_with fail
      go_ret
      exact ⟨by rw [Hr.out]; rfl, hb1⟩

end Go.Proofs.YtmcahfcihhddjaaGreatDoor

namespace Go.Proofs.YtmcahfcihhddjaaGreatDoor
open Go Go.RowKit Go.Maps Go.Deep

/-- The elements of l that l' has not. -/
def lessL (l l' : List V) : List V := l.filter fun x => !(l'.any fun y => sameB y x)

def subA (a b : V) : Ans :=
  if a.kind = 3 ∧ b.kind = 3 then numA (wrap64 (a.half - b.half)) else if a.kind ≠ 5 ∨ b.kind ≠ 5 then .raises else .fine (.mk 5 0 ⟨#[]⟩ (lessL a.list b.list) [] [])

theorem subA_mk (k h : Int) (t : ByteArray) (l : List V) (ks : List ByteArray) (vs : List V) (k' h' : Int) (t' : ByteArray) (l' : List V) (ks' : List ByteArray) (vs' : List V) :
    subA (.mk k h t l ks vs) (.mk k' h' t' l' ks' vs') = if k = 3 ∧ k' = 3 then numA (wrap64 (h - h')) else if k ≠ 5 ∨ k' ≠ 5 then .raises else .fine (.mk 5 0 ⟨#[]⟩ (lessL l l') [] []) := rfl

theorem lessL_snoc {l l' : List V} {n : Nat} (h : n < l.length) : lessL (l.take (n + 1)) l' = if (l'.any fun y => sameB y l[n]) = true then lessL (l.take n) l' else lessL (l.take n) l' ++ [l[n]] := by
  unfold lessL
  rw [List.take_succ_eq_append_getElem h, List.filter_append]
  by_cases c : (l'.any fun y => sameB y l[n]) = true
  · rw [if_pos c]; simp [c]
  · rw [if_neg c]; simp [c]
theorem lessL_len (l l' : List V) (n : Nat) : (lessL (l.take n) l').length ≤ n := by
  unfold lessL
  have h1 := List.length_filter_le (fun x => !(l'.any fun y => sameB y x)) (l.take n)
  rw [List.length_take] at h1
  omega

/-- What a callee answers, stored into the result's own box. -/
theorem ans_store {w w1 w2 : World} {B z : Nat} {a : Ans} {k x : Int} {t : ByteArray} {la ka va : Option Addr} {nl cl nk ck nv cv : Nat} (hb1 : Below w.heap.size w w1) (hz : w.heap.size ≤ z) (hz2 : z < w1.heap.size) (hB : B ≤ w.heap.size)
    (hv : ∀ v, a = .fine v → RepS w2 (OldNew B w1 w2) v [.int .i64 k, .int .i64 x, .string t, .slice la nl cl, .slice ka nk ck, .slice va nv cv]) (hb2 : Below w1.heap.size w1 w2) :
    AnsAt w B a (.returned (.tuple #[.agg #[.int .i64 k, .int .i64 x, .string t, .slice la nl cl, .slice ka nk ck, .slice va nv cv], .int .i64 a.how])) ((((((w2.setCell ⟨z, 0, none⟩ (.int .i64 k)).setCell ⟨z, 1, none⟩ (.int .i64 x)).setCell ⟨z, 2, none⟩ (.string t)).setCell ⟨z, 3, none⟩ (.slice la nl cl)).setCell ⟨z, 4, none⟩ (.slice ka nk ck)).setCell ⟨z, 5, none⟩ (.slice va nv cv)) := by
  have h1 := hb1.size
  have h2 := hb2.size
  refine ⟨_, _, _, _, _, _, _, _, _, _, _, _, rfl, (fun v e => (hv v e).turn fun q hq => ⟨set6_other _ _ _ _ _ _ _ _ _ ?_, ?_⟩), below_set6 (hb1.trans (hb2.mono h1)) hz _ _ _ _ _ _⟩
  · rcases hq with hq | hq <;> omega
  · unfold OldNew
    rw [set6_size]
    rcases hq with hq | hq
    · exact .inl hq
    · exact .inr ⟨by omega, hq.2⟩

def MinusLoop (W : World) (B : Nat) (l l' : List V) (v i : Value) (wr : World) : Prop :=
  ∃ (n : Nat) (v' : Value), n ≤ l.length ∧ v' = v ∧ i = .int .i64 (n : Nat) ∧ Below W.heap.size W wr ∧ RowB wr B W.heap.size v' (lessL (l.take n) l')

set_option maxHeartbeats 4000000 in
set_option maxRecDepth 100000 in
theorem minus_list (w0 : World) (B : Nat) (h h' : Int) (t t' : ByteArray) (l l' ls : List V) (ka va la la' ka' va' : Option Addr) (nk kc nv vc lc lc' nk' kc' nv' vc' : Nat) (C C' : Nat → List Value)
    (hl : l.length * 104 ≤ 140737488351232) (hl' : l'.length * 104 ≤ 140737488351232)
    (cl : 0 < l.length → ∃ b o, la = some ⟨b, o, none⟩ ∧ b < B ∧ ∀ i, i < l.length → CellsAt w0 b (o + i * 6) (C i)) (rl : ∀ i (hi : i < l.length), RepV w0 B l[i] (C i))
    (cl' : 0 < l'.length → ∃ b o, la' = some ⟨b, o, none⟩ ∧ b < B ∧ ∀ i, i < l'.length → CellsAt w0 b (o + i * 6) (C' i)) (rl' : ∀ i (hi : i < l'.length), RepV w0 B l'[i] (C' i))
    (he : lessL l l' = ls) (w : World) (hbel : Below B w0 w) (hB : B ≤ w.heap.size) :
    Calls Tryz.prog 15 #[.agg #[.int .i64 5, .int .i64 h, .string t, .slice la l.length lc, .slice ka nk kc, .slice va nv vc], .agg #[.int .i64 5, .int .i64 h', .string t', .slice la' l'.length lc', .slice ka' nk' kc', .slice va' nv' vc']] w
      (AnsAt w B (.fine (.mk 5 0 ⟨#[]⟩ ls [] []))) := by
  obtain ⟨i0, hi, hz0, hz1, hz2⟩ := info_parts info_value
  have Hcl := Lib.hid cl; clear cl
  have AM := Lib.hid fun (x : V) (cx : List Value) (hx : RepV w0 B x cx) w' h1 h2 => among_any w0 B l' la' lc' C' x cx hl' cl' rl' hx w' h1 h2
  clear cl' rl'
  obtain ⟨W, hW⟩ : ∃ W, W = ((w.alloc (.cells #[.int .i64 5, .int .i64 h, .string t, .slice la l.length lc, .slice ka nk kc, .slice va nv vc] 26)).alloc (.cells #[.int .i64 5, .int .i64 h', .string t', .slice la' l'.length lc', .slice ka' nk' kc', .slice va' nv' vc'] 26)).alloc
    (.cells #[.int .i64 0, .int .i64 0, .string ⟨#[]⟩, .slice none 0 0, .slice none 0 0, .slice none 0 0] 26) := ⟨_, rfl⟩
  obtain ⟨hbW, hWs, hat1, hat2⟩ := at_alloc3 w (.cells #[.int .i64 5, .int .i64 h, .string t, .slice la l.length lc, .slice ka nk kc, .slice va nv vc] 26) (.cells #[.int .i64 5, .int .i64 h', .string t', .slice la' l'.length lc', .slice ka' nk' kc', .slice va' nv' vc'] 26)
    (.cells #[.int .i64 0, .int .i64 0, .string ⟨#[]⟩, .slice none 0 0, .slice none 0 0, .slice none 0 0] 26)
  rw [← hW] at hbW hWs hat1 hat2
  have key : ∀ wx, Below W.heap.size W wx → Below B w0 wx ∧ Below w.heap.size w wx := fun wx hx => ⟨(hbel.trans (hbW.mono hB)).trans (hx.mono (by omega)), hbW.trans (hx.mono (by omega))⟩
  have Hkey := Lib.hid key; clear key
  have Hat1 := Lib.hid hat1; clear hat1
  have Hat2 := Lib.hid hat2; clear hat2
  have He := Lib.hid he; clear he
  clear hbel hbW
  go_enter Tryz.func15, Tryz.ntmps15
  go_wp2_with fail
  rw [← hW]
  have HW := Lib.hid hW; clear hW
  go_loopw [6, 39] (fun v i wr => MinusLoop W B l l' v i wr) (fun _ i _ => l.length - (intOf i).toNat)
  case atStart => exact ⟨0, _, Nat.zero_le _, rfl, rfl, Below.refl _ _, RowB.nil _ _ _⟩
  case round =>
    obtain ⟨n, v, hn, rfl, rfl, hb, hrow⟩ := hrel
    obtain ⟨hb0, hb1⟩ := Hkey.out _ hb
    have hs := hb.size
    by_cases hn' : n < l.length
    · obtain ⟨lb, lo, rfl, hlb, hcel⟩ := Hcl.out (by omega)
      have cc := (hcel n hn').below hb0 hlb
      have hb2 : Below wr.heap.size wr (wr.alloc (.cells (C n).toArray 26)) := below_alloc1 _ _
      have hs2 := size_alloc1 wr (.cells (C n).toArray 26)
      have am := AM.out l[n] (C n) (rl n hn') _ (hb0.trans (hb2.mono (by omega))) (by simp; omega)
      have rx := (rl n hn').carry hb0 (Nat.le_refl _)
      have hx6 := rx.toS.six
      have hx1 := rx.toS.one
      obtain ⟨k', q', t2, la2, ka2, va2, nl', cl', nk2, ck', nv2, cv', hCn⟩ := (rl n hn').shape
      have hsnoc := lessL_snoc (l' := l') hn'
      have hlen := lessL_len l l' n
      have c1 : (lessL (l.take n) l').length + 1 ≤ maxLen := by unfold maxLen; omega
      have c2 : ((lessL (l.take n) l').length + 1) * 104 ≤ 140737488355328 := by omega
      rw [hCn] at cc am hb2 hs2 rx hx6 hx1
      obtain ⟨y0, y1, y2, y3, y4, y5⟩ := cells6 cc
      obtain ⟨b0, b1, b2, b3, b4, b5⟩ := of_block6 ((hb.block (w.heap.size + 1) (by omega)).trans Hat1.out)
      have hlt : w.heap.size + 1 < wr.heap.size := by omega
      have hne : ¬ (w.heap.size + 1 = wr.heap.size) := by omega
      have HS := Lib.hid am
      have Hsn := Lib.hid hsnoc
      have Hrow := Lib.hid hrow
      have Hrx := Lib.hid rx
      clear am hCn cc hcel hsnoc hrow rx
      go_wp2_with fail
      refine HS.out.mono ?_
      rintro e w2 ⟨rfl, hb3⟩
      have hb4 : Below W.heap.size W w2 := (hb.trans (hb2.mono hb.size)).trans (hb3.mono (by omega))
      clear HS b0 b1 b2 b3 b4 b5 y0 y1 y2 y3 y4 y5
      have hrow2 := (Hrow.out.below hb2 (by omega)).below hb3 (by omega)
      have hbx : w2.heap[wr.heap.size]? = some (.cells #[.int .i64 k', .int .i64 q', .string t2, .slice la2 nl' cl', .slice ka2 nk2 ck', .slice va2 nv2 cv'] 26) := (hb3.block _ (by omega)).trans (at_alloc _ _)
      have hs3 := hb3.size
      cases hsb : (l'.any fun y => sameB y l[n]) with
      | true =>
        have Hr := Lib.hid (Hsn.out.trans (if_pos hsb))
        clear hsb
        go_wp2_with fail
        go_roundw
        case rel => exact ⟨n + 1, v, by omega, rfl, by go_num, hb4, by rw [Hr.out]; exact hrow2⟩
        case measure => simp [intOf]; omega
      | false =>
        have Hr := Lib.hid (Hsn.out.trans (if_neg (by rw [hsb]; simp)))
        clear hsb
        obtain ⟨x0, x1, x2, x3, x4, x5⟩ := of_block6 hbx
        have hlt2 : wr.heap.size < w2.heap.size := by omega
        have hbn := below_alloc1 w2 (.cells #[.int .i64 k', .int .i64 q', .string t2, .slice la2 nl' cl', .slice ka2 nk2 ck', .slice va2 nv2 cv'] 26)
        have hsn := size_alloc1 w2 (.cells #[.int .i64 k', .int .i64 q', .string t2, .slice la2 nl' cl', .slice ka2 nk2 ck', .slice va2 nv2 cv'] 26)
        have hnews := cells_new w2 [.int .i64 k', .int .i64 q', .string t2, .slice la2 nl' cl', .slice ka2 nk2 ck', .slice va2 nv2 cv'] 26
        have hs3 := hb3.size
        obtain ⟨CC, hown, hr1⟩ := hrow2.below hbn (by omega)
        have hob : ∀ g, v.ownBlock = some g → W.heap.size ≤ g := fun g hg => (hown.lt g hg).1
        have hrx2 := (Hrx.out.carry ((hb2.trans (hb3.mono (by omega))).mono (by omega)) (Nat.le_refl _)).carry (hbn.mono (by omega)) (Nat.le_refl _)
        have hnext : ∀ v' w', w'.ownsRow W.heap.size 26 6 v' ((lessL (l.take n) l').length + 1) (flat CC (lessL (l.take n) l').length ++ [.int .i64 k', .int .i64 q', .string t2, .slice la2 nl' cl', .slice ka2 nk2 ck', .slice va2 nv2 cv']) →
            (w2.alloc (.cells #[.int .i64 k', .int .i64 q', .string t2, .slice la2 nl' cl', .slice ka2 nk2 ck', .slice va2 nv2 cv'] 26)).grownBy w' v.ownBlock →
            (v'.ownBlock = v.ownBlock ∨ v'.ownBlock = some (w2.alloc (.cells #[.int .i64 k', .int .i64 q', .string t2, .slice la2 nl' cl', .slice ka2 nk2 ck', .slice va2 nv2 cv'] 26)).heap.size) → MinusLoop W B l l' v' (.int .i64 ((n : Int) + 1)) w' := by
          intro v' w' ho hg hat
          have hst := RowB.step (w' := w') (x := l[n]) (v' := v') hr1 hrx2 (by omega) (by omega) hob ho hg
          refine ⟨n + 1, v', by omega, rfl, rfl, (hb4.trans (hbn.mono (by omega))).grown hg (by omega) (fun q hq => hob q hq), ?_⟩
          rw [Hr.out]
          exact hst
        have Hnext := Lib.hid hnext
        have hbase : W.heap.size ≤ (w2.alloc (.cells #[.int .i64 k', .int .i64 q', .string t2, .slice la2 nl' cl', .slice ka2 nk2 ck', .slice va2 nv2 cv'] 26)).heap.size := by omega
        clear hnext hr1 hrow2 hob hbx hbn hrx2
        go_wp2_with (at_builtin; go_loud (refine wpList_append_own_at _ rfl (.tmp 48) (.tmp 50) 23 rfl W.heap.size 26 i0 _ 6 104 Tryz.underlying23 hi hz0 hz1 hz2 rfl (by decide) v (lessL (l.take n) l').length (flat CC (lessL (l.take n) l').length) rfl hown _ 1 1 _ rfl hx6 hnews hx1 c1 c2 hbase ?_; intro v' w5 hown5 hg5 _ hat5; have Hloop := Lib.hid (Hnext.out v' w5 hown5 hg5 hat5); obtain ⟨la', lc', rfl⟩ := row_form hown5; clear hown5 hg5 hat5))
        go_roundw
        case rel => exact Hloop.out
        case measure => simp [intOf]; omega
    · have e : n = l.length := by omega
      rw [e, List.take_length, He.out] at hrow
      have hll : ls.length * 104 ≤ 140737488351232 := by
        have := lessL_len l l' l.length
        rw [List.take_length, He.out] at this
        omega
      obtain ⟨la2, lc2, rfl, hrep⟩ := hrow.list hll
      have Hrep := Lib.hid hrep
      clear hrow hrep AM
      go_wp2_with fail
      refine (array_any _ _ _ _).mono ?_
      rintro e w2 ⟨rfl, hb2⟩
      have hz := (hb2.block (w.heap.size + 1 + 1) (by omega)).trans ((hb.block (w.heap.size + 1 + 1) (by omega)).trans Hat2.out)
      obtain ⟨z0, z1, z2, z3, z4, z5⟩ := of_block6 hz
      obtain ⟨f0, f1, f2, f3, f4, f5⟩ := free_block6 hz
      have hb3 : Below w.heap.size w w2 := hb1.trans (hb2.mono (by omega))
      have hfin := below_set6 hb3 (b := w.heap.size + 1 + 1) (by omega) (.int .i64 5) (.int .i64 0) (.string ⟨#[]⟩) (.slice la2 ls.length lc2) (.slice none 0 0) (.slice none 0 0)
      have hset := set_row6 hz (.int .i64 5) (.int .i64 0) (.string ⟨#[]⟩) (.slice la2 ls.length lc2) (.slice none 0 0) (.slice none 0 0)
      have hR : RepS ((((((w2.setCell ⟨w.heap.size + 1 + 1, 0, none⟩ (.int .i64 5)).setCell ⟨w.heap.size + 1 + 1, 1, none⟩ (.int .i64 0)).setCell ⟨w.heap.size + 1 + 1, 2, none⟩ (.string ⟨#[]⟩)).setCell ⟨w.heap.size + 1 + 1, 3, none⟩ (.slice la2 ls.length lc2)).setCell ⟨w.heap.size + 1 + 1, 4, none⟩ (.slice none 0 0)).setCell ⟨w.heap.size + 1 + 1, 5, none⟩ (.slice none 0 0)) (OldNew B w ((((((w2.setCell ⟨w.heap.size + 1 + 1, 0, none⟩ (.int .i64 5)).setCell ⟨w.heap.size + 1 + 1, 1, none⟩ (.int .i64 0)).setCell ⟨w.heap.size + 1 + 1, 2, none⟩ (.string ⟨#[]⟩)).setCell ⟨w.heap.size + 1 + 1, 3, none⟩ (.slice la2 ls.length lc2)).setCell ⟨w.heap.size + 1 + 1, 4, none⟩ (.slice none 0 0)).setCell ⟨w.heap.size + 1 + 1, 5, none⟩ (.slice none 0 0))) (.mk 5 0 ⟨#[]⟩ ls [] []) [.int .i64 5, .int .i64 0, .string ⟨#[]⟩, .slice la2 ls.length lc2, .slice none 0 0, .slice none 0 0] := by
        refine Hrep.out.turn fun q hq => ⟨?_, ?_⟩
        · rw [set6_other _ _ _ _ _ _ _ _ _ (by omega)]
          exact hb2.block q (by omega)
        · unfold OldNew
          rw [set6_size]
          have := hb2.size
          omega
      have HR := Lib.hid hR
      have Hset := Lib.hid hset
      have Hfin := Lib.hid hfin
      clear hR hset hfin hz
      go_wp2_with fail
      refine bodyPost_ret (results_row_tmp (p := 4) (u := 5) (ty := 26) rfl _ _ (w.heap.size + 1 + 1) 26 _ (0, 0) _ rfl Hset.out Tryz.underlying26 rfl (by kernel_rfl)) rfl ⟨_, _, _, _, _, _, _, _, _, _, _, _, rfl, (fun v e => ?_), Hfin.out⟩
      cases e
      exact HR.out

set_option maxHeartbeats 2000000 in
set_option maxRecDepth 100000 in
theorem minus_num (B : Nat) (h h' : Int) (t t' : ByteArray) (la ka va la' ka' va' : Option Addr) (nl lc nk kc nv vc nl' lc' nk' kc' nv' vc' : Nat) (a : Ans) (he : numA (wrap64 (h - h')) = a) (w : World) (hB : B ≤ w.heap.size) :
    Calls Tryz.prog 15 #[.agg #[.int .i64 3, .int .i64 h, .string t, .slice la nl lc, .slice ka nk kc, .slice va nv vc], .agg #[.int .i64 3, .int .i64 h', .string t', .slice la' nl' lc', .slice ka' nk' kc', .slice va' nv' vc']] w (AnsAt w B a) := by
  have N := Lib.hid fun w => number_any B (wrap64 (h - h')) w (by unfold wrap64; omega)
  have He := Lib.hid he; clear he
  have hbW := (at_alloc3 w (.cells #[.int .i64 3, .int .i64 h, .string t, .slice la nl lc, .slice ka nk kc, .slice va nv vc] 26) (.cells #[.int .i64 3, .int .i64 h', .string t', .slice la' nl' lc', .slice ka' nk' kc', .slice va' nv' vc'] 26)
    (.cells #[.int .i64 0, .int .i64 0, .string ⟨#[]⟩, .slice none 0 0, .slice none 0 0, .slice none 0 0] 26))
  obtain ⟨hb0, hs0, _, hz0⟩ := hbW
  have Hb0 := Lib.hid hb0; clear hb0
  have Hz0 := Lib.hid hz0; clear hz0
  have Hs0 := Lib.hid hs0; clear hs0
  go_enter Tryz.func15, Tryz.ntmps15
  go_wp2_with fail
  refine (N.out _).mono ?_
  rintro e w2 ⟨k, x, t, la, ka, va, nl, cl, nk, ck, nv, cv, rfl, hv, hb2⟩
  rw [He.out] at hv
  rw [He.out]
  have hz := (hb2.block (w.heap.size + 1 + 1) (by rw [Hs0.out]; omega)).trans Hz0.out
  obtain ⟨z0, z1, z2, z3, z4, z5⟩ := of_block6 hz
  obtain ⟨f0, f1, f2, f3, f4, f5⟩ := free_block6 hz
  have Hset := Lib.hid (set_row6 hz (.int .i64 k) (.int .i64 x) (.string t) (.slice la nl cl) (.slice ka nk ck) (.slice va nv cv))
  have Hans := Lib.hid (ans_store (z := w.heap.size + 1 + 1) Hb0.out (by omega) (by rw [Hs0.out]; omega) hB hv hb2)
  clear hz hv hb2 N
  generalize a.how = how at *
  go_wp2_with fail
  exact bodyPost_ret (results_row_tmp (p := 4) (u := 5) (ty := 26) rfl _ _ (w.heap.size + 1 + 1) 26 _ (0, 0) _ rfl Hset.out Tryz.underlying26 rfl (by kernel_rfl)) rfl Hans.out

set_option maxHeartbeats 2000000 in
set_option maxRecDepth 100000 in
theorem minus_raise (B : Nat) (k k' h h' : Int) (t t' : ByteArray) (la ka va la' ka' va' : Option Addr) (nl lc nk kc nv vc nl' lc' nk' kc' nv' vc' : Nat) (h3 : ¬ (k = 3 ∧ k' = 3)) (h5 : k ≠ 5 ∨ k' ≠ 5) (w : World) :
    Calls Tryz.prog 15 #[.agg #[.int .i64 k, .int .i64 h, .string t, .slice la nl lc, .slice ka nk kc, .slice va nv vc], .agg #[.int .i64 k', .int .i64 h', .string t', .slice la' nl' lc', .slice ka' nk' kc', .slice va' nv' vc']] w (AnsAt w B .raises) := by
  have hP : AnsAt w B .raises (.returned (.tuple #[.agg #[.int .i64 0, .int .i64 0, .string ⟨#[]⟩, .slice none 0 0, .slice none 0 0, .slice none 0 0], .int .i64 1]))
      (((w.alloc (.cells #[.int .i64 k, .int .i64 h, .string t, .slice la nl lc, .slice ka nk kc, .slice va nv vc] 26)).alloc (.cells #[.int .i64 k', .int .i64 h', .string t', .slice la' nl' lc', .slice ka' nk' kc', .slice va' nv' vc'] 26)).alloc
        (.cells #[.int .i64 0, .int .i64 0, .string ⟨#[]⟩, .slice none 0 0, .slice none 0 0, .slice none 0 0] 26)) :=
    ⟨_, _, _, _, _, _, _, _, _, _, _, _, rfl, (fun v e => by cases e), (at_alloc3 w _ _ _).1⟩
  have HP := Lib.hid hP; clear hP
  by_cases c : k = 3
  · have t3 : (k' == 3) = false := by simpa using fun e => h3 ⟨c, e⟩
    subst c
    clear h3 h5
    go_enter Tryz.func15, Tryz.ntmps15
    go_wp2_with fail
    exact bodyPost_ret (results_row_tmp (p := 4) (u := 5) (ty := 26) rfl _ _ (w.heap.size + 1 + 1) 26 _ (0, 0) _ rfl (at_alloc3 _ _ _ _).2.2.2 Tryz.underlying26 rfl (by kernel_rfl)) rfl HP.out
  · have t3 : (k == 3) = false := by simpa using c
    by_cases c5 : k = 5
    · have t5 : (k' != 5) = true := by simpa using h5.resolve_left (fun n => n c5)
      subst c5
      clear h3 h5 c
      go_enter Tryz.func15, Tryz.ntmps15
      go_wp2_with fail
      exact bodyPost_ret (results_row_tmp (p := 4) (u := 5) (ty := 26) rfl _ _ (w.heap.size + 1 + 1) 26 _ (0, 0) _ rfl (at_alloc3 _ _ _ _).2.2.2 Tryz.underlying26 rfl (by kernel_rfl)) rfl HP.out
    · have t5 : (k != 5) = true := by simpa using c5
      clear h3 h5 c c5
      go_enter Tryz.func15, Tryz.ntmps15
      go_wp2_with fail
      exact bodyPost_ret (results_row_tmp (p := 4) (u := 5) (ty := 26) rfl _ _ (w.heap.size + 1 + 1) 26 _ (0, 0) _ rfl (at_alloc3 _ _ _ _).2.2.2 Tryz.underlying26 rfl (by kernel_rfl)) rfl HP.out

theorem minus_any {w0 : World} {B : Nat} {a b : V} {ca cb : List Value} (ha : RepV w0 B a ca) (hb : RepV w0 B b cb) (w : World) (hbel : Below B w0 w) (hB : B ≤ w.heap.size) :
    Calls Tryz.prog 15 #[.agg ca.toArray, .agg cb.toArray] w (AnsAt w B (subA a b)) := by
  cases ha with
  | @mk k h t l ks vs la ka va lc kc vc C D hk hh ht hl hks hvs hs cl rl ck cv rv =>
  cases hb with
  | @mk k' h' t' l' ks' vs' la' ka' va' lc' kc' vc' C' D' hk' hh' ht' hl' hks' hvs' hs' cl' rl' ck' cv' rv' =>
  rw [subA_mk]
  by_cases c3 : k = 3 ∧ k' = 3
  · rw [if_pos c3]
    obtain ⟨rfl, rfl⟩ := c3
    exact minus_num B h h' t t' la ka va la' ka' va' _ lc _ kc _ vc _ lc' _ kc' _ vc' _ rfl w hB
  · rw [if_neg c3]
    by_cases c5 : k ≠ 5 ∨ k' ≠ 5
    · rw [if_pos c5]
      exact minus_raise B k k' h h' t t' la ka va la' ka' va' _ lc _ kc _ vc _ lc' _ kc' _ vc' c3 c5 w
    · rw [if_neg c5]
      have e1 : k = 5 := Decidable.byContradiction fun e => c5 (.inl e)
      have e2 : k' = 5 := Decidable.byContradiction fun e => c5 (.inr e)
      subst e1 e2
      exact minus_list w0 B h h' t t' l l' _ ka va la la' ka' va' _ kc _ vc lc lc' _ kc' _ vc' C C' hl hl' cl rl cl' rl' rfl w hbel hB

end Go.Proofs.YtmcahfcihhddjaaGreatDoor

namespace Go.Proofs.YtmcahfcihhddjaaGreatDoor
open Go Go.RowKit

set_option maxHeartbeats 1000000 in
set_option maxRecDepth 100000 in
theorem operate_sub {w0 : World} {B : Nat} {a b : V} {ca cb : List Value} (ha : RepV w0 B a ca) (hb : RepV w0 B b cb) (ga : Good a) (gb : Good b)
    (w : World) (hbel : Below B w0 w) (hB : B ≤ w.heap.size) :
    Calls Tryz.prog 7 #[.string ⟨#[45]⟩, .agg ca.toArray, .agg cb.toArray] w (AnsAt w B (subA a b)) := by
  have VA := Lib.hid (vague_any w0 B a ca ha ga); clear ga
  have VB := Lib.hid (vague_any w0 B b cb hb gb); clear gb
  have R := Lib.hid fun w' h1 h2 => minus_any ha hb w' h1 h2
  have Hbel := Lib.hid hbel; clear hbel
  generalize subA a b = an at *
  obtain ⟨k, h, t, la, ka, va, nl, lc, nk, kc, nv, vc, rfl⟩ := ha.shape
  obtain ⟨k', h', t', la', ka', va', nl', lc', nk', kc', nv', vc', rfl⟩ := hb.shape
  clear ha hb
  go_enter Tryz.func7, Tryz.ntmps7
  go_wp2_with fail
  obtain ⟨hbW, hsW, hx1, hx2⟩ := at_alloc3 w (.cells #[.int .i64 k, .int .i64 h, .string t, .slice la nl lc, .slice ka nk kc, .slice va nv vc] 26)
    (.cells #[.int .i64 k', .int .i64 h', .string t', .slice la' nl' lc', .slice ka' nk' kc', .slice va' nv' vc'] 26)
    (.cells #[.int .i64 0, .int .i64 0, .string ⟨#[]⟩, .slice none 0 0, .slice none 0 0, .slice none 0 0] 26)
  have hx0 := at_alloc30 w (.cells #[.int .i64 k, .int .i64 h, .string t, .slice la nl lc, .slice ka nk kc, .slice va nv vc] 26)
    (.cells #[.int .i64 k', .int .i64 h', .string t', .slice la' nl' lc', .slice ka' nk' kc', .slice va' nv' vc'] 26)
    (.cells #[.int .i64 0, .int .i64 0, .string ⟨#[]⟩, .slice none 0 0, .slice none 0 0, .slice none 0 0] 26)
  refine (VA.out _ (Hbel.out.trans (hbW.mono hB)) (by rw [hsW]; omega)).mono ?_
  generalize ((w.alloc _).alloc _).alloc _ = W at *
  rintro e w1 ⟨rfl, hw1⟩
  have hs1 : w.heap.size + 3 ≤ w1.heap.size := by have := hw1.size; omega
  have y0 := (hw1.block w.heap.size (by omega)).trans hx0
  have y1 := (hw1.block (w.heap.size + 1) (by omega)).trans hx1
  have y2 := (hw1.block (w.heap.size + 1 + 1) (by omega)).trans hx2
  have hb1 : Below w.heap.size w w1 := hbW.trans (hw1.mono (by omega))
  obtain ⟨e0, e1, e2, e3, e4, e5⟩ := of_block6 y1
  have Hw1 := Lib.hid hw1; clear hw1
  go_wp2_with fail
  refine (VB.out _ (Hbel.out.trans (hb1.mono hB)) (by omega)).mono ?_
  rintro e w2 ⟨rfl, hw2⟩
  have hs2 : w.heap.size + 3 ≤ w2.heap.size := by have := hw2.size; omega
  have z0 := (hw2.block w.heap.size (by omega)).trans y0
  have z1 := (hw2.block (w.heap.size + 1) (by omega)).trans y1
  have z2 := (hw2.block (w.heap.size + 1 + 1) (by omega)).trans y2
  have hb2 : Below w.heap.size w w2 := hb1.trans (hw2.mono (by omega))
  obtain ⟨a0, a1, a2, a3, a4, a5⟩ := of_block6 z0
  obtain ⟨e0, e1, e2, e3, e4, e5⟩ := of_block6 z1
  have Hw2 := Lib.hid hw2; clear hw2
  go_wp2_with fail
  refine (R.out _ (Hbel.out.trans (hb2.mono hB)) (by omega)).mono ?_
  rintro e w3 ⟨k, h, t, la, ka, va, nl, cl, nk, ck, nv, cv, rfl, hP, hw3⟩
  have z3 := (hw3.block (w.heap.size + 1 + 1) (by omega)).trans z2
  obtain ⟨e0, e1, e2, e3, e4, e5⟩ := of_block6 z3
  obtain ⟨f0, f1, f2, f3, f4, f5⟩ := free_block6 z3
  have Hset := Lib.hid (set_row6 z3 (.int .i64 k) (.int .i64 h) (.string t) (.slice la nl cl) (.slice ka nk ck) (.slice va nv cv))
  have Hans := Lib.hid (ans_store (z := w.heap.size + 1 + 1) hb2 (by omega) (by omega) hB hP hw3)
  clear hP hw3 z3 hb2
  generalize an.how = how at *
  go_wp2_with fail
  exact bodyPost_ret (results_row_tmp (p := 6) (u := 7) (ty := 26) rfl _ _ (w.heap.size + 1 + 1) 26 _ (0, 0) _ rfl Hset.out Tryz.underlying26 rfl (by kernel_rfl)) rfl Hans.out

end Go.Proofs.YtmcahfcihhddjaaGreatDoor
