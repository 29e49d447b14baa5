/- Contracts of sort.Strings on a row of one's own and of gojq.keys at a map. -/
/- Contract of gojq.funcKeys at a map. -/
import Derived.Test.YtmcahfcihhddjaaGreatDoorIter
import Derived.Sort.KeysCollected
import Derived.Sort.OwnSorted
import Derived.WalkLawsBesides
import Derived.Test.YtmcahfcihhddjaaGreatDoorAsserts
namespace Go.Proofs.YtmcahfcihhddjaaGreatDoor
open Go Go.RowKit Go.Maps Go.Sort Go.Deep

/-- What a row of keys holds. -/
def keyAt (ss : List (List UInt8)) (j : Nat) : Value := if h : j < ss.length then encStr ss[j] else .string ⟨#[]⟩

theorem keyAt_push (ss : List (List UInt8)) (x : List UInt8) (j : Nat) : keyAt (ss ++ [x]) j = if j = ss.length then encStr x else keyAt ss j := by
  unfold keyAt
  by_cases h : j < ss.length
  · rw [dif_pos (by simp; omega), if_neg (by omega), dif_pos h, List.getElem_append_left h]
  · by_cases e : j = ss.length
    · subst e
      rw [dif_pos (by simp), if_pos rfl]
      simp
    · rw [dif_neg (by simp; omega), if_neg e, dif_neg h]

theorem holds_row {w : World} {b : Nat} {t : TypeId} {n : Nat} {ss : List (List UInt8)} (h : w.rowIs b t n (keyAt ss)) (hn : ss.length = n) : Holds encStr w b 0 ss.toArray := by
  intro j hj
  have hj' : j < ss.length := by simpa using hj
  refine ⟨?_, h.frozen _⟩
  rw [Nat.zero_add, h.cell (by omega)]
  unfold keyAt
  rw [dif_pos hj']
  simp [hj']

theorem row_sorted {w : World} {b n : Nat} {t : TypeId} {f : Nat → Value} {ts : List (List UInt8)} (h : w.rowIs b t n f) (hn : ts.length = n) (k : Nat) (os : Array Obj) :
    (grow (putRow encStr (Sort.ahead w k) b 0 ts.toArray) os).rowIs b t n (keyAt ts) := by
  obtain ⟨c, hb, hc, _⟩ := h
  refine ⟨_, heap_sorted _ hb, by simp [putCells, hc], fun i hi => ?_⟩
  unfold keyAt
  rw [dif_pos (by omega)]
  simp [putCells, hc, hi, hn]

def StringsP (b : Nat) (n : Nat) (ss : List (List UInt8)) (w : World) (e : Ending) (w' : World) : Prop :=
  e = .returned (.tuple #[]) ∧ w.grownBy w' (some b) ∧ w'.rowIs b 9 n (keyAt (ss.mergeSort fun x y => decide (x ≤ y)))

set_option maxRecDepth 100000 in
theorem strings_any (b cap n : Nat) (ss : List (List UInt8)) (w : World) (h : w.rowIs b 9 n (keyAt ss)) (hn : ss.length = n) (hsz : n < 4611686018427387904) :
    Calls Tryz.prog 149 #[.slice (some ⟨b, 0, none⟩) n cap] w (StringsP b n ss w) := by
  have S := Lib.hid (AnyM.slices_Sort_string sortL b 0 cap ss w (holds_row h hn) h.lt (by omega))
  have Hfin : Hid (∀ k os, StringsP b n ss w (.returned (.tuple #[])) (grow (putRow encStr (Sort.ahead w k) b 0 (ss.mergeSort fun x y => decide (x ≤ y)).toArray) os)) :=
    Lib.hid fun k os => ⟨rfl, grownBy_sorted _, row_sorted h (by simp [hn]) k os⟩
  rw [hn] at S
  clear h hn hsz
  go_enter Tryz.func149, Tryz.ntmps149
  go_wp2_with fail
  refine S.out.mono ?_
  rintro e w2 ⟨rfl, k, os, rfl⟩
  clear S
  have F := Lib.hid (Hfin.out k os)
  clear Hfin
  generalize grow (putRow encStr (Sort.ahead w k) b 0 (ss.mergeSort fun x y => decide (x ≤ y)).toArray) os = w3 at F ⊢
  go_wp2_with fail
  go_end0
  exact F.out

theorem gset (w : World) (a : Addr) (u : Value) : w.grownBy (w.setCell a u) (some a.block) := by
  refine ⟨rfl, rfl, rfl, by simp [World.setCell], fun k hk hne => Below.heap_setCell _ _ _ _ fun e => hne (by rw [e])⟩

/-- A row of the keys, the call's own. -/
def KeysP (w : World) (ks : List ByteArray) (e : Ending) (w' : World) : Prop :=
  ∃ (b c : Nat), e = .returned (.slice (some ⟨b, 0, none⟩) ks.length c) ∧ w.heap.size ≤ b ∧ Below w.heap.size w w' ∧ ∀ i (hi : i < ks.length), w'.cell? ⟨b, i, none⟩ = some (.string ks[i])

def KLoop (w : World) (r n : Nat) (m : List (ByteArray × J)) (E : Nat → Value) (i : Value) (wr : World) : Prop :=
  ∃ (left : Lit → Bool) (cnt : Nat) (ss : List (List UInt8)), wr.ranges Tryz.prog 9 heldR r (w.heap.size + 1) n (.map (entries m E)) left cnt ∧ Collected (.map (entries m E)) left ss ∧ i = .int .i64 (ss.length : Nat) ∧
    Below w.heap.size w wr ∧ wr.rowIs w.heap.size 9 m.length (keyAt ss) ∧ cnt + ss.length ≤ m.length

theorem info_str : (Tryz.prog.info? 9).map (fun i => (i.zero, i.size, i.bytes)) = some (some (.string ⟨#[]⟩), 1, 16) := by kernel_rfl

theorem heldR_val {v : Value} {y : DataW Value × List MemPlace} (_ : heldR v = some y) : ∃ c, v = id c := ⟨v, rfl⟩

set_option maxHeartbeats 2000000 in
set_option maxRecDepth 100000 in
theorem gkeys_any (r : Nat) (m : List (ByteArray × J)) (E : Nat → Value) (ks : List ByteArray) (hks : m.map (fun p => p.1.data.toList) = ks.map fun k => k.data.toList) (hrise : (ks.map fun k => k.data.toList).Pairwise fun x y => decide (x ≤ y) = true)
    (hl : m.length * 16 ≤ 140737488351232) (w : World) (hm : MapAt w r m E) :
    Calls Tryz.prog 127 #[.map (some r)] w (KeysP w ks) := by
  have hlen : m.length = ks.length := by have := congrArg List.length hks; simpa using this
  have hmk := run_make_row' (P := Tryz.prog) 24 9 (.string ⟨#[]⟩) 16 Tryz.underlying24 info_str rfl .i64 .i64 m.length (by omega) (by omega)
  have hln := hm.len
  obtain ⟨n, hn, hown⟩ := hm
  have hrl := hown.lt
  have hown1 : (w.alloc (.cells (madeCells #[.string ⟨#[]⟩] m.length) 9)).ownsMap Tryz.prog 9 heldR r n (.map (entries m E)) := by
    obtain ⟨es, clock, hb, Ft, hs, hD⟩ := hown
    exact ⟨es, clock, (Below.heap_alloc _ _ r hrl).trans hb, Ft, hs, hD⟩
  have Hown1 := Lib.hid hown1
  have hrow0 : (w.alloc (.cells (madeCells #[.string ⟨#[]⟩] m.length) 9)).rowIs w.heap.size 9 m.length (keyAt []) :=
    (World.rowIs_made w (.string ⟨#[]⟩) m.length 9).congr fun i _ => by simp [keyAt]
  have Hrow0 := Lib.hid hrow0
  have Hsz : Hid ((w.alloc (.cells (madeCells #[.string ⟨#[]⟩] m.length) 9)).heap.size = w.heap.size + 1) := Lib.hid (by simp)
  have Hks := Lib.hid hks
  have Hlen := Lib.hid hlen
  have Hrise := Lib.hid hrise
  clear hown hown1 hrow0 hks hrise hlen
  go_enter Tryz.func127, Tryz.ntmps127
  go_wp2_with (first
    | (at_range; refine wpList_range_own _ rfl _ 67 rfl 9 20 law_str Tryz.underlying67 heldR r n (.map (entries m E)) rfl Hown1.out ?_; intro w0 hrg0 hg0 hs0; rw [Hsz.out] at hrg0 ⊢)
    | go_in)
  try go_frame
  go_loopw [4] (fun i wr => KLoop w r n m E i wr) (fun _ wr => wr.rangeLeft r (w.heap.size + 1))
  case atStart =>
    refine ⟨_, _, [], hrg0, Collected.start _, rfl, (below_alloc1 w _).grown hg0 (by simp) (by simp), rowIs_carry Hrow0.out (hg0.block _ (by simp) (by simp)), ?_⟩
    rw [Maps.size_eq, entries_len]
    simp
  case round =>
    obtain ⟨left, cnt, ss, hrg, hC, rfl, hb, hrow, hcnt⟩ := hrel
    go_wp2_with (first
      | (at_next; refine wpList_next_ranges _ rfl _ rfl 9 law_str heldR encStr id (fun key kl h => by obtain ⟨x, hx, _⟩ := Maps.keyOf_str Tryz.underlying9 h; exact ⟨x, hx⟩) (fun _ _ h => heldR_val h) r (w.heap.size + 1) n _ _ _ rfl hrg ?_ ?_)
      | go_in)
    · intro hc0 hl0
      have hp := hC.perm hrg.owns law_str Tryz.underlying9 hl0
      rw [strKeys_entries, Hks.out] at hp
      have hsl : ss.length = m.length := by have := hp.length_eq; have := Hlen.out; simp at *; omega
      have hsort := sort_perm hp Hrise.out
      have T := Lib.hid (strings_any w.heap.size m.length m.length ss wr hrow hsl (by omega))
      have Hb := Lib.hid hb
      have Hsort := Lib.hid hsort
      clear hrow hC hrg hl0 hb hsort
      go_wp2_with fail
      refine T.out.mono ?_
      rintro e w3 ⟨rfl, hg3, hrow3⟩
      clear T
      rw [Hsort.out] at hrow3
      have Hfin : Hid (KeysP w ks (.returned (.slice (some ⟨w.heap.size, 0, none⟩) m.length m.length)) w3) :=
        Lib.hid ⟨w.heap.size, m.length, by rw [Hlen.out], Nat.le_refl _, Hb.out.grown hg3 (Hb.out.size) (fun k hk => by cases hk; exact Nat.le_refl _), fun i hi => by
          rw [hrow3.cell (by have := Hlen.out; omega)]
          simp [keyAt, hi]⟩
      clear hrow3 hg3
      go_wp2_with fail
      go_ret
      exact Hfin.out
    · intro x c kl y y2 w1 cnt1 hkey hlk hy hat hrg1 hlt hg1 hs1 hen
      obtain ⟨x', ex, rfl, _⟩ := Maps.keyOf_str Tryz.underlying9 hkey
      obtain rfl := encStr_inj ex
      have hC1 := hC.step hlk hat
      have hwlt := hb.size
      have hrow1 := rowIs_carry hrow (hg1.block w.heap.size (by have := hrow.lt; omega) (by simp))
      have hcell : w1.cell? ⟨w.heap.size, ss.length, none⟩ = some (keyAt ss ss.length) := hrow1.cell (by omega)
      have hfr : w1.frozen? ⟨w.heap.size, ss.length, none⟩ = false := hrow1.frozen _
      have Hrow2 : Hid ((w1.setCell ⟨w.heap.size, ss.length, none⟩ (encStr x)).rowIs w.heap.size 9 m.length (keyAt (ss ++ [x]))) :=
        Lib.hid ((hrow1.set ss.length (encStr x)).congr fun i _ => (keyAt_push ss x i).symm)
      have Hb1 : Hid (Below w.heap.size w (w1.setCell ⟨w.heap.size, ss.length, none⟩ (encStr x))) :=
        Lib.hid ((hb.grown hg1 hb.size (fun k hk => by cases hk; omega)).setCell (p := ⟨w.heap.size, ss.length, none⟩) (Nat.le_refl _) _)
      have Hrg2 : Hid ((w1.setCell ⟨w.heap.size, ss.length, none⟩ (encStr x)).ranges Tryz.prog 9 heldR r (w.heap.size + 1) n (.map (entries m E)) (fun z => left z && !z.sameKey (.string x)) cnt1) :=
        Lib.hid (hrg1.kept (gset w1 ⟨w.heap.size, ss.length, none⟩ (encStr x)) (by simp; omega) (by simp))
      have HC1 := Lib.hid hC1
      have Hrg := Lib.hid hrg
      have hlt' : ss.length < m.length := by omega
      clear hkey hlk hy hat hrg1 hrg hC1 hC hrow hrow1 hb hg1
      go_wp2_with fail
      go_roundw
      case rel => exact ⟨_, cnt1, ss ++ [x], Hrg2.out, HC1.out, by simp <;> go_num, Hb1.out, Hrow2.out, by simp; omega⟩
      case measure => rw [Hrg2.out.left_eq, Hrg.out.left_eq]; exact hlt

end Go.Proofs.YtmcahfcihhddjaaGreatDoor

namespace Go.Proofs.YtmcahfcihhddjaaGreatDoor
open Go Go.RowKit Go.Maps Go.Deep
attribute [local go_sem] assert_jsonNumber assert_jsonNumber_nil assert_int assert_int_nil assert_float64 assert_float64_nil assert_pbigInt assert_pbigInt_nil assert_string assert_string_nil assert_sl assert_sl_nil assert_m assert_m_nil assert_bool assert_bool_nil

/-- What a row of keys, as anys, holds. -/
def anyKey (ks : List ByteArray) (j : Nat) : Value := if h : j < ks.length then .iface 9 (.string ks[j]) else .nilIface

theorem anyKey_take (ks : List ByteArray) (n : Nat) (hn : n < ks.length) (j : Nat) : anyKey (ks.take (n + 1)) j = if j = n then .iface 9 (.string ks[n]) else anyKey (ks.take n) j := by
  unfold anyKey
  by_cases h : j < n
  · rw [dif_pos (by simp; omega), if_neg (by omega), dif_pos (by simp; omega)]
    simp
  · by_cases e : j = n
    · subst e
      rw [dif_pos (by simp; omega), if_pos rfl]
      simp
    · rw [dif_neg (by simp; omega), if_neg e, dif_neg (by simp; omega)]

def FKeysP (w : World) (ks : List ByteArray) (e : Ending) (w' : World) : Prop :=
  ∃ (b : Nat), e = .returned (.iface 64 (.slice (some ⟨b, 0, none⟩) ks.length ks.length)) ∧ w.heap.size ≤ b ∧ Below w.heap.size w w' ∧ w'.rowIs b 20 ks.length (anyKey ks)

def FLoop (w : World) (ks : List ByteArray) (kb : Nat) (i : Value) (wr : World) : Prop :=
  ∃ n : Nat, n ≤ ks.length ∧ i = .int .i64 (n : Nat) ∧ Below w.heap.size w wr ∧ wr.rowIs w.heap.size 20 ks.length (anyKey (ks.take n)) ∧ ∀ i (hi : i < ks.length), wr.cell? ⟨kb, i, none⟩ = some (.string ks[i])

set_option maxHeartbeats 2000000 in
set_option maxRecDepth 100000 in
theorem fkeys_any (r : Nat) (m : List (ByteArray × J)) (E : Nat → Value) (ks : List ByteArray) (hks : m.map (fun p => p.1.data.toList) = ks.map fun k => k.data.toList) (hrise : (ks.map fun k => k.data.toList).Pairwise fun x y => decide (x ≤ y) = true)
    (hl : m.length * 16 ≤ 140737488351232) (w : World) (hm : MapAt w r m E) :
    Calls Tryz.prog 96 #[.iface 67 (.map (some r))] w (FKeysP w ks) := by
  have hlen : m.length = ks.length := by have := congrArg List.length hks; simpa using this
  have hmk := run_make_row' (P := Tryz.prog) 64 20 .nilIface 16 Tryz.underlying64 info_any rfl .i64 .i64 ks.length (by omega) (by omega)
  have hln := hm.len
  have hrl : r < w.heap.size := by obtain ⟨n, hn, hown⟩ := hm; exact hown.lt
  have T := Lib.hid (gkeys_any r m E ks hks hrise hl (w.alloc (.cells (madeCells #[.nilIface] ks.length) 20)) (hm.carry (Below.heap_alloc _ _ r hrl)))
  have hrow0 : (w.alloc (.cells (madeCells #[.nilIface] ks.length) 20)).rowIs w.heap.size 20 ks.length (anyKey (ks.take 0)) :=
    (World.rowIs_made w .nilIface ks.length 20).congr fun i _ => by simp [anyKey]
  have Hrow0 := Lib.hid hrow0
  rw [hlen] at hl hln
  clear hrow0 hks hrise hm hlen
  go_enter Tryz.func96, Tryz.ntmps96
  go_wp2_with fail
  refine T.out.mono ?_
  rintro e w2 ⟨kb, kc, rfl, hkb, hb2, hcells⟩
  have hkb' : w.heap.size < kb := by simp at hkb; omega
  have Hat : Hid (FLoop w ks kb (.int .i64 0) w2) := Lib.hid ⟨0, Nat.zero_le _, rfl, below_next (below_alloc1 w _) hb2, rowIs_carry Hrow0.out (hb2.block _ (by simp)), hcells⟩
  clear T hkb hb2 hcells Hrow0
  go_wp2_with fail
  go_loopw [44] (fun i wr => FLoop w ks kb i wr) (fun i _ => ks.length - (intOf i).toNat)
  case atStart => exact Hat.out
  case round =>
    obtain ⟨n, hn, rfl, hb, hrow, hcells⟩ := hrel
    by_cases h1 : n < ks.length
    · have y1 := hcells n h1
      have hcell : wr.cell? ⟨w.heap.size, n, none⟩ = some (anyKey (ks.take n) n) := hrow.cell h1
      have hfr : wr.frozen? ⟨w.heap.size, n, none⟩ = false := hrow.frozen _
      have Hn : Hid (∀ i, i = .int .i64 ((n + 1 : Nat) : Int) → FLoop w ks kb i (wr.setCell ⟨w.heap.size, n, none⟩ (.iface 9 (.string ks[n])))) :=
        Lib.hid fun i hi => ⟨n + 1, by omega, hi, hb.setCell (p := ⟨w.heap.size, n, none⟩) (Nat.le_refl _) _, (hrow.set n _).congr fun i _ => (anyKey_take ks n h1 i).symm, fun i hi => by
          rw [← hcells i hi]
          simp [World.cell?, Below.heap_setCell _ ⟨w.heap.size, n, none⟩ _ kb (by simp; omega)]⟩
      have u1 : (n : Int) < (ks.length : Int) := by omega
      have u3 : (0 : Int) ≤ (n : Int) := by omega
      clear hrow hcells Hat
      go_wp2_with fail
      go_roundw
      case rel =>
        exact Hn.out _ (by go_num)
      case measure => simp [intOf]; omega
    · have e : n = ks.length := by omega
      subst e
      rw [List.take_length] at hrow
      have Hfin : Hid (FKeysP w ks (.returned (.iface 64 (.slice (some ⟨w.heap.size, 0, none⟩) ks.length ks.length))) wr) := Lib.hid ⟨_, rfl, Nat.le_refl _, hb, hrow⟩
      clear hrow hcells Hat
      go_wp2_with fail
      go_ret
      exact Hfin.out

end Go.Proofs.YtmcahfcihhddjaaGreatDoor
