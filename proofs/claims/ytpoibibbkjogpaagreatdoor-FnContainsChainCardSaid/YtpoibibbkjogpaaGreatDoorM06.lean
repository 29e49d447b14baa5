/- Contracts of spec.Num, Str, Keys, Each. -/
/- Contracts of impl.listToGo, impl.mapToGo, impl.toGo. -/
/- The order of strings, byte by byte; and that entries put in rising order stand in that order. No program in sight. -/
/- Contract of impl.mapToGo, and of impl.toGo. -/
import Derived.Test.YtpoibibbkjogpaaGreatDoorM01
import Derived.Test.YtpoibibbkjogpaaGreatDoorM02
import Derived.Test.YtpoibibbkjogpaaGreatDoorM05
import Derived.WalkLawsBesides
import Derived.Test.YtpoibibbkjogpaaGreatDoorM04
import Derived.Deep.DeepCutAuto
import Derived.Deep.CutBlock
import Derived.Maps.OwnSet
import Derived.WalkKit
namespace Go.Proofs.YtpoibibbkjogpaaGreatDoor
open Go Go.RowKit Go.Maps Go.Deep

/-- The cells of a key. -/
def keyC (v : V) : List Value := [.int .i64 v.kind, .int .i64 v.half, .string v.text, .slice none 0 0, .slice none 0 0, .slice none 0 0]
theorem keyC_len (v : V) : (keyC v).length = 6 := rfl
theorem keyC_one (v : V) : ∀ u ∈ keyC v, u.oneCell' = true := by
  intro u hu
  simp only [keyC, List.mem_cons, List.not_mem_nil, or_false] at hu
  rcases hu with rfl | rfl | rfl | rfl | rfl | rfl <;> rfl

set_option maxRecDepth 100000 in
theorem snum_any (n : Int) (hn : -1000000 ≤ n ∧ n ≤ 1000000) (w : World) : Calls Tryz.prog 93 #[.int .i64 n] w fun e w' =>
    e = .returned (.agg #[.int .i64 3, .int .i64 (2 * n), .string ⟨#[]⟩, .slice none 0 0, .slice none 0 0, .slice none 0 0]) ∧ Below w.heap.size w w' := by
  have hw : wrap64 (2 * n) = 2 * n := by unfold wrap64; omega
  have Hw := Lib.hid hw; clear hw hn
  go_enter Tryz.func93, Tryz.ntmps93
  go_wp2_with fail
  rw [Hw.out]
  refine bodyPost_ret (v := .agg #[.int .i64 3, .int .i64 (2 * n), .string ⟨#[]⟩, .slice none 0 0, .slice none 0 0, .slice none 0 0]) ?_ rfl ⟨rfl, below_alloc1 w _⟩
  exact results_cell_row (p := 2) (ty := 26) rfl _ _ w.heap.size 26 _ (0, 0) _ rfl (at_alloc w _) Tryz.underlying26 rfl (by kernel_rfl)
set_option maxRecDepth 100000 in
theorem sstr_any (s : ByteArray) (w : World) : Calls Tryz.prog 94 #[.string s] w fun e w' =>
    e = .returned (.agg #[.int .i64 4, .int .i64 0, .string s, .slice none 0 0, .slice none 0 0, .slice none 0 0]) ∧ Below w.heap.size w w' := by
  go_enter Tryz.func94, Tryz.ntmps94
  go_wp2_with fail
  refine bodyPost_ret (v := .agg #[.int .i64 4, .int .i64 0, .string s, .slice none 0 0, .slice none 0 0, .slice none 0 0]) ?_ rfl ⟨rfl, below_alloc1 w _⟩
  exact results_cell_row (p := 2) (ty := 26) rfl _ _ w.heap.size 26 _ (0, 0) _ rfl (at_alloc w _) Tryz.underlying26 rfl (by kernel_rfl)

/-- A row of keys of the call's own. -/
def RowK (w : World) (base : Nat) (v : Value) (ks : List V) : Prop := w.ownsRow base 26 6 v ks.length (ks.flatMap keyC)
theorem flatMap_key_len : ∀ (ks : List V), (ks.flatMap keyC).length = ks.length * 6
  | [] => rfl
  | k :: ks => by
    rw [List.flatMap_cons, List.length_append, flatMap_key_len ks, keyC_len, List.length_cons]
    omega
theorem flatMap_key_get : ∀ (ks : List V) (i j : Nat) (hi : i < ks.length) (_ : j < 6), (ks.flatMap keyC)[i * 6 + j]? = (keyC ks[i])[j]?
  | [], _, _, hi, _ => by simp at hi
  | k :: ks, 0, j, _, hj => by
    rw [List.flatMap_cons, List.getElem?_append_left (by rw [keyC_len]; omega)]
    simp
  | k :: ks, i + 1, j, hi, hj => by
    rw [List.flatMap_cons, List.getElem?_append_right (by rw [keyC_len]; omega), keyC_len, show (i + 1) * 6 + j - 6 = i * 6 + j by omega]
    exact flatMap_key_get ks i j (by simpa using hi) hj

/-- A row of keys, read; it lies in S. -/
def PathS (w : World) (S : Nat → Prop) (p : List V) (v : Value) : Prop :=
  ∃ la lc, v = .slice la p.length lc ∧ p.length ≤ lc ∧ (0 < p.length → ∃ b o, la = some ⟨b, o, none⟩ ∧ S b ∧ ∀ i (hi : i < p.length), CellsAt w b (o + i * 6) (keyC p[i]))
theorem PathS.turn {w w' : World} {S S' : Nat → Prop} {p : List V} {v : Value} (h : PathS w S p v) (hS : ∀ k, S k → w'.heap[k]? = w.heap[k]? ∧ S' k) : PathS w' S' p v := by
  obtain ⟨la, lc, e, hlc, hc⟩ := h
  refine ⟨la, lc, e, hlc, fun hp => ?_⟩
  obtain ⟨b, o, e, hb, hcel⟩ := hc hp
  exact ⟨b, o, e, (hS b hb).2, fun i hi => (hcel i hi).same (hS b hb).1⟩
theorem RowK.path {w : World} {base : Nat} {v : Value} {ks : List V} (h : RowK w base v ks) : PathS w (fun k => base ≤ k ∧ k < w.heap.size) ks v := by
  rcases h.2 with ⟨e, h0⟩ | ⟨g, cap, cur, e, hb, hg, hnc, _⟩
  · exact ⟨none, 0, by rw [e, h0], by omega, fun hp => by omega⟩
  · refine ⟨some ⟨g, 0, none⟩, cap, e, hnc, fun hp => ⟨g, 0, rfl, ⟨hb, (Array.getElem?_eq_some_iff.1 hg).1⟩, fun i hi j hj => ?_⟩⟩
    have hc := World.ownsRow.cells h (g := g) (by rw [e]; rfl) (i * 6 + j) (keyC ks[i])[j] (by rw [flatMap_key_get ks i j hi (by rw [keyC_len] at hj; exact hj), List.getElem?_eq_getElem hj])
    rw [addr_add] at hc
    rw [Nat.zero_add]
    exact hc

def KeyLoop (W : World) (hd : List V) (f : Nat → V) (len : Nat) (v i : Value) (wr : World) : Prop :=
  ∃ (n : Nat) (v' : Value), n ≤ len ∧ v' = v ∧ i = .int .i64 (n : Nat) ∧ Below W.heap.size W wr ∧ RowK wr W.heap.size v' (hd ++ (List.range n).map f)
theorem KeyLoop.snoc (hd : List V) (f : Nat → V) (n : Nat) : hd ++ (List.range (n + 1)).map f = (hd ++ (List.range n).map f) ++ [f n] := by
  rw [List.range_succ, List.map_append, List.append_assoc]; rfl

theorem RowK.below {w w' : World} {base : Nat} {v : Value} {ks : List V} (h : RowK w base v ks) (hb : Below w.heap.size w w') : RowK w' base v ks := kept_row0 h (below_grown2 hb none)

/-- One key more, by append. -/
theorem RowK.push {w' : World} {base : Nat} {v' : Value} {ks : List V} {k : V} (ho : w'.ownsRow base 26 6 v' (ks.length + 1) (ks.flatMap keyC ++ keyC k)) : RowK w' base v' (ks ++ [k]) := by
  unfold RowK
  rw [List.length_append, List.length_singleton, List.flatMap_append]
  simpa using ho

theorem getD_range (ks : List ByteArray) : (List.range ks.length).map (fun (i : Nat) => strV (ks.getD i ⟨#[]⟩)) = ks.map strV := by
  apply List.ext_getElem
  · simp
  · intro i h1 h2
    simp at h1
    simp [List.getD_eq_getElem?_getD, h1]
theorem RowK.mono {w : World} {base base' : Nat} {v : Value} {ks : List V} (h : RowK w base v ks) (hb : base' ≤ base) : RowK w base' v ks := by
  obtain ⟨h1, h2⟩ := h
  refine ⟨h1, ?_⟩
  rcases h2 with h2 | ⟨g, cap, cur, e, hg, hr⟩
  · exact .inl h2
  · exact .inr ⟨g, cap, cur, e, by omega, hr⟩

set_option maxHeartbeats 4000000 in
set_option maxRecDepth 100000 in
theorem keys_row (w : World) (k h : Int) (t : ByteArray) (la ka va : Option Addr) (nl lc kc nv vc : Nat) (ks : List ByteArray) (hnl : nl ≤ 400) (hks : ks.length ≤ 400)
    (ck : 0 < ks.length → ∃ b o, ka = some ⟨b, o, none⟩ ∧ b < w.heap.size ∧ ∀ i (hi : i < ks.length), w.cell? ⟨b, o + i, none⟩ = some (.string ks[i])) :
    Calls Tryz.prog 68 #[.agg #[.int .i64 k, .int .i64 h, .string t, .slice la nl lc, .slice ka ks.length kc, .slice va nv vc]] w fun e w' => ∃ v, e = .returned v ∧ Below w.heap.size w w' ∧ RowK w' w.heap.size v ((List.range nl).map (fun (i : Nat) => numV (i : Int)) ++ ks.map strV) := by
  obtain ⟨i0, hi, hz0, hz1, hz2⟩ := info_parts info_value
  have Hck := Lib.hid ck; clear ck
  obtain ⟨W, hW⟩ : ∃ W, W = w.alloc (.cells #[.int .i64 k, .int .i64 h, .string t, .slice la nl lc, .slice ka ks.length kc, .slice va nv vc] 26) := ⟨_, rfl⟩
  have hWs : W.heap.size = w.heap.size + 1 := by rw [hW]; simp
  have hbW : Below w.heap.size w W := by rw [hW]; exact below_alloc1 _ _
  have hat : W.heap[w.heap.size]? = some (.cells #[.int .i64 k, .int .i64 h, .string t, .slice la nl lc, .slice ka ks.length kc, .slice va nv vc] 26) := by rw [hW]; exact at_alloc _ _
  have Hat := Lib.hid fun (_ : True) => hat; 
  obtain ⟨a0, a1, a2, a3, a4, a5⟩ := of_block6 hat
  go_enter Tryz.func68, Tryz.ntmps68
  go_wp2_with fail
  rw [← hW]
  clear hat
  have HW := Lib.hid hW; clear hW
  go_loopw [3, 10] (fun v i wr => KeyLoop W [] (fun (i : Nat) => numV (i : Int)) nl v i wr) (fun _ i _ => nl - (intOf i).toNat)
  case atStart => exact ⟨0, _, Nat.zero_le _, rfl, rfl, Below.refl _ _, World.ownsRow_nil _ _ _ _⟩
  case round =>
    obtain ⟨n, v, hn, rfl, rfl, hb, hrow⟩ := hrel
    have hs := hb.size
    by_cases hn' : n < nl
    · have Hrow := Lib.hid hrow
      have u1 : (n : Int) < (nl : Int) := by omega
      have u2 : (0 : Int) ≤ (n : Int) := by omega
      clear hrow
      go_wp2_with fail
      refine (snum_any (n : Int) (by omega) _).mono ?_
      rintro e w2 ⟨rfl, hb3⟩
      have hb4 : Below W.heap.size W w2 := hb.trans (hb3.mono hs)
      have hs3 := hb3.size
      have hrow2 := Hrow.out.below hb3
      have hbn := below_alloc1 w2 (.cells #[.int .i64 3, .int .i64 (2 * (n : Int)), .string ⟨#[]⟩, .slice none 0 0, .slice none 0 0, .slice none 0 0] 26)
      have hsn := size_alloc1 w2 (.cells #[.int .i64 3, .int .i64 (2 * (n : Int)), .string ⟨#[]⟩, .slice none 0 0, .slice none 0 0, .slice none 0 0] 26)
      have hnews := cells_new w2 [.int .i64 3, .int .i64 (2 * (n : Int)), .string ⟨#[]⟩, .slice none 0 0, .slice none 0 0, .slice none 0 0] 26
      have hown := hrow2.below hbn
      have hob : ∀ g, v.ownBlock = some g → W.heap.size ≤ g := fun g hg => (World.ownsRow.lt hown g hg).1
      have hlen : ([] ++ (List.range n).map (fun (i : Nat) => numV (i : Int))).length = n := by simp
      unfold RowK at hown
      rw [hlen] at hown
      have c1 : n + 1 ≤ maxLen := by unfold maxLen; omega
      have c2 : (n + 1) * 104 ≤ 140737488355328 := by omega
      have hnext : ∀ v' w', w'.ownsRow W.heap.size 26 6 v' (n + 1) (([] ++ (List.range n).map (fun (i : Nat) => numV (i : Int))).flatMap keyC ++ [.int .i64 3, .int .i64 (2 * (n : Int)), .string ⟨#[]⟩, .slice none 0 0, .slice none 0 0, .slice none 0 0]) →
          (w2.alloc (.cells #[.int .i64 3, .int .i64 (2 * (n : Int)), .string ⟨#[]⟩, .slice none 0 0, .slice none 0 0, .slice none 0 0] 26)).grownBy w' v.ownBlock → KeyLoop W [] (fun (i : Nat) => numV (i : Int)) nl v' (.int .i64 ((n : Int) + 1)) w' := by
        intro v' w' ho hg
        refine ⟨n + 1, v', by omega, rfl, rfl, (hb4.trans (hbn.mono (by omega))).grown hg (by omega) (fun q hq => hob q hq), ?_⟩
        rw [KeyLoop.snoc]
        exact RowK.push (k := (numV (n : Int))) (by rw [hlen]; exact ho)
      have Hnext := Lib.hid hnext
      have hbase : W.heap.size ≤ (w2.alloc (.cells #[.int .i64 3, .int .i64 (2 * (n : Int)), .string ⟨#[]⟩, .slice none 0 0, .slice none 0 0, .slice none 0 0] 26)).heap.size := by omega
      have hx1 : ∀ u ∈ ([.int .i64 3, .int .i64 (2 * (n : Int)), .string ⟨#[]⟩, .slice none 0 0, .slice none 0 0, .slice none 0 0] : List Value), u.oneCell' = true := keyC_one (numV (n : Int))
      clear hnext hrow2 hob hbn hlen
      go_wp2_with (at_builtin; go_loud (refine wpList_append_own_at _ rfl (.tmp 13) (.tmp 16) 23 rfl W.heap.size 26 i0 _ 6 104 Tryz.underlying23 hi hz0 hz1 hz2 rfl (by decide) v _ _ rfl hown _ 1 1 _ rfl rfl hnews hx1 c1 c2 hbase ?_; intro v' w5 hown5 hg5 _ hat5; have Hloop := Lib.hid (Hnext.out v' w5 hown5 hg5); obtain ⟨la', lc', rfl⟩ := row_form hown5; clear hown5 hg5 hat5))
      go_roundw
      case rel => exact Hloop.out
      case measure => simp [intOf]; omega
    · have en : nl = n := by omega
      subst en
      have Hrow0 := Lib.hid hrow
      clear hrow
      obtain ⟨wo, hwo⟩ : ∃ wo, wo = wr := ⟨_, rfl⟩
      rw [← hwo] at hb Hrow0 ⊢
      clear hwo
      have hb0 := hb
      clear a0 a1 a2 a3 a4 a5 hn' hn
      obtain ⟨a0, a1, a2, a3, a4, a5⟩ := of_block6 ((hb.block w.heap.size (by omega)).trans (Hat.out trivial))
      go_wp2_with fail
      go_loopw [3, 22] (fun v i wr => KeyLoop W ((List.range nl).map (fun (i : Nat) => numV (i : Int))) (fun (i : Nat) => strV (ks.getD i ⟨#[]⟩)) ks.length v i wr) (fun _ i _ => ks.length - (intOf i).toNat)
      case atStart => exact ⟨0, _, Nat.zero_le _, rfl, rfl, hb0, by rw [List.range_zero, List.map_nil, List.append_nil]; exact Hrow0.out⟩
      case round =>
        obtain ⟨n, v, hn, rfl, rfl, hb, hrow⟩ := hrel
        have hs := hb.size
        by_cases hn' : n < ks.length
        · have Hrow := Lib.hid hrow
          obtain ⟨kb, ko, rfl, hkb, hcel⟩ := Hck.out (by omega)
          have yy := ((hbW.trans (hb.mono (by omega))).cell (p := ⟨kb, ko + n, none⟩) hkb).trans (hcel n hn')
          have hxx : ks.getD n ⟨#[]⟩ = ks[n] := by rw [List.getD_eq_getElem?_getD, List.getElem?_eq_getElem hn']; rfl
          rw [← hxx] at yy
          clear hcel
          obtain ⟨x, hx0⟩ : ∃ x, ks.getD n ⟨#[]⟩ = x := ⟨_, rfl⟩
          rw [hx0] at yy
          have u1 : (n : Int) < (ks.length : Int) := by omega
          have u2 : (0 : Int) ≤ (n : Int) := by omega
          clear hrow
          go_wp2_with fail
          refine (sstr_any x _).mono ?_
          rintro e w2 ⟨rfl, hb3⟩
          have hb4 : Below W.heap.size W w2 := hb.trans (hb3.mono hs)
          have hs3 := hb3.size
          have hrow2 := Hrow.out.below hb3
          have hbn := below_alloc1 w2 (.cells #[.int .i64 4, .int .i64 0, .string x, .slice none 0 0, .slice none 0 0, .slice none 0 0] 26)
          have hsn := size_alloc1 w2 (.cells #[.int .i64 4, .int .i64 0, .string x, .slice none 0 0, .slice none 0 0, .slice none 0 0] 26)
          have hnews := cells_new w2 [.int .i64 4, .int .i64 0, .string x, .slice none 0 0, .slice none 0 0, .slice none 0 0] 26
          have hown := hrow2.below hbn
          have hob : ∀ g, v.ownBlock = some g → W.heap.size ≤ g := fun g hg => (World.ownsRow.lt hown g hg).1
          have hlen : (((List.range nl).map (fun (i : Nat) => numV (i : Int))) ++ (List.range n).map (fun (i : Nat) => strV (ks.getD i ⟨#[]⟩))).length = (nl + n) := by simp
          unfold RowK at hown
          rw [hlen] at hown
          have c1 : (nl + n) + 1 ≤ maxLen := by unfold maxLen; omega
          have c2 : ((nl + n) + 1) * 104 ≤ 140737488355328 := by omega
          have hnext : ∀ v' w', w'.ownsRow W.heap.size 26 6 v' ((nl + n) + 1) ((((List.range nl).map (fun (i : Nat) => numV (i : Int))) ++ (List.range n).map (fun (i : Nat) => strV (ks.getD i ⟨#[]⟩))).flatMap keyC ++ [.int .i64 4, .int .i64 0, .string x, .slice none 0 0, .slice none 0 0, .slice none 0 0]) →
              (w2.alloc (.cells #[.int .i64 4, .int .i64 0, .string x, .slice none 0 0, .slice none 0 0, .slice none 0 0] 26)).grownBy w' v.ownBlock → KeyLoop W ((List.range nl).map (fun (i : Nat) => numV (i : Int))) (fun (i : Nat) => strV (ks.getD i ⟨#[]⟩)) ks.length v' (.int .i64 ((n : Int) + 1)) w' := by
            intro v' w' ho hg
            refine ⟨n + 1, v', by omega, rfl, rfl, (hb4.trans (hbn.mono (by omega))).grown hg (by omega) (fun q hq => hob q hq), ?_⟩
            rw [KeyLoop.snoc]
            simp only [hx0]
            exact RowK.push (k := (strV x)) (by rw [hlen]; exact ho)
          have Hnext := Lib.hid hnext
          have hbase : W.heap.size ≤ (w2.alloc (.cells #[.int .i64 4, .int .i64 0, .string x, .slice none 0 0, .slice none 0 0, .slice none 0 0] 26)).heap.size := by omega
          have hx1 : ∀ u ∈ ([.int .i64 4, .int .i64 0, .string x, .slice none 0 0, .slice none 0 0, .slice none 0 0] : List Value), u.oneCell' = true := keyC_one (strV x)
          clear hnext hrow2 hob hbn hlen
          go_wp2_with (at_builtin; go_loud (refine wpList_append_own_at _ rfl (.tmp 26) (.tmp 29) 23 rfl W.heap.size 26 i0 _ 6 104 Tryz.underlying23 hi hz0 hz1 hz2 rfl (by decide) v _ _ rfl hown _ 1 1 _ rfl rfl hnews hx1 c1 c2 hbase ?_; intro v' w5 hown5 hg5 _ hat5; have Hloop := Lib.hid (Hnext.out v' w5 hown5 hg5); obtain ⟨la', lc', rfl⟩ := row_form hown5; clear hown5 hg5 hat5))
          go_roundw
          case rel => exact Hloop.out
          case measure => simp [intOf]; omega
        · have e : n = ks.length := by omega
          have hfin : ((List.range nl).map (fun (i : Nat) => numV (i : Int))) ++ (List.range n).map (fun (i : Nat) => strV (ks.getD i ⟨#[]⟩)) = (List.range nl).map (fun (i : Nat) => numV (i : Int)) ++ ks.map strV := by
            rw [e, getD_range]
          rw [hfin] at hrow
          have Hrow := Lib.hid hrow
          have Hb := Lib.hid (hbW.trans (hb.mono (by omega)))
          have Hm := Lib.hid (show W.heap.size = w.heap.size + 1 from hWs)
          clear hrow hb
          go_wp2_with fail
          go_ret
          exact ⟨_, rfl, Hb.out, Hrow.out.mono (by omega)⟩

end Go.Proofs.YtpoibibbkjogpaaGreatDoor

namespace Go.Proofs.YtpoibibbkjogpaaGreatDoor
open Go Go.RowKit Go.Maps Go.Deep

def Fresh (lo hi k : Nat) : Prop := lo ≤ k ∧ k < hi

def ToGoPost (w : World) (j : J) (e : Ending) (w' : World) : Prop :=
  ∃ x, e = .returned (.tuple #[x, .bool true]) ∧ RepJ w' (Fresh w.heap.size w'.heap.size) j x ∧ Below w.heap.size w w'

def ToGoOK (w0 : World) (B : Nat) (v : V) (cs : List Value) : Prop :=
  ∀ w, Below B w0 w → B ≤ w.heap.size → Calls Tryz.prog 21 #[.agg cs.toArray] w (ToGoPost w (toJ v))

/-- The first n elements of the new row are there. -/
def LInv (H : Nat) (l : List V) (n : Nat) (wr : World) : Prop :=
  ∃ (f : Nat → Value) (F : Nat → Nat → Prop), wr.rowIs H 20 l.length f ∧ (∀ i k, i < n → F i k → H < k ∧ k < wr.heap.size) ∧
    (∀ i j k, i < j → j < n → F i k → F j k → False) ∧ ∀ i (hi : i < l.length), i < n → RepJ wr (F i) (toJ l[i]) (f i)

theorem LInv.step {H : Nat} {l : List V} {n : Nat} {wr w1 w2 : World} {x : Value} (h : LInv H l n wr) (hH : H < wr.heap.size) (hn : n < l.length) (hb : Below wr.heap.size wr w1) (hb2 : Below w1.heap.size w1 w2)
    (hx : RepJ w2 (Fresh w1.heap.size w2.heap.size) (toJ l[n]) x) : LInv H l (n + 1) (w2.setCell ⟨H, n, none⟩ x) := by
  obtain ⟨f, F, hrow, hF, hd, hr⟩ := h
  have hb3 := hb.trans (hb2.mono hb.size)
  have s1 := hb.size
  have s2 := hb2.size
  have hrow2 : w2.rowIs H 20 l.length f := rowIs_carry hrow (hb3.block H hH)
  have hsz : (w2.setCell ⟨H, n, none⟩ x).heap.size = w2.heap.size := by simp [World.setCell]
  refine ⟨fun i => if i = n then x else f i, fun i => if i = n then Fresh w1.heap.size w2.heap.size else F i, hrow2.set n x, ?_, ?_, ?_⟩
  · intro i k hi hk
    rw [hsz]
    by_cases e : i = n
    · simp only [e, if_true] at hk
      exact ⟨by have := hk.1; omega, hk.2⟩
    · simp only [e, if_false] at hk
      have := hF i k (by omega) hk
      omega
  · intro i j k hij hj hik hjk
    by_cases e : j = n
    · simp only [e, if_true] at hjk
      have e2 : i ≠ n := by omega
      simp only [e2, if_false] at hik
      have := hF i k (by omega) hik
      have := hjk.1
      omega
    · have e2 : i ≠ n := by omega
      simp only [e, if_false] at hjk
      simp only [e2, if_false] at hik
      exact hd i j k hij (by omega) hik hjk
  · intro i hi hin
    by_cases e : i = n
    · subst e
      simp only [if_true]
      exact hx.carry fun k hk => Below.heap_setCell _ _ _ _ (by have := hk.1; simp; omega)
    · simp only [e, if_false]
      refine (hr i hi (by omega)).carry fun k hk => ?_
      have := hF i k (by omega) hk
      exact (Below.heap_setCell _ _ _ _ (by simp; omega)).trans (hb3.block k this.2)

theorem toJL_len (l : List V) : (toJL l).length = l.length := by rw [toJL_eq, List.length_map]
theorem toJL_get (l : List V) (i : Nat) (hi : i < l.length) : (toJL l)[i]'(by rw [toJL_len]; exact hi) = toJ l[i] := by simp [toJL_eq]

theorem LInv.done {H : Nat} {l : List V} {wr : World} (hl : l.length * 104 ≤ 140737488351232) (hH : H < wr.heap.size) (h : LInv H l l.length wr) :
    RepJ wr (Fresh H wr.heap.size) (.arr (toJL l)) (.iface 59 (.slice (some ⟨H, 0, none⟩) l.length l.length)) := by
  obtain ⟨f, F, hrow, hF, hd, hr⟩ := h
  have e := toJL_len l
  have R := RepJ.arr (w := wr) (S := Fresh H wr.heap.size) (l := toJL l) (a := some ⟨H, 0, none⟩) (c := l.length) f H 0 l.length F (by omega) (by omega)
    (fun _ => ⟨rfl, ⟨Nat.le_refl _, hH⟩, hrow, by omega⟩) (fun i hi hk => by have := hF i H (by omega) hk; omega)
    (fun i k hi hk => by have := hF i k (by omega) hk; exact ⟨by omega, this.2⟩) (fun i j k hij hj => hd i j k hij (by omega))
    (fun i hi => by rw [toJL_get l i (by omega), Nat.zero_add]; exact hr i (by omega) (by omega)) (by unfold capMax; omega) (by simp)
  rw [e] at R
  exact R

def LLoop (w : World) (H : Nat) (l : List V) (i : Value) (wr : World) : Prop :=
  ∃ n : Nat, n ≤ l.length ∧ i = .int .i64 (n : Nat) ∧ Below H w wr ∧ H < wr.heap.size ∧ LInv H l n wr

theorem info_any : (Tryz.prog.info? 20).map (fun i => (i.zero, i.size, i.bytes)) = some (some .nilIface, 1, 16) := by kernel_rfl

def ListPost (w : World) (l : List V) (e : Ending) (w' : World) : Prop :=
  ∃ a c, e = .returned (.tuple #[.slice a l.length c, .bool true]) ∧ RepJ w' (Fresh w.heap.size w'.heap.size) (.arr (toJL l)) (.iface 59 (.slice a l.length c)) ∧ Below w.heap.size w w'

set_option maxHeartbeats 4000000 in
set_option maxRecDepth 100000 in
theorem list_of (w0 : World) (B : Nat) (l : List V) (la : Option Addr) (lc : Nat) (C : Nat → List Value) (hl : l.length * 104 ≤ 140737488351232)
    (cl : 0 < l.length → ∃ b o, la = some ⟨b, o, none⟩ ∧ b < B ∧ ∀ i, i < l.length → CellsAt w0 b (o + i * 6) (C i)) (rl : ∀ i (hi : i < l.length), RepV w0 B l[i] (C i))
    (ih : ∀ i (hi : i < l.length), ToGoOK w0 B l[i] (C i)) (w : World) (hbel : Below B w0 w) (hB : B ≤ w.heap.size) :
    Calls Tryz.prog 31 #[.slice la l.length lc] w (ListPost w l) := by
  have hmk := run_make_row' (P := Tryz.prog) 59 20 .nilIface 16 Tryz.underlying59 info_any rfl .i64 .i64 l.length (by omega) (by omega)
  have Hcl := Lib.hid cl; clear cl
  have Hih := Lib.hid ih; clear ih
  have Hbel := Lib.hid hbel; clear hbel
  have hst : LInv w.heap.size l 0 (w.alloc (.cells (madeCells #[.nilIface] l.length) 20)) :=
    ⟨_, fun _ _ => False, World.rowIs_made w .nilIface l.length 20, fun _ _ h => by omega, fun _ _ _ _ h => by omega, fun _ _ h => by omega⟩
  have Hst := Lib.hid hst; clear hst
  go_enter Tryz.func31, Tryz.ntmps31
  go_wp2_with fail
  go_loopw [14] (fun i wr => LLoop w w.heap.size l i wr) (fun i _ => l.length - (intOf i).toNat)
  case atStart => exact ⟨0, Nat.zero_le _, rfl, below_alloc1 _ _, by simp, Hst.out⟩
  case round =>
    obtain ⟨n, hn, rfl, hb, hH, hinv⟩ := hrel
    have Hinv := Lib.hid hinv; clear hinv
    by_cases hn' : n < l.length
    · obtain ⟨lb, lo, rfl, hlb, hcel⟩ := Hcl.out (by omega)
      have hb0 : Below B w0 wr := Hbel.out.trans (hb.mono hB)
      have cc := (hcel n hn').below hb0 hlb
      have hbx : Below wr.heap.size wr (wr.alloc (.cells (C n).toArray 26)) := below_alloc1 _ _
      have ih := Hih.out n hn' _ (hb0.trans (hbx.mono (by have := hb.size; omega))) (by have := hb.size; have := hbx.size; omega)
      obtain ⟨k', h', t', la', ka', va', nl', cl', nk', ck', nv', cv', hCn⟩ := (rl n hn').shape
      rw [hCn] at cc ih hbx
      obtain ⟨y0, y1, y2, y3, y4, y5⟩ := cells6 cc
      have HI := Lib.hid ih
      clear ih hCn cc hcel hb0
      go_wp2_with fail
      refine HI.out.mono ?_
      rintro e w2 ⟨x, rfl, hx, hb2⟩
      have s1 := hbx.size
      have s2 := hb2.size
      have hb3 := hb.trans ((hbx.mono hb.size).trans (hb2.mono (by have := hb.size; omega)))
      have hnext := Lib.hid (Hinv.out.step hH hn' hbx hb2 hx)
      obtain ⟨hcw, hfw⟩ : (∃ u, w2.cell? ⟨w.heap.size, n, none⟩ = some u) ∧ w2.frozen? ⟨w.heap.size, n, none⟩ = false := by
        obtain ⟨f, F, hrow, _⟩ := Hinv.out
        have h2 := rowIs_carry hrow ((hb2.block w.heap.size (by omega)).trans (hbx.block w.heap.size hH))
        exact ⟨⟨_, h2.cell hn'⟩, h2.frozen _⟩
      obtain ⟨u, hcw⟩ := hcw
      have hbs := Lib.hid (hb3.setCell (p := ⟨w.heap.size, n, none⟩) (Nat.le_refl _) x)
      have hsz : (w2.setCell ⟨w.heap.size, n, none⟩ x).heap.size = w2.heap.size := by simp [World.setCell]
      have Hsz := Lib.hid hsz; clear hsz
      rcases hx.form with rfl | ⟨ty, y, rfl⟩
      all_goals
        clear hx
        go_wp2_with fail
        go_roundw
        case rel => exact ⟨n + 1, by omega, by go_num, hbs.out, by rw [Hsz.out]; omega, hnext.out⟩
        case measure => simp [intOf]; omega
    · go_wp2_with fail
      have e : n = l.length := by omega
      refine bodyPost_ret (results_tmp2 rfl _ _ _) rfl ⟨_, _, rfl, LInv.done hl hH (e ▸ Hinv.out), hb⟩

end Go.Proofs.YtpoibibbkjogpaaGreatDoor

namespace Go.Proofs.YtpoibibbkjogpaaGreatDoor
open Go Go.RowKit Go.Maps

theorem u8_lt (a b : UInt8) : a < b ↔ a.toNat < b.toNat := UInt8.lt_iff_toNat_lt
theorem u8_eq (a b : UInt8) : a = b ↔ a.toNat = b.toNat := ⟨fun h => by rw [h], fun h => UInt8.toNat_inj.1 h⟩

theorem bl_cons (a b : UInt8) (x y : List UInt8) : Op.bytesLess (a :: x) (b :: y) = true ↔ a.toNat < b.toNat ∨ (a = b ∧ Op.bytesLess x y = true) := by
  simp [Op.bytesLess, u8_lt]

theorem bl_irrefl : ∀ a : List UInt8, Op.bytesLess a a = false
  | [] => rfl
  | a :: x => by
    rw [← Bool.not_eq_true, bl_cons]
    simp [bl_irrefl x]
theorem bl_asymm : ∀ a b : List UInt8, Op.bytesLess a b = true → Op.bytesLess b a = false
  | [], [], h => by simp [Op.bytesLess] at h
  | [], _ :: _, _ => rfl
  | _ :: _, [], h => by simp [Op.bytesLess] at h
  | a :: x, b :: y, h => by
    rw [bl_cons] at h
    rw [← Bool.not_eq_true, bl_cons]
    rintro (h' | ⟨rfl, h'⟩)
    · rcases h with h | ⟨rfl, _⟩ <;> omega
    · rcases h with h | ⟨_, h⟩
      · omega
      · rw [bl_asymm x y h] at h'; cases h'
theorem bl_trans : ∀ a b c : List UInt8, Op.bytesLess a b = true → Op.bytesLess b c = true → Op.bytesLess a c = true
  | _, _, [], _, h => by simp [Op.bytesLess] at h
  | _, [], _ :: _, h, _ => by simp [Op.bytesLess] at h
  | [], _ :: _, _ :: _, _, _ => rfl
  | a :: x, b :: y, c :: z, h, h' => by
    rw [bl_cons] at *
    rcases h with h | ⟨rfl, h⟩
    · rcases h' with h' | ⟨rfl, h'⟩ <;> (left; omega)
    · rcases h' with h' | ⟨rfl, h'⟩
      · left; exact h'
      · right; exact ⟨rfl, bl_trans x y z h h'⟩
theorem bl_total : ∀ a b : List UInt8, Op.bytesLess a b = false → Op.bytesLess b a = false → a = b
  | [], [], _, _ => rfl
  | [], _ :: _, h, _ => by simp [Op.bytesLess] at h
  | _ :: _, [], _, h => by simp [Op.bytesLess] at h
  | a :: x, b :: y, h, h' => by
    rw [← Bool.not_eq_true, bl_cons] at h h'
    have e : a = b := by
      rw [u8_eq]
      have h1 : ¬ a.toNat < b.toNat := fun q => h (.inl q)
      have h2 : ¬ b.toNat < a.toNat := fun q => h' (.inl q)
      omega
    subst e
    have e1 : Op.bytesLess x y = false := by rw [← Bool.not_eq_true]; exact fun q => h (.inr ⟨rfl, q⟩)
    have e2 : Op.bytesLess y x = false := by rw [← Bool.not_eq_true]; exact fun q => h' (.inr ⟨rfl, q⟩)
    rw [bl_total x y e1 e2]

theorem before_eq : ∀ a b : List UInt8, bytesBefore a b = Op.bytesLess a b
  | [], [] => rfl
  | [], _ :: _ => rfl
  | _ :: _, [] => rfl
  | a :: x, b :: y => by simp [bytesBefore, Op.bytesLess, before_eq x y]

theorem insert_last {H : Type} (k : List UInt8) (d : DataW H) : ∀ es : List (Lit × DataW H), (∀ p ∈ es, ∃ s, p.1 = .string s ∧ Op.bytesLess s k = true) → DataW.insert (.string k, d) es = es ++ [(.string k, d)]
  | [], _ => rfl
  | p :: r, h => by
    obtain ⟨s, hs, hlt⟩ := h p (by simp)
    unfold DataW.insert
    rw [hs]
    have : (Lit.string k).before (.string s) = false := by
      show bytesBefore k s = false
      rw [before_eq]; exact bl_asymm _ _ hlt
    simp [this, insert_last k d r (fun q hq => h q (by simp [hq]))]

theorem put_last {H : Type} (k : List UInt8) (d : DataW H) (es : List (Lit × DataW H)) (h : ∀ p ∈ es, ∃ s, p.1 = .string s ∧ Op.bytesLess s k = true) : (DataW.map es).put (.string k) d = .map (es ++ [(.string k, d)]) := by
  unfold DataW.put
  have hf : es.filter (fun p => !p.1.sameKey (.string k)) = es := by
    rw [List.filter_eq_self]
    intro p hp
    obtain ⟨s, hs, hlt⟩ := h p hp
    rw [hs]
    show (!(s == k)) = true
    have : s ≠ k := fun e => by rw [e, bl_irrefl] at hlt; cases hlt
    simpa using this
  show DataW.map (DataW.insert (Lit.string k, d) (es.filter (fun p => !p.1.sameKey (.string k)))) = _
  rw [hf, insert_last k d es h]

/-- From neighbours to all. -/
theorem rise_all (ks : List ByteArray) (rise : ∀ i (hi : i + 1 < ks.length), Op.bytesLess ks[i].toList ks[i + 1].toList = true) : ∀ (j : Nat) (hj : j < ks.length) (i : Nat) (hi : i < j), Op.bytesLess (ks[i]'(by omega)).toList ks[j].toList = true := by
  intro j
  induction j with
  | zero => intro _ i hi; omega
  | succ j ih =>
    intro hj i hi
    by_cases e : i = j
    · subst e; exact rise i hj
    · exact bl_trans _ _ _ (ih (by omega) i (by omega)) (rise j hj)

theorem run_makeMap_hint {P : Program} {t k e : TypeId} (ht : P.underlying t = some (.map k e)) (q : IntKind) (n : Int) (w : World) : (Instr.makeMap t (some (.int q n))).run P w = .ok (.map (some w.heap.size)) (w.alloc (.map #[] 0)) := by
  simp [Instr.makeMap, run_underlying ht, asInt, asIntOf, Result.andThen]

end Go.Proofs.YtpoibibbkjogpaaGreatDoor

namespace Go.Proofs.YtpoibibbkjogpaaGreatDoor
open Go Go.RowKit Go.Maps Go.Deep Go.WideMaps

theorem law_str : Keyed Tryz.prog 9 := string_keyed Tryz.underlying9

theorem entries_take (m : List (ByteArray × J)) (n : Nat) (hn : n < m.length) (E : Nat → Value) (x : Value) :
    entries (m.take (n + 1)) (fun i => if i = n then x else E i) = entries (m.take n) E ++ [(Lit.string m[n].1.data.toList, DataW.held x)] := by
  unfold entries
  rw [List.take_succ_eq_append_getElem hn, List.mapIdx_append]
  have hl : (m.take n).length = n := by rw [List.length_take]; omega
  congr 1
  · apply List.ext_getElem?
    intro i
    simp only [List.getElem?_mapIdx]
    by_cases hi : i < n
    · have : i ≠ n := by omega
      simp [this]
    · rw [List.getElem?_eq_none (by omega)]; rfl
  · simp [hl]

/-- The first n entries of the new map are there. -/
def MInv (H : Nat) (m : List (ByteArray × J)) (n : Nat) (wr : World) : Prop :=
  ∃ (E : Nat → Value) (F : Nat → Nat → Prop), wr.ownsMap Tryz.prog 9 heldR H n (.map (entries (m.take n) E)) ∧ (∀ i k, i < n → F i k → H < k ∧ k < wr.heap.size) ∧
    (∀ i j k, i < j → j < n → F i k → F j k → False) ∧ ∀ i (hi : i < m.length), i < n → RepJ wr (F i) m[i].2 (E i)

theorem MInv.step {H : Nat} {m : List (ByteArray × J)} {n : Nat} {wr w2 w3 : World} {x : Value} {E : Nat → Value} {F : Nat → Nat → Prop} (hH : H < wr.heap.size) (hn : n < m.length)
    (hrise : ∀ i (hi : i < n), Op.bytesLess (m[i]'(by omega)).1.data.toList m[n].1.data.toList = true)
    (hF : ∀ i k, i < n → F i k → H < k ∧ k < wr.heap.size) (hd : ∀ i j k, i < j → j < n → F i k → F j k → False) (hr : ∀ i (hi : i < m.length), i < n → RepJ wr (F i) m[i].2 (E i))
    (hb2 : Below wr.heap.size wr w2) (hx : RepJ w2 (Fresh wr.heap.size w2.heap.size) m[n].2 x)
    (hown : w3.ownsMap Tryz.prog 9 heldR H (n + 1) ((DataW.map (entries (m.take n) E)).put (.string m[n].1.data.toList) (.held x))) (hg : w2.grownBy w3 (some H)) : MInv H m (n + 1) w3 := by
  have s2 := hb2.size
  have s3 := hg.size
  refine ⟨fun i => if i = n then x else E i, fun i => if i = n then Fresh wr.heap.size w2.heap.size else F i, ?_, ?_, ?_, ?_⟩
  · rw [entries_take m n hn E x, ← put_last _ _ _ ?_]
    · exact hown
    · intro p hp
      unfold entries at hp
      rw [List.mem_mapIdx] at hp
      obtain ⟨i, hi, rfl⟩ := hp
      have hi' : i < n := by rw [List.length_take] at hi; omega
      refine ⟨_, rfl, ?_⟩
      simp only [List.getElem_take]
      exact hrise i hi'
  · intro i k hi hk
    by_cases e : i = n
    · simp only [e, if_true] at hk
      exact ⟨by have := hk.1; omega, by have := hk.2; omega⟩
    · simp only [e, if_false] at hk
      have := hF i k (by omega) hk
      omega
  · intro i j k hij hj hik hjk
    by_cases e : j = n
    · simp only [e, if_true] at hjk
      have e2 : i ≠ n := by omega
      simp only [e2, if_false] at hik
      have := hF i k (by omega) hik
      have := hjk.1
      omega
    · have e2 : i ≠ n := by omega
      simp only [e, if_false] at hjk
      simp only [e2, if_false] at hik
      exact hd i j k hij (by omega) hik hjk
  · intro i hi hin
    by_cases e : i = n
    · subst e
      simp only [if_true]
      exact hx.carry fun k hk => hg.block k hk.2 (by have := hk.1; simp; omega)
    · simp only [e, if_false]
      refine (hr i hi (by omega)).carry fun k hk => ?_
      have := hF i k (by omega) hk
      exact (hg.block k (by omega) (by simp; omega)).trans (hb2.block k this.2)

def MLoop (W : World) (H : Nat) (m : List (ByteArray × J)) (i : Value) (wr : World) : Prop :=
  ∃ n : Nat, n ≤ m.length ∧ i = .int .i64 (n : Nat) ∧ Below W.heap.size W wr ∧ H < wr.heap.size ∧ MInv H m n wr

def MapPost (w : World) (m : List (ByteArray × J)) (e : Ending) (w' : World) : Prop :=
  ∃ r, e = .returned (.tuple #[.map (some r), .bool true]) ∧ RepJ w' (Fresh w.heap.size w'.heap.size) (.obj m) (.iface 62 (.map (some r))) ∧ Below w.heap.size w w'

theorem MInv.done {H H0 : Nat} {m : List (ByteArray × J)} {wr : World} (hm : m.length ≤ 140737488351232) (hs : ∀ p ∈ m, p.1.size ≤ 140737488351232) (hH0 : H0 ≤ H) (hH : H < wr.heap.size) (h : MInv H m m.length wr) :
    RepJ wr (Fresh H0 wr.heap.size) (.obj m) (.iface 62 (.map (some H))) := by
  obtain ⟨E, F, hown, hF, hd, hr⟩ := h
  rw [List.take_length] at hown
  exact .obj E F ⟨hH0, hH⟩ ⟨_, hm, hown⟩ hs (fun i hi hk => by have := hF i H (by omega) hk; omega)
    (fun i k hi hk => by have := hF i k (by omega) hk; exact ⟨by omega, this.2⟩) (fun i j k hij hj => hd i j k hij (by omega)) (fun i hi => hr i hi hi)

theorem toJM_len (ks : List ByteArray) (vs : List V) (h : ks.length = vs.length) : (toJM ks vs).length = ks.length := by rw [toJM_eq]; simp; omega
theorem toJM_get (ks : List ByteArray) (vs : List V) (h : ks.length = vs.length) (i : Nat) (hi : i < ks.length) : (toJM ks vs)[i]'(by rw [toJM_len _ _ h]; exact hi) = (ks[i], toJ (vs[i]'(by omega))) := by simp [toJM_eq]

set_option maxHeartbeats 4000000 in
set_option maxRecDepth 100000 in
theorem map_of (w0 : World) (B : Nat) (k hf : Int) (t : ByteArray) (l : List V) (ks : List ByteArray) (vs : List V) (la ka va : Option Addr) (lc kc vc : Nat) (D : Nat → List Value)
    (hks : ks.length * 16 ≤ 140737488351232) (hs : ∀ s ∈ ks, s.size ≤ 140737488351232)
    (rise : ∀ i (hi : i + 1 < ks.length), Op.bytesLess ks[i].toList ks[i + 1].toList = true) (hlen : ks.length = vs.length)
    (ck : 0 < ks.length → ∃ b o, ka = some ⟨b, o, none⟩ ∧ b < B ∧ ∀ i (hi : i < ks.length), w0.cell? ⟨b, o + i, none⟩ = some (.string ks[i]))
    (cv : 0 < vs.length → ∃ b o, va = some ⟨b, o, none⟩ ∧ b < B ∧ ∀ i, i < vs.length → CellsAt w0 b (o + i * 6) (D i)) (rv : ∀ i (hi : i < vs.length), RepV w0 B vs[i] (D i))
    (ih : ∀ i (hi : i < vs.length), ToGoOK w0 B vs[i] (D i)) (w : World) (hbel : Below B w0 w) (hB : B ≤ w.heap.size) :
    Calls Tryz.prog 32 #[.agg #[.int .i64 k, .int .i64 hf, .string t, .slice la l.length lc, .slice ka ks.length kc, .slice va vs.length vc]] w (MapPost w (toJM ks vs)) := by
  have hmk := run_makeMap_hint (P := Tryz.prog) Tryz.underlying62 .i64 ks.length
  have Hck := Lib.hid ck; clear ck
  have Hcv := Lib.hid cv; clear cv
  have Hih := Lib.hid ih; clear ih
  obtain ⟨W, hW⟩ : ∃ W, W = w.alloc (.cells #[.int .i64 k, .int .i64 hf, .string t, .slice la l.length lc, .slice ka ks.length kc, .slice va vs.length vc] 26) := ⟨_, rfl⟩
  have hWs : W.heap.size = w.heap.size + 1 := by rw [hW]; simp
  have hbW : Below w.heap.size w W := by rw [hW]; exact below_alloc1 _ _
  have hat : W.heap[w.heap.size]? = some (.cells #[.int .i64 k, .int .i64 hf, .string t, .slice la l.length lc, .slice ka ks.length kc, .slice va vs.length vc] 26) := by rw [hW]; exact at_alloc _ _
  have boxes : ∀ wx, Below W.heap.size W wx → wx.cell? ⟨w.heap.size, 0, none⟩ = some (.int .i64 k) ∧ wx.cell? ⟨w.heap.size, 1, none⟩ = some (.int .i64 hf) ∧ wx.cell? ⟨w.heap.size, 2, none⟩ = some (.string t) ∧ wx.cell? ⟨w.heap.size, 3, none⟩ = some (.slice la l.length lc) ∧ wx.cell? ⟨w.heap.size, 4, none⟩ = some (.slice ka ks.length kc) ∧ wx.cell? ⟨w.heap.size, 5, none⟩ = some (.slice va vs.length vc) :=
    fun wx hx => of_block6 ((hx.block w.heap.size (by omega)).trans hat)
  have Hbox := Lib.hid boxes; clear boxes
  have key : ∀ wx, Below W.heap.size W wx → Below B w0 wx ∧ Below w.heap.size w wx := fun wx hx => ⟨(hbel.trans (hbW.mono hB)).trans (hx.mono (by omega)), hbW.trans (hx.mono (by omega))⟩
  have Hkey := Lib.hid key; clear key
  have HWs := Lib.hid hWs; clear hWs
  have Hlen := Lib.hid hlen
  have t0 : ((ks.length : Int) != (vs.length : Int)) = false := by rw [hlen]; simp
  clear hat hbW hbel hlen
  go_enter Tryz.func32, Tryz.ntmps32
  go_wp2_with fail
  rw [← hW, ← HWs.out]
  have HW := Lib.hid hW; clear hW
  clear t0
  obtain ⟨m, hm⟩ : ∃ m, toJM ks vs = m := ⟨_, rfl⟩
  have hml : m.length = ks.length := by rw [← hm]; exact toJM_len _ _ Hlen.out
  have Hml := Lib.hid hml; clear hml
  have hmg : ∀ i (hi : i < ks.length), m[i]'(by rw [Hml.out]; exact hi) = (ks[i], toJ (vs[i]'(by rw [← Hlen.out]; exact hi))) := by subst hm; exact toJM_get ks vs Hlen.out
  have Hmg := Lib.hid hmg; clear hmg
  have Hm := Lib.hid hm; clear hm
  have hst : MInv W.heap.size m 0 (W.alloc (.map #[] 0)) := ⟨fun _ => .nilIface, fun _ _ => False, World.ownsMap_made W _ _ _, fun _ _ h => by omega, fun _ _ _ _ h => by omega, fun _ _ h => by omega⟩
  have Hst := Lib.hid hst; clear hst
  go_loopw [23] (fun i wr => MLoop W W.heap.size m i wr) (fun i _ => ks.length - (intOf i).toNat)
  case atStart => exact ⟨0, Nat.zero_le _, rfl, below_alloc1 _ _, by simp, Hst.out⟩
  case round =>
    obtain ⟨n, hn, rfl, hb, hH, hinv⟩ := hrel
    have Hinv := Lib.hid hinv; clear hinv
    rw [Hml.out] at hn
    obtain ⟨x0, x1, x2, x3, x4, x5⟩ := Hbox.out _ hb
    by_cases hn' : n < ks.length
    · obtain ⟨kb, ko, rfl, hkb, hkc⟩ := Hck.out (by omega)
      have hnv : n < vs.length := by rw [← Hlen.out]; exact hn'
      obtain ⟨lb, lo, rfl, hlb, hcel⟩ := Hcv.out (by omega)
      obtain ⟨hb0, hb1⟩ := Hkey.out _ hb
      have cc := (hcel n hnv).below hb0 hlb
      have ih := Hih.out n hnv wr hb0 (by have := hb1.size; omega)
      obtain ⟨k', h', t', la', ka', va', nl', cl', nk', ck', nv', cv', hCn⟩ := (rv n hnv).shape
      rw [hCn] at cc ih
      obtain ⟨y0, y1, y2, y3, y4, y5⟩ := cells6 cc
      have HI := Lib.hid ih
      have k1 : wr.cell? ⟨kb, ko + n, none⟩ = some (.string ks[n]) := (hb0.cell (p := ⟨kb, ko + n, none⟩) hkb).trans (hkc n hn')
      have hksz : ks[n].size ≤ 140737488351232 := hs _ (List.getElem_mem hn')
      obtain ⟨kn, hkn⟩ : ∃ kn, ks[n] = kn := ⟨_, rfl⟩
      rw [hkn] at k1 hksz
      have Hkn := Lib.hid hkn; clear hkn
      have hkey : keyOf Tryz.prog 9 (.string kn) = some (.string kn.data.toList) := keyOf_string_mk Tryz.underlying9 (by unfold maxLen; omega)
      have Hkey2 := Lib.hid hkey; clear hkey
      by_cases hn0 : n ≤ 0
      · clear ih hCn cc hcel hkc
        go_wp2_with fail
        refine HI.out.mono ?_
        rintro e w2 ⟨x, rfl, hx, hb2⟩
        have h63 : n < maxLen := by unfold maxLen; omega
        obtain ⟨E, F, hown, hF, hd, hr⟩ := Hinv.out
        have hown2 := hown.kept (below_grown2 hb2 none) (by simp)
        have HF := Lib.hid hF; clear hF
        have Hd := Lib.hid hd; clear hd
        have Hr := Lib.hid hr; clear hr
        clear hown x0 x1 x2 x3 x4 x5 k1 y0 y1 y2 y3 y4 y5
        go_wp2_with (at_mapUpdate; refine wpList_mapUpdate_own _ rfl _ _ _ 62 rfl 9 20 law_str Tryz.underlying62 heldR W.heap.size n _ rfl hown2 h63 _ _ _ rfl rfl Hkey2.out (.held x) [] rfl ?_; intro w3 hown3 hg3)
        go_roundw
        case rel =>
          have s2 := hb2.size
          have s3 := hg3.size
          have em : m[n]'(by rw [Hml.out]; exact hn') = (kn, toJ (vs[n]'hnv)) := by rw [Hmg.out n hn', Hkn.out]
          refine ⟨n + 1, by rw [Hml.out]; omega, by go_num, hb.grown ((below_grown2 hb2 (some W.heap.size)).trans hg3) hb.size (fun k hk => by cases hk; exact Nat.le_refl _), by omega, ?_⟩
          refine MInv.step (w2 := w2) (x := x) hH (by rw [Hml.out]; exact hn') ?_ HF.out Hd.out Hr.out hb2 (by rw [em]; exact hx) (by rw [em]; exact hown3) hg3
          intro i hi
          rw [em, Hmg.out i (by omega), ← Hkn.out, ← ByteArray.toList_eq, ← ByteArray.toList_eq]
          exact rise_all ks rise n hn' i hi
        case measure => simp [intOf]; omega
      · have k2 : wr.cell? ⟨kb, ko + (n - 1), none⟩ = some (.string ks[n - 1]) := (hb0.cell (p := ⟨kb, ko + (n - 1), none⟩) hkb).trans (hkc (n - 1) (by omega))
        have hlt : Op.bytesLess ks[n - 1].toList kn.toList = true := by
          have := rise (n - 1) (by omega)
          rw [← Hkn.out]
          simpa [show n - 1 + 1 = n from by omega] using this
        generalize ks[n - 1] = pk at k2 hlt
        have t1 : (0 : Int) < (n : Int) := by omega
        clear ih hCn cc hcel hkc
        go_wp2_with fail
        refine HI.out.mono ?_
        rintro e w2 ⟨x, rfl, hx, hb2⟩
        have h63 : n < maxLen := by unfold maxLen; omega
        obtain ⟨E, F, hown, hF, hd, hr⟩ := Hinv.out
        have hown2 := hown.kept (below_grown2 hb2 none) (by simp)
        have HF := Lib.hid hF; clear hF
        have Hd := Lib.hid hd; clear hd
        have Hr := Lib.hid hr; clear hr
        clear hown k2 hlt x0 x1 x2 x3 x4 x5 k1 y0 y1 y2 y3 y4 y5
        go_wp2_with (at_mapUpdate; refine wpList_mapUpdate_own _ rfl _ _ _ 62 rfl 9 20 law_str Tryz.underlying62 heldR W.heap.size n _ rfl hown2 h63 _ _ _ rfl rfl Hkey2.out (.held x) [] rfl ?_; intro w3 hown3 hg3)
        go_roundw
        case rel =>
          have s2 := hb2.size
          have s3 := hg3.size
          have em : m[n]'(by rw [Hml.out]; exact hn') = (kn, toJ (vs[n]'hnv)) := by rw [Hmg.out n hn', Hkn.out]
          refine ⟨n + 1, by rw [Hml.out]; omega, by go_num, hb.grown ((below_grown2 hb2 (some W.heap.size)).trans hg3) hb.size (fun k hk => by cases hk; exact Nat.le_refl _), by omega, ?_⟩
          refine MInv.step (w2 := w2) (x := x) hH (by rw [Hml.out]; exact hn') ?_ HF.out Hd.out Hr.out hb2 (by rw [em]; exact hx) (by rw [em]; exact hown3) hg3
          intro i hi
          rw [em, Hmg.out i (by omega), ← Hkn.out, ← ByteArray.toList_eq, ← ByteArray.toList_eq]
          exact rise_all ks rise n hn' i hi
        case measure => simp [intOf]; omega
    · go_wp2_with fail
      have e : n = ks.length := by omega
      refine bodyPost_ret (results_tmp2 rfl _ _ _) rfl ⟨_, rfl, ?_, (Hkey.out _ hb).2⟩
      rw [Hm.out]
      refine MInv.done (by rw [Hml.out]; omega) ?_ (by rw [HWs.out]; omega) hH (by rw [Hml.out, ← e]; exact Hinv.out)
      intro p hp
      obtain ⟨i, hi, rfl⟩ := List.getElem_of_mem hp
      rw [Hmg.out i (by rw [← Hml.out]; exact hi)]
      exact hs _ (List.getElem_mem _)

end Go.Proofs.YtpoibibbkjogpaaGreatDoor
