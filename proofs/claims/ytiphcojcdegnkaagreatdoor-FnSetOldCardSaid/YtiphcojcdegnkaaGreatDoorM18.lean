/- Contract of impl.SetPath. -/
/- Rows of impl.Value of a call's own whose elements lie in memory that came in. No function is walked here. -/
/- Contracts of spec.Num, Str, Keys, Each. -/
import Derived.Test.YtiphcojcdegnkaaGreatDoorM17
import Derived.Test.YtiphcojcdegnkaaGreatDoorM12
import Derived.Test.YtiphcojcdegnkaaGreatDoorM01
import Derived.Test.YtiphcojcdegnkaaGreatDoorM08
import Derived.Test.YtiphcojcdegnkaaGreatDoorM06
import Derived.WalkLawsBesides
namespace Go.Proofs.YtiphcojcdegnkaaGreatDoor
open Go Go.RowKit Go.Deep

theorem at_alloc4 (w : World) (a b c d : Obj) : Below w.heap.size w ((((w.alloc a).alloc b).alloc c).alloc d) ∧ ((((w.alloc a).alloc b).alloc c).alloc d).heap.size = w.heap.size + 4 ∧ ((((w.alloc a).alloc b).alloc c).alloc d).heap[w.heap.size + 1]? = some b ∧
    ((((w.alloc a).alloc b).alloc c).alloc d).heap[w.heap.size + 1 + 1]? = some c ∧ ((((w.alloc a).alloc b).alloc c).alloc d).heap[w.heap.size + 1 + 1 + 1]? = some d := by
  obtain ⟨h1, h2, h3, h4⟩ := at_alloc3 w a b c
  generalize ((w.alloc a).alloc b).alloc c = W at *
  have hb := below_alloc1 W d
  refine ⟨h1.trans (hb.mono (by omega)), by rw [size_alloc1]; omega, (hb.block _ (by omega)).trans h3, (hb.block _ (by omega)).trans h4, ?_⟩
  have := at_alloc W d
  rwa [h2] at this

set_option maxHeartbeats 2000000 in
set_option maxRecDepth 100000 in
theorem implSet_walk {w0 : World} {B : Nat} {a b c : V} {ca cb cc : List Value} (ha : RepV w0 B a ca) (hb : RepV w0 B b cb) (hc : RepV w0 B c cc) (an : Ans)
    (ta : ToGoOK w0 B a ca) (tb : ToGoOK w0 B b cb) (tc : ToGoOK w0 B c cc)
    (hz : ∀ w (N M : Nat) x y z, N ≤ M → M ≤ w.heap.size → RepJ w (fun k => k < N) (toJ a) x → RepJ w (fun k => k < w.heap.size) (toJ b) y → RepJ w (fun k => M ≤ k ∧ k < w.heap.size) (toJ c) z → Calls Tryz.prog 22 #[x, y, z] w (Ret (SubR w an)))
    (w : World) (hbel : Below B w0 w) (hB : B ≤ w.heap.size) : Calls Tryz.prog 13 #[.agg ca.toArray, .agg cb.toArray, .agg cc.toArray] w (ResQ w an) := by
  have Ta := Lib.hid ta; clear ta
  have Tb := Lib.hid tb; clear tb
  have Tc := Lib.hid tc; clear tc
  have Hz := Lib.hid hz; clear hz
  have Hbel := Lib.hid hbel; clear hbel
  obtain ⟨k, h, t, la, ka, va, nl, cl, nk, ck, nv, cv, rfl⟩ := ha.shape
  obtain ⟨k', h', t', la', ka', va', nl', cl', nk', ck', nv', cv', rfl⟩ := hb.shape
  obtain ⟨k2, h2, t2, la2, ka2, va2, nl2, cl2, nk2, ck2, nv2, cv2, rfl⟩ := hc.shape
  clear ha hb hc
  go_enter Tryz.func13, Tryz.ntmps13
  go_wp2_with fail
  have h0 := at_alloc4 w (.cells #[.int .i64 k, .int .i64 h, .string t, .slice la nl cl, .slice ka nk ck, .slice va nv cv] 26)
    (.cells #[.int .i64 k', .int .i64 h', .string t', .slice la' nl' cl', .slice ka' nk' ck', .slice va' nv' cv'] 26)
    (.cells #[.int .i64 k2, .int .i64 h2, .string t2, .slice la2 nl2 cl2, .slice ka2 nk2 ck2, .slice va2 nv2 cv2] 26)
    (.cells #[.int .i64 0, .int .i64 0, .string ⟨#[]⟩, .slice none 0 0, .slice none 0 0, .slice none 0 0, .int .i64 0] 35)
  obtain ⟨hbW, hsW, hx1, hx2, hx3⟩ := h0
  refine (Ta.out _ (Hbel.out.trans (hbW.mono hB)) (by rw [hsW]; omega)).mono ?_
  generalize (((w.alloc _).alloc _).alloc _).alloc _ = W at *
  rintro e w1 ⟨x, rfl, jx, hw1⟩
  have hs1 : w.heap.size + 4 ≤ w1.heap.size := by have := hw1.size; omega
  have y1 := (hw1.block (w.heap.size + 1) (by omega)).trans hx1
  have y2 := (hw1.block (w.heap.size + 1 + 1) (by omega)).trans hx2
  have y3 := (hw1.block (w.heap.size + 1 + 1 + 1) (by omega)).trans hx3
  have hb1 : Below w.heap.size w w1 := hbW.trans (hw1.mono (by omega))
  obtain ⟨e0, e1, e2, e3, e4, e5⟩ := of_block6 y1
  have fx := jx.form
  have Jx := Lib.hid jx; clear jx
  have Hw1 := Lib.hid hw1; clear hw1
  have Y2 := Lib.hid y2
  have Y3 := Lib.hid y3
  clear y2 y3 hx1 hx2 hx3
  go_wp2_with fail
  refine (Tb.out _ (Hbel.out.trans (hb1.mono hB)) (by omega)).mono ?_
  rintro e w2 ⟨y, rfl, jy, hw2⟩
  have hs2 : w.heap.size + 4 ≤ w2.heap.size := by have := hw2.size; omega
  have hs12 := hw2.size
  have z2 := (hw2.block (w.heap.size + 1 + 1) (by omega)).trans Y2.out
  have z3 := (hw2.block (w.heap.size + 1 + 1 + 1) (by omega)).trans Y3.out
  have hb2 : Below w.heap.size w w2 := hb1.trans (hw2.mono (by omega))
  have fy := jy.form
  have Jy := Lib.hid jy; clear jy
  have Z3 := Lib.hid z3
  have Hw2 := Lib.hid hw2
  clear z3 hw2
  obtain ⟨g0, g1, g2, g3, g4, g5⟩ := of_block6 z2
  clear e0 e1 e2 e3 e4 e5
  go_wp2_with fail
  refine (Tc.out _ (Hbel.out.trans (hb2.mono hB)) (by omega)).mono ?_
  rintro e w3 ⟨z, rfl, jz, hw3⟩
  have hs3 : w.heap.size + 4 ≤ w3.heap.size := by have := hw3.size; omega
  have hs23 := hw3.size
  have u3 := (hw3.block (w.heap.size + 1 + 1 + 1) (by omega)).trans Z3.out
  have hb3 : Below w.heap.size w w3 := hb2.trans (hw3.mono (by omega))
  have fz := jz.form
  have jx3 := (Jx.out.under Hw2.out (fun k hk => hk.2)).under hw3 (fun k hk => by have := hk.2; omega)
  have jy3 := Jy.out.under hw3 (fun k hk => hk.2)
  have Z := Lib.hid (Hz.out w3 w1.heap.size w2.heap.size _ _ _ (by omega) (by omega) (jx3.mono (fun k hk => hk.2)) (jy3.mono (fun k hk => by have := hk.2; omega)) (jz.mono (fun k hk => hk)))
  clear jx3 jy3 jz Jx Jy g0 g1 g2 g3 g4 g5
  rcases fx with rfl | ⟨tx, x, rfl⟩ <;> rcases fy with rfl | ⟨ty, y, rfl⟩ <;> rcases fz with rfl | ⟨tz, z, rfl⟩
  all_goals
    go_wp2_with fail
    refine Z.out.mono ?_
    rintro e w4 ⟨u, rfl, hfu, hu, hw4⟩
    have hs4 : w.heap.size + 4 ≤ w4.heap.size := by have := hw4.size; omega
    have v3 := (hw4.block (w.heap.size + 1 + 1 + 1) (by omega)).trans u3
    have hb4 : Below w.heap.size w w4 := hb3.trans (hw4.mono (by omega))
    have U := Lib.hid hu
    clear hu
    rcases hfu with rfl | ⟨tu, u, rfl⟩
    all_goals
      go_wp2_with fail
      refine U.out.mono ?_
      rintro e w5 ⟨k, h, t, la, ka, va, nl, cl, nk, ck, nv, cv, n, rfl, hR, hw5⟩
      have hs5 : w.heap.size + 4 ≤ w5.heap.size := by have := hw5.size; omega
      have v4 := (hw5.block (w.heap.size + 1 + 1 + 1) (by omega)).trans v3
      obtain ⟨e0, e1, e2, e3, e4, e5, e6⟩ := of_block7 v4
      obtain ⟨f0, f1, f2, f3, f4, f5, f6⟩ := free_block7 v4
      have Hst := Lib.hid (resQ_store (z := w.heap.size + 1 + 1 + 1) (by omega) (by omega) hb4 hw5 hR)
      clear hR
      go_wp2_with fail
      refine bodyPost_ret (v := .agg #[.int .i64 k, .int .i64 h, .string t, .slice la nl cl, .slice ka nk ck, .slice va nv cv, .int .i64 n]) ?_ rfl Hst.out
      exact results_cell_row (p := 6) (ty := 35) rfl _ _ (w.heap.size + 1 + 1 + 1) 35 _ (0, 0) _ rfl (set_row7 v4 _ _ _ _ _ _ _) Tryz.underlying35 rfl (by kernel_rfl)

end Go.Proofs.YtiphcojcdegnkaaGreatDoor

namespace Go.Proofs.YtiphcojcdegnkaaGreatDoor
open Go Go.RowKit Go.Maps Go.Deep

def RowB (w : World) (B base : Nat) (v : Value) (l : List V) : Prop :=
  ∃ (C : Nat → List Value), w.ownsRow base 26 6 v l.length (flat C l.length) ∧ ∀ i (hi : i < l.length), RepV w B l[i] (C i)

theorem RowB.nil (w : World) (B base : Nat) : RowB w B base (.slice none 0 0) [] := ⟨fun _ => [], World.ownsRow_nil _ _ _ _, fun i hi => by simp at hi⟩

theorem kept_row0 {w w' : World} {base : Nat} {e : TypeId} {size : Nat} {v : Value} {n : Nat} {xs : List Value} (h : w.ownsRow base e size v n xs) (hg : w.grownBy w' none) : w'.ownsRow base e size v n xs := by
  refine h.kept hg ?_
  cases v.ownBlock <;> simp

theorem RowB.below {w w' : World} {B base : Nat} {v : Value} {l : List V} (h : RowB w B base v l) (hb : Below w.heap.size w w') (hB : B ≤ w.heap.size) : RowB w' B base v l := by
  obtain ⟨C, ho, hr⟩ := h
  exact ⟨C, kept_row0 ho (below_grown hb none), fun i hi => (hr i hi).carry (hb.mono hB) (Nat.le_refl _)⟩

theorem RowB.step {w w' : World} {B base : Nat} {v v' : Value} {l : List V} {x : V} {cs : List Value} {C : Nat → List Value}
    (hr : ∀ i (hi : i < l.length), RepV w B l[i] (C i)) (hx : RepV w B x cs) (hB : B ≤ base) (hB2 : B ≤ w.heap.size) (hv : ∀ g, v.ownBlock = some g → base ≤ g)
    (hown : w'.ownsRow base 26 6 v' (l.length + 1) (flat C l.length ++ cs)) (hg : w.grownBy w' v.ownBlock) : RowB w' B base v' (l ++ [x]) := by
  have hb : Below B w w' := (Below.refl B w).grown hg hB2 (fun q hq => by have := hv q hq; omega)
  refine ⟨fun i => if i < l.length then C i else cs, ?_, ?_⟩
  · rw [List.length_append, List.length_singleton]
    simp only [flat]
    rw [if_neg (by omega), flat_same (C' := C) (fun i hi => by rw [if_pos hi])]
    exact hown
  · intro i hi
    rw [List.length_append, List.length_singleton] at hi
    by_cases e : i < l.length
    · simp only [e, if_true]
      rw [List.getElem_append_left e]
      exact (hr i e).carry hb (Nat.le_refl _)
    · obtain rfl : i = l.length := by omega
      simp only [Nat.lt_irrefl, if_false]
      rw [List.getElem_append_right (by omega)]
      simp only [Nat.sub_self, List.getElem_cons_zero]
      exact hx.carry hb (Nat.le_refl _)

theorem RowB.parts {w : World} {B base : Nat} {v : Value} {l : List V} (h : RowB w B base v l) :
    ∃ (la : Option Addr) (lc : Nat) (C : Nat → List Value), v = .slice la l.length lc ∧
      (0 < l.length → ∃ b o, la = some ⟨b, o, none⟩ ∧ (base ≤ b ∧ b < w.heap.size) ∧ ∀ i, i < l.length → CellsAt w b (o + i * 6) (C i)) ∧
      (∀ i (hi : i < l.length), RepV w B l[i] (C i)) ∧ l.length ≤ lc := by
  obtain ⟨C, hown, hr⟩ := h
  have h6 : ∀ i, i < l.length → (C i).length = 6 := fun i hi => (hr i hi).toS.six
  rcases hown.2 with ⟨e, h0⟩ | ⟨g, cap, cur, e, hb, hg, hnc, _⟩
  · exact ⟨none, 0, C, by rw [e, h0], fun h => by omega, hr, by omega⟩
  · refine ⟨some ⟨g, 0, none⟩, cap, C, e, fun _ => ⟨g, 0, rfl, ⟨hb, (Array.getElem?_eq_some_iff.1 hg).1⟩, fun i hi j hj => ?_⟩, hr, hnc⟩
    have hj6 : j < 6 := by have := h6 i hi; omega
    have hc := hown.cells (g := g) (by rw [e]; rfl) (i * 6 + j) (C i)[j] (by rw [flat_get h6 i j hi hj6, List.getElem?_eq_getElem hj])
    rw [addr_add] at hc
    rw [Nat.zero_add]
    exact hc

theorem RowB.list {w : World} {B base : Nat} {v : Value} {l : List V} (h : RowB w B base v l) (hl : l.length * 104 ≤ 140737488351232) :
    ∃ la lc, v = .slice la l.length lc ∧ RepS w (fun k => k < B ∨ (base ≤ k ∧ k < w.heap.size)) (.mk 5 0 ⟨#[]⟩ l [] []) [.int .i64 5, .int .i64 0, .string ⟨#[]⟩, .slice la l.length lc, .slice none 0 0, .slice none 0 0] := by
  obtain ⟨la, lc, C, e, cl, rl, hlc⟩ := h.parts
  refine ⟨la, lc, e, .mk (ks := []) (vs := []) C C (by omega) (by omega) (Nat.zero_le _ : (⟨#[]⟩ : ByteArray).size ≤ _) hl (by simp) (by simp) (fun s hs => by simp at hs) (fun h0 => ?_) (fun i hi => (rl i hi).toS.mono fun k hk => .inl hk) (fun h => by simp at h) (fun h => by simp at h) (fun i hi => by simp at hi) hlc⟩
  obtain ⟨b, o, e, hb, hc⟩ := cl h0
  exact ⟨b, o, e, .inr hb, hc⟩

end Go.Proofs.YtiphcojcdegnkaaGreatDoor

namespace Go.Proofs.YtiphcojcdegnkaaGreatDoor
open Go Go.RowKit Go.Maps Go.Deep

/-- The cells of a key. -/
def keyC (v : V) : List Value := [.int .i64 v.kind, .int .i64 v.half, .string v.text, .slice none 0 0, .slice none 0 0, .slice none 0 0]
theorem keyC_len (v : V) : (keyC v).length = 6 := rfl
theorem keyC_one (v : V) : ∀ u ∈ keyC v, u.oneCell' = true := by
  intro u hu
  simp only [keyC, List.mem_cons, List.not_mem_nil, or_false] at hu
  rcases hu with rfl | rfl | rfl | rfl | rfl | rfl <;> rfl

set_option maxRecDepth 100000 in
theorem snum_any (n : Int) (hn : -1000000 ≤ n ∧ n ≤ 1000000) (w : World) : Calls Tryz.prog 64 #[.int .i64 n] w fun e w' =>
    e = .returned (.agg #[.int .i64 3, .int .i64 (2 * n), .string ⟨#[]⟩, .slice none 0 0, .slice none 0 0, .slice none 0 0]) ∧ Below w.heap.size w w' := by
  have hw : wrap64 (2 * n) = 2 * n := by unfold wrap64; omega
  have Hw := Lib.hid hw; clear hw hn
  go_enter Tryz.func64, Tryz.ntmps64
  go_wp2_with fail
  rw [Hw.out]
  refine bodyPost_ret (v := .agg #[.int .i64 3, .int .i64 (2 * n), .string ⟨#[]⟩, .slice none 0 0, .slice none 0 0, .slice none 0 0]) ?_ rfl ⟨rfl, below_alloc1 w _⟩
  exact results_cell_row (p := 2) (ty := 26) rfl _ _ w.heap.size 26 _ (0, 0) _ rfl (at_alloc w _) Tryz.underlying26 rfl (by kernel_rfl)
set_option maxRecDepth 100000 in
theorem sstr_any (s : ByteArray) (w : World) : Calls Tryz.prog 39 #[.string s] w fun e w' =>
    e = .returned (.agg #[.int .i64 4, .int .i64 0, .string s, .slice none 0 0, .slice none 0 0, .slice none 0 0]) ∧ Below w.heap.size w w' := by
  go_enter Tryz.func39, Tryz.ntmps39
  go_wp2_with fail
  refine bodyPost_ret (v := .agg #[.int .i64 4, .int .i64 0, .string s, .slice none 0 0, .slice none 0 0, .slice none 0 0]) ?_ rfl ⟨rfl, below_alloc1 w _⟩
  exact results_cell_row (p := 2) (ty := 26) rfl _ _ w.heap.size 26 _ (0, 0) _ rfl (at_alloc w _) Tryz.underlying26 rfl (by kernel_rfl)

/-- A row of keys of the call's own. -/
def RowK (w : World) (base : Nat) (v : Value) (ks : List V) : Prop := w.ownsRow base 26 6 v ks.length (ks.flatMap keyC)
theorem flatMap_key_len : ∀ (ks : List V), (ks.flatMap keyC).length = ks.length * 6
  | [] => rfl
  | k :: ks => by
    rw [List.flatMap_cons, List.length_append, flatMap_key_len ks, keyC_len, List.length_cons]
    omega
theorem flatMap_key_get : ∀ (ks : List V) (i j : Nat) (hi : i < ks.length) (_ : j < 6), (ks.flatMap keyC)[i * 6 + j]? = (keyC ks[i])[j]?
  | [], _, _, hi, _ => by simp at hi
  | k :: ks, 0, j, _, hj => by
    rw [List.flatMap_cons, List.getElem?_append_left (by rw [keyC_len]; omega)]
    simp
  | k :: ks, i + 1, j, hi, hj => by
    rw [List.flatMap_cons, List.getElem?_append_right (by rw [keyC_len]; omega), keyC_len, show (i + 1) * 6 + j - 6 = i * 6 + j by omega]
    exact flatMap_key_get ks i j (by simpa using hi) hj

/-- A row of keys, read; it lies in S. -/
def PathS (w : World) (S : Nat → Prop) (p : List V) (v : Value) : Prop :=
  ∃ la lc, v = .slice la p.length lc ∧ p.length ≤ lc ∧ (0 < p.length → ∃ b o, la = some ⟨b, o, none⟩ ∧ S b ∧ ∀ i (hi : i < p.length), CellsAt w b (o + i * 6) (keyC p[i]))
theorem PathS.turn {w w' : World} {S S' : Nat → Prop} {p : List V} {v : Value} (h : PathS w S p v) (hS : ∀ k, S k → w'.heap[k]? = w.heap[k]? ∧ S' k) : PathS w' S' p v := by
  obtain ⟨la, lc, e, hlc, hc⟩ := h
  refine ⟨la, lc, e, hlc, fun hp => ?_⟩
  obtain ⟨b, o, e, hb, hcel⟩ := hc hp
  exact ⟨b, o, e, (hS b hb).2, fun i hi => (hcel i hi).same (hS b hb).1⟩
theorem RowK.path {w : World} {base : Nat} {v : Value} {ks : List V} (h : RowK w base v ks) : PathS w (fun k => base ≤ k ∧ k < w.heap.size) ks v := by
  rcases h.2 with ⟨e, h0⟩ | ⟨g, cap, cur, e, hb, hg, hnc, _⟩
  · exact ⟨none, 0, by rw [e, h0], by omega, fun hp => by omega⟩
  · refine ⟨some ⟨g, 0, none⟩, cap, e, hnc, fun hp => ⟨g, 0, rfl, ⟨hb, (Array.getElem?_eq_some_iff.1 hg).1⟩, fun i hi j hj => ?_⟩⟩
    have hc := World.ownsRow.cells h (g := g) (by rw [e]; rfl) (i * 6 + j) (keyC ks[i])[j] (by rw [flatMap_key_get ks i j hi (by rw [keyC_len] at hj; exact hj), List.getElem?_eq_getElem hj])
    rw [addr_add] at hc
    rw [Nat.zero_add]
    exact hc

def KeyLoop (W : World) (hd : List V) (f : Nat → V) (len : Nat) (v i : Value) (wr : World) : Prop :=
  ∃ (n : Nat) (v' : Value), n ≤ len ∧ v' = v ∧ i = .int .i64 (n : Nat) ∧ Below W.heap.size W wr ∧ RowK wr W.heap.size v' (hd ++ (List.range n).map f)
theorem KeyLoop.snoc (hd : List V) (f : Nat → V) (n : Nat) : hd ++ (List.range (n + 1)).map f = (hd ++ (List.range n).map f) ++ [f n] := by
  rw [List.range_succ, List.map_append, List.append_assoc]; rfl

theorem RowK.below {w w' : World} {base : Nat} {v : Value} {ks : List V} (h : RowK w base v ks) (hb : Below w.heap.size w w') : RowK w' base v ks := kept_row0 h (below_grown2 hb none)

/-- One key more, by append. -/
theorem RowK.push {w' : World} {base : Nat} {v' : Value} {ks : List V} {k : V} (ho : w'.ownsRow base 26 6 v' (ks.length + 1) (ks.flatMap keyC ++ keyC k)) : RowK w' base v' (ks ++ [k]) := by
  unfold RowK
  rw [List.length_append, List.length_singleton, List.flatMap_append]
  simpa using ho

theorem getD_range (ks : List ByteArray) : (List.range ks.length).map (fun (i : Nat) => strV (ks.getD i ⟨#[]⟩)) = ks.map strV := by
  apply List.ext_getElem
  · simp
  · intro i h1 h2
    simp at h1
    simp [List.getD_eq_getElem?_getD, h1]
theorem RowK.mono {w : World} {base base' : Nat} {v : Value} {ks : List V} (h : RowK w base v ks) (hb : base' ≤ base) : RowK w base' v ks := by
  obtain ⟨h1, h2⟩ := h
  refine ⟨h1, ?_⟩
  rcases h2 with h2 | ⟨g, cap, cur, e, hg, hr⟩
  · exact .inl h2
  · exact .inr ⟨g, cap, cur, e, by omega, hr⟩

set_option maxHeartbeats 4000000 in
set_option maxRecDepth 100000 in
theorem keys_row (w : World) (k h : Int) (t : ByteArray) (la ka va : Option Addr) (nl lc kc nv vc : Nat) (ks : List ByteArray) (hnl : nl ≤ 400) (hks : ks.length ≤ 400)
    (ck : 0 < ks.length → ∃ b o, ka = some ⟨b, o, none⟩ ∧ b < w.heap.size ∧ ∀ i (hi : i < ks.length), w.cell? ⟨b, o + i, none⟩ = some (.string ks[i])) :
    Calls Tryz.prog 51 #[.agg #[.int .i64 k, .int .i64 h, .string t, .slice la nl lc, .slice ka ks.length kc, .slice va nv vc]] w fun e w' => ∃ v, e = .returned v ∧ Below w.heap.size w w' ∧ RowK w' w.heap.size v ((List.range nl).map (fun (i : Nat) => numV (i : Int)) ++ ks.map strV) := by
  obtain ⟨i0, hi, hz0, hz1, hz2⟩ := info_parts info_value
  have Hck := Lib.hid ck; clear ck
  obtain ⟨W, hW⟩ : ∃ W, W = w.alloc (.cells #[.int .i64 k, .int .i64 h, .string t, .slice la nl lc, .slice ka ks.length kc, .slice va nv vc] 26) := ⟨_, rfl⟩
  have hWs : W.heap.size = w.heap.size + 1 := by rw [hW]; simp
  have hbW : Below w.heap.size w W := by rw [hW]; exact below_alloc1 _ _
  have hat : W.heap[w.heap.size]? = some (.cells #[.int .i64 k, .int .i64 h, .string t, .slice la nl lc, .slice ka ks.length kc, .slice va nv vc] 26) := by rw [hW]; exact at_alloc _ _
  have Hat := Lib.hid fun (_ : True) => hat; 
  obtain ⟨a0, a1, a2, a3, a4, a5⟩ := of_block6 hat
  go_enter Tryz.func51, Tryz.ntmps51
  go_wp2_with fail
  rw [← hW]
  clear hat
  have HW := Lib.hid hW; clear hW
  go_loopw [3, 10] (fun v i wr => KeyLoop W [] (fun (i : Nat) => numV (i : Int)) nl v i wr) (fun _ i _ => nl - (intOf i).toNat)
  case atStart => exact ⟨0, _, Nat.zero_le _, rfl, rfl, Below.refl _ _, World.ownsRow_nil _ _ _ _⟩
  case round =>
    obtain ⟨n, v, hn, rfl, rfl, hb, hrow⟩ := hrel
    have hs := hb.size
    by_cases hn' : n < nl
    · have Hrow := Lib.hid hrow
      have u1 : (n : Int) < (nl : Int) := by omega
      have u2 : (0 : Int) ≤ (n : Int) := by omega
      clear hrow
      go_wp2_with fail
      refine (snum_any (n : Int) (by omega) _).mono ?_
      rintro e w2 ⟨rfl, hb3⟩
      have hb4 : Below W.heap.size W w2 := hb.trans (hb3.mono hs)
      have hs3 := hb3.size
      have hrow2 := Hrow.out.below hb3
      have hbn := below_alloc1 w2 (.cells #[.int .i64 3, .int .i64 (2 * (n : Int)), .string ⟨#[]⟩, .slice none 0 0, .slice none 0 0, .slice none 0 0] 26)
      have hsn := size_alloc1 w2 (.cells #[.int .i64 3, .int .i64 (2 * (n : Int)), .string ⟨#[]⟩, .slice none 0 0, .slice none 0 0, .slice none 0 0] 26)
      have hnews := cells_new w2 [.int .i64 3, .int .i64 (2 * (n : Int)), .string ⟨#[]⟩, .slice none 0 0, .slice none 0 0, .slice none 0 0] 26
      have hown := hrow2.below hbn
      have hob : ∀ g, v.ownBlock = some g → W.heap.size ≤ g := fun g hg => (World.ownsRow.lt hown g hg).1
      have hlen : ([] ++ (List.range n).map (fun (i : Nat) => numV (i : Int))).length = n := by simp
      unfold RowK at hown
      rw [hlen] at hown
      have c1 : n + 1 ≤ maxLen := by unfold maxLen; omega
      have c2 : (n + 1) * 104 ≤ 140737488355328 := by omega
      have hnext : ∀ v' w', w'.ownsRow W.heap.size 26 6 v' (n + 1) (([] ++ (List.range n).map (fun (i : Nat) => numV (i : Int))).flatMap keyC ++ [.int .i64 3, .int .i64 (2 * (n : Int)), .string ⟨#[]⟩, .slice none 0 0, .slice none 0 0, .slice none 0 0]) →
          (w2.alloc (.cells #[.int .i64 3, .int .i64 (2 * (n : Int)), .string ⟨#[]⟩, .slice none 0 0, .slice none 0 0, .slice none 0 0] 26)).grownBy w' v.ownBlock → KeyLoop W [] (fun (i : Nat) => numV (i : Int)) nl v' (.int .i64 ((n : Int) + 1)) w' := by
        intro v' w' ho hg
        refine ⟨n + 1, v', by omega, rfl, rfl, (hb4.trans (hbn.mono (by omega))).grown hg (by omega) (fun q hq => hob q hq), ?_⟩
        rw [KeyLoop.snoc]
        exact RowK.push (k := (numV (n : Int))) (by rw [hlen]; exact ho)
      have Hnext := Lib.hid hnext
      have hbase : W.heap.size ≤ (w2.alloc (.cells #[.int .i64 3, .int .i64 (2 * (n : Int)), .string ⟨#[]⟩, .slice none 0 0, .slice none 0 0, .slice none 0 0] 26)).heap.size := by omega
      have hx1 : ∀ u ∈ ([.int .i64 3, .int .i64 (2 * (n : Int)), .string ⟨#[]⟩, .slice none 0 0, .slice none 0 0, .slice none 0 0] : List Value), u.oneCell' = true := keyC_one (numV (n : Int))
      clear hnext hrow2 hob hbn hlen
      go_wp2_with (at_builtin; go_loud (refine wpList_append_own_at _ rfl (.tmp 13) (.tmp 16) 23 rfl W.heap.size 26 i0 _ 6 104 Tryz.underlying23 hi hz0 hz1 hz2 rfl (by decide) v _ _ rfl hown _ 1 1 _ rfl rfl hnews hx1 c1 c2 hbase ?_; intro v' w5 hown5 hg5 _ hat5; have Hloop := Lib.hid (Hnext.out v' w5 hown5 hg5); obtain ⟨la', lc', rfl⟩ := row_form hown5; clear hown5 hg5 hat5))
      go_roundw
      case rel => exact Hloop.out
      case measure => simp [intOf]; omega
    · have en : nl = n := by omega
      subst en
      have Hrow0 := Lib.hid hrow
      clear hrow
      obtain ⟨wo, hwo⟩ : ∃ wo, wo = wr := ⟨_, rfl⟩
      rw [← hwo] at hb Hrow0 ⊢
      clear hwo
      have hb0 := hb
      clear a0 a1 a2 a3 a4 a5 hn' hn
      obtain ⟨a0, a1, a2, a3, a4, a5⟩ := of_block6 ((hb.block w.heap.size (by omega)).trans (Hat.out trivial))
      go_wp2_with fail
      go_loopw [3, 22] (fun v i wr => KeyLoop W ((List.range nl).map (fun (i : Nat) => numV (i : Int))) (fun (i : Nat) => strV (ks.getD i ⟨#[]⟩)) ks.length v i wr) (fun _ i _ => ks.length - (intOf i).toNat)
      case atStart => exact ⟨0, _, Nat.zero_le _, rfl, rfl, hb0, by rw [List.range_zero, List.map_nil, List.append_nil]; exact Hrow0.out⟩
      case round =>
        obtain ⟨n, v, hn, rfl, rfl, hb, hrow⟩ := hrel
        have hs := hb.size
        by_cases hn' : n < ks.length
        · have Hrow := Lib.hid hrow
          obtain ⟨kb, ko, rfl, hkb, hcel⟩ := Hck.out (by omega)
          have yy := ((hbW.trans (hb.mono (by omega))).cell (p := ⟨kb, ko + n, none⟩) hkb).trans (hcel n hn')
          have hxx : ks.getD n ⟨#[]⟩ = ks[n] := by rw [List.getD_eq_getElem?_getD, List.getElem?_eq_getElem hn']; rfl
          rw [← hxx] at yy
          clear hcel
          obtain ⟨x, hx0⟩ : ∃ x, ks.getD n ⟨#[]⟩ = x := ⟨_, rfl⟩
          rw [hx0] at yy
          have u1 : (n : Int) < (ks.length : Int) := by omega
          have u2 : (0 : Int) ≤ (n : Int) := by omega
          clear hrow
          go_wp2_with fail
          refine (sstr_any x _).mono ?_
          rintro e w2 ⟨rfl, hb3⟩
          have hb4 : Below W.heap.size W w2 := hb.trans (hb3.mono hs)
          have hs3 := hb3.size
          have hrow2 := Hrow.out.below hb3
          have hbn := below_alloc1 w2 (.cells #[.int .i64 4, .int .i64 0, .string x, .slice none 0 0, .slice none 0 0, .slice none 0 0] 26)
          have hsn := size_alloc1 w2 (.cells #[.int .i64 4, .int .i64 0, .string x, .slice none 0 0, .slice none 0 0, .slice none 0 0] 26)
          have hnews := cells_new w2 [.int .i64 4, .int .i64 0, .string x, .slice none 0 0, .slice none 0 0, .slice none 0 0] 26
          have hown := hrow2.below hbn
          have hob : ∀ g, v.ownBlock = some g → W.heap.size ≤ g := fun g hg => (World.ownsRow.lt hown g hg).1
          have hlen : (((List.range nl).map (fun (i : Nat) => numV (i : Int))) ++ (List.range n).map (fun (i : Nat) => strV (ks.getD i ⟨#[]⟩))).length = (nl + n) := by simp
          unfold RowK at hown
          rw [hlen] at hown
          have c1 : (nl + n) + 1 ≤ maxLen := by unfold maxLen; omega
          have c2 : ((nl + n) + 1) * 104 ≤ 140737488355328 := by omega
          have hnext : ∀ v' w', w'.ownsRow W.heap.size 26 6 v' ((nl + n) + 1) ((((List.range nl).map (fun (i : Nat) => numV (i : Int))) ++ (List.range n).map (fun (i : Nat) => strV (ks.getD i ⟨#[]⟩))).flatMap keyC ++ [.int .i64 4, .int .i64 0, .string x, .slice none 0 0, .slice none 0 0, .slice none 0 0]) →
              (w2.alloc (.cells #[.int .i64 4, .int .i64 0, .string x, .slice none 0 0, .slice none 0 0, .slice none 0 0] 26)).grownBy w' v.ownBlock → KeyLoop W ((List.range nl).map (fun (i : Nat) => numV (i : Int))) (fun (i : Nat) => strV (ks.getD i ⟨#[]⟩)) ks.length v' (.int .i64 ((n : Int) + 1)) w' := by
            intro v' w' ho hg
            refine ⟨n + 1, v', by omega, rfl, rfl, (hb4.trans (hbn.mono (by omega))).grown hg (by omega) (fun q hq => hob q hq), ?_⟩
            rw [KeyLoop.snoc]
            simp only [hx0]
            exact RowK.push (k := (strV x)) (by rw [hlen]; exact ho)
          have Hnext := Lib.hid hnext
          have hbase : W.heap.size ≤ (w2.alloc (.cells #[.int .i64 4, .int .i64 0, .string x, .slice none 0 0, .slice none 0 0, .slice none 0 0] 26)).heap.size := by omega
          have hx1 : ∀ u ∈ ([.int .i64 4, .int .i64 0, .string x, .slice none 0 0, .slice none 0 0, .slice none 0 0] : List Value), u.oneCell' = true := keyC_one (strV x)
          clear hnext hrow2 hob hbn hlen
          go_wp2_with (at_builtin; go_loud (refine wpList_append_own_at _ rfl (.tmp 26) (.tmp 29) 23 rfl W.heap.size 26 i0 _ 6 104 Tryz.underlying23 hi hz0 hz1 hz2 rfl (by decide) v _ _ rfl hown _ 1 1 _ rfl rfl hnews hx1 c1 c2 hbase ?_; intro v' w5 hown5 hg5 _ hat5; have Hloop := Lib.hid (Hnext.out v' w5 hown5 hg5); obtain ⟨la', lc', rfl⟩ := row_form hown5; clear hown5 hg5 hat5))
          go_roundw
          case rel => exact Hloop.out
          case measure => simp [intOf]; omega
        · have e : n = ks.length := by omega
          have hfin : ((List.range nl).map (fun (i : Nat) => numV (i : Int))) ++ (List.range n).map (fun (i : Nat) => strV (ks.getD i ⟨#[]⟩)) = (List.range nl).map (fun (i : Nat) => numV (i : Int)) ++ ks.map strV := by
            rw [e, getD_range]
          rw [hfin] at hrow
          have Hrow := Lib.hid hrow
          have Hb := Lib.hid (hbW.trans (hb.mono (by omega)))
          have Hm := Lib.hid (show W.heap.size = w.heap.size + 1 from hWs)
          clear hrow hb
          go_wp2_with fail
          go_ret
          exact ⟨_, rfl, Hb.out, Hrow.out.mono (by omega)⟩

end Go.Proofs.YtiphcojcdegnkaaGreatDoor
