/- Contracts of spec.cut (but at strings), spec.Index, spec.GetPath. -/
/- Contract of spec.Index. -/
import Derived.Test.YtiphcojcdegnkaaGreatDoorM09
namespace Go.Proofs.YtiphcojcdegnkaaGreatDoor
open Go Go.RowKit Go.Maps Go.Deep

/-- An answer, in w0's memory below B. -/
def AnsV (w0 : World) (B : Nat) (w : World) (a : Ans) (e : Ending) (w' : World) : Prop :=
  ∃ (k h : Int) (t : ByteArray) (la ka va : Option Addr) (nl cl nk ck nv cv : Nat), e = .returned (.tuple #[.agg #[.int .i64 k, .int .i64 h, .string t, .slice la nl cl, .slice ka nk ck, .slice va nv cv], .int .i64 a.how]) ∧
    (∀ v, a = .fine v → RepV w0 B v [.int .i64 k, .int .i64 h, .string t, .slice la nl cl, .slice ka nk ck, .slice va nv cv]) ∧ Below w.heap.size w w'

/-- What is stored into a result's own box, returned. -/
theorem ansV_set {w0 w w1 : World} {B z : Nat} {a : Ans} {k h : Int} {t : ByteArray} {la ka va : Option Addr} {nl cl nk ck nv cv : Nat} (hb : Below w.heap.size w w1) (hz : w.heap.size ≤ z)
    (hv : ∀ v, a = .fine v → RepV w0 B v [.int .i64 k, .int .i64 h, .string t, .slice la nl cl, .slice ka nk ck, .slice va nv cv]) :
    AnsV w0 B w a (.returned (.tuple #[.agg #[.int .i64 k, .int .i64 h, .string t, .slice la nl cl, .slice ka nk ck, .slice va nv cv], .int .i64 a.how])) ((((((w1.setCell ⟨z, 0, none⟩ (.int .i64 k)).setCell ⟨z, 1, none⟩ (.int .i64 h)).setCell ⟨z, 2, none⟩ (.string t)).setCell ⟨z, 3, none⟩ (.slice la nl cl)).setCell ⟨z, 4, none⟩ (.slice ka nk ck)).setCell ⟨z, 5, none⟩ (.slice va nv cv)) :=
  ⟨_, _, _, _, _, _, _, _, _, _, _, _, rfl, hv, below_set6 hb hz _ _ _ _ _ _⟩
theorem ansV_made {w0 w w1 : World} {B : Nat} {a : Ans} {k h : Int} {t : ByteArray} {la ka va : Option Addr} {nl cl nk ck nv cv : Nat} (hb : Below w.heap.size w w1)
    (hv : ∀ v, a = .fine v → RepV w0 B v [.int .i64 k, .int .i64 h, .string t, .slice la nl cl, .slice ka nk ck, .slice va nv cv]) :
    AnsV w0 B w a (.returned (.tuple #[.agg #[.int .i64 k, .int .i64 h, .string t, .slice la nl cl, .slice ka nk ck, .slice va nv cv], .int .i64 a.how])) w1 :=
  ⟨_, _, _, _, _, _, _, _, _, _, _, _, rfl, hv, hb⟩

/-- A part of a list is a list. -/
theorem RepV.part {w : World} {B : Nat} {k h : Int} {t : ByteArray} {l : List V} {ks : List ByteArray} {vs : List V} {b o lc : Nat} {c0 c1 c2 c4 c5 : Value} {n : Nat} (hv : RepV w B (.mk k h t l ks vs) [c0, c1, c2, .slice (some ⟨b, o, none⟩) n lc, c4, c5]) (i j : Nat) (hij : i ≤ j) (hj : j ≤ l.length) (q : Nat) (hq : 0 < j - i → q = o + i * 6) (c' : Nat) (hc' : j - i ≤ c') :
    RepV w B (.mk 5 0 ⟨#[]⟩ ((l.drop i).take (j - i)) [] []) [.int .i64 5, .int .i64 0, .string ⟨#[]⟩, .slice (some ⟨b, q, none⟩) (j - i) c', .slice none 0 0, .slice none 0 0] := by
  cases hv with
  | mk C D hk hh ht hl hks hvs hs cl rl ck cv rv hlc =>
    have hlen : ((l.drop i).take (j - i)).length = j - i := by rw [List.length_take, List.length_drop]; exact Nat.min_eq_left (by clear cl rl ck cv rv; omega)
    have hl2 : (j - i) * 104 ≤ 140737488351232 := by clear cl rl ck cv rv; omega
    have hpos : 0 < j - i → 0 < l.length := fun h0 => by clear cl rl ck cv rv; omega
    have hidx : ∀ m, m < j - i → i + m < l.length := fun m hm => by clear cl rl ck cv rv; omega
    have hoff : ∀ m, o + i * 6 + m * 6 = o + (i + m) * 6 := fun m => by clear cl rl ck cv rv; omega
    have := RepV.mk (w := w) (B := B) (l := (l.drop i).take (j - i)) (ks := []) (vs := []) (la := some ⟨b, q, none⟩) (lc := c') (ka := none) (va := none) (kc := 0) (vc := 0) (t := ⟨#[]⟩) (k := 5) (h := 0) (fun m => C (i + m)) (fun _ => []) (by decide) (by decide) (Nat.zero_le _) (by rw [hlen]; exact hl2) (by simp) (by simp) (fun s hs => by simp at hs)
      (fun h0 => by
        rw [hlen] at h0
        obtain ⟨b', o', e, hb, hc⟩ := cl (hpos h0)
        cases e
        refine ⟨b, q, rfl, hb, fun m hm => ?_⟩
        rw [hlen] at hm
        have := hc (i + m) (hidx m hm)
        rw [hq h0, hoff]
        exact this)
      (fun m hm => by
        have hm' : m < j - i := by rw [← hlen]; exact hm
        have e : ((l.drop i).take (j - i))[m] = l[i + m]'(hidx m hm') := by simp
        rw [e]
        exact rl (i + m) (hidx m hm'))
      (fun h => by simp at h) (fun h => by simp at h) (fun i hi => by simp at hi) (by rw [hlen]; exact hc')
    rw [hlen] at this
    exact this

theorem rep_nil (w : World) (B : Nat) (la : Option Addr) : RepV w B (.mk 5 0 ⟨#[]⟩ [] [] []) [.int .i64 5, .int .i64 0, .string ⟨#[]⟩, .slice la 0 0, .slice none 0 0, .slice none 0 0] :=
  .mk (l := []) (ks := []) (vs := []) (fun _ => []) (fun _ => []) (by omega) (by omega) (Nat.zero_le _) (by simp) (by simp) (by simp) (fun s hs => by simp at hs) (fun h => by simp at h) (fun i hi => by simp at hi)
    (fun h => by simp at h) (fun h => by simp at h) (fun i hi => by simp at hi) (Nat.le_refl 0)

def cut0 : Cut → Ans
  | .fine _ _ => .fine nullV
  | _ => .silent
def cutL (l : List V) : Cut → Ans
  | .fine a b => .fine (.mk 5 0 ⟨#[]⟩ ((l.drop a).take (b - a)) [] [])
  | .raises => .raises
  | .silent => .silent

set_option maxHeartbeats 4000000 in
set_option maxRecDepth 100000 in
theorem cut_any (w0 : World) (B : Nat) (v x : V) (cs cx : List Value) (hv : RepV w0 B v cs) (hx : RepV w0 B x cx) (hlen : x.keys.length = x.vals.length) (h4 : v.kind ≠ 4) (h7 : v.kind ≠ 7)
    (w : World) (hbel : Below B w0 w) (hB : B ≤ w.heap.size) : Calls Tryz.prog 24 #[.agg cs.toArray, .agg cx.toArray] w (AnsV w0 B w (cutA v x)) := by
  have BN := Lib.hid fun n hn w1 h1 h2 => bounds_any w0 B x cx hx hlen n hn w1 h1 h2
  clear hlen
  obtain ⟨k', h', t', la', ka', va', nl', cl', nk', ck', nv', cv', rfl⟩ := hx.shape
  cases hv with
  | @mk k h t l ks vs la ka va lc kc vc C D hk hh ht hl hks hvs hs cl rl ck cv rv hlc =>
  have hv : RepV w0 B (.mk k h t l ks vs) [.int .i64 k, .int .i64 h, .string t, .slice la l.length lc, .slice ka ks.length kc, .slice va vs.length vc] := .mk C D hk hh ht hl hks hvs hs cl rl ck cv rv hlc
  simp only [V.kind] at h4 h7
  obtain ⟨hbW, hsW, hx1, hx2⟩ := at_alloc3 w (.cells #[.int .i64 k, .int .i64 h, .string t, .slice la l.length lc, .slice ka ks.length kc, .slice va vs.length vc] 26)
    (.cells #[.int .i64 k', .int .i64 h', .string t', .slice la' nl' cl', .slice ka' nk' ck', .slice va' nv' cv'] 26)
    (.cells #[.int .i64 0, .int .i64 0, .string ⟨#[]⟩, .slice none 0 0, .slice none 0 0, .slice none 0 0] 26)
  have hx0 := at_alloc30 w (.cells #[.int .i64 k, .int .i64 h, .string t, .slice la l.length lc, .slice ka ks.length kc, .slice va vs.length vc] 26)
    (.cells #[.int .i64 k', .int .i64 h', .string t', .slice la' nl' cl', .slice ka' nk' ck', .slice va' nv' cv'] 26)
    (.cells #[.int .i64 0, .int .i64 0, .string ⟨#[]⟩, .slice none 0 0, .slice none 0 0, .slice none 0 0] 26)
  have rn := rep_null w0 B
  have key : ∀ w1, Below (((w.alloc (.cells #[.int .i64 k, .int .i64 h, .string t, .slice la l.length lc, .slice ka ks.length kc, .slice va vs.length vc] 26)).alloc (.cells #[.int .i64 k', .int .i64 h', .string t', .slice la' nl' cl', .slice ka' nk' ck', .slice va' nv' cv'] 26)).alloc
    (.cells #[.int .i64 0, .int .i64 0, .string ⟨#[]⟩, .slice none 0 0, .slice none 0 0, .slice none 0 0] 26)).heap.size (((w.alloc (.cells #[.int .i64 k, .int .i64 h, .string t, .slice la l.length lc, .slice ka ks.length kc, .slice va vs.length vc] 26)).alloc (.cells #[.int .i64 k', .int .i64 h', .string t', .slice la' nl' cl', .slice ka' nk' ck', .slice va' nv' cv'] 26)).alloc
    (.cells #[.int .i64 0, .int .i64 0, .string ⟨#[]⟩, .slice none 0 0, .slice none 0 0, .slice none 0 0] 26)) w1 →
      Below w.heap.size w w1 ∧ w1.heap[w.heap.size]? = some (.cells #[.int .i64 k, .int .i64 h, .string t, .slice la l.length lc, .slice ka ks.length kc, .slice va vs.length vc] 26) ∧ w1.heap[w.heap.size + 1 + 1]? = some (.cells #[.int .i64 0, .int .i64 0, .string ⟨#[]⟩, .slice none 0 0, .slice none 0 0, .slice none 0 0] 26) :=
    fun w1 hw1 => ⟨hbW.trans (hw1.mono (by omega)), (hw1.block w.heap.size (by omega)).trans hx0, (hw1.block (w.heap.size + 1 + 1) (by omega)).trans hx2⟩
  have Hkey := Lib.hid key; clear key
  have HbW := Lib.hid (hbel.trans (hbW.mono hB))
  have HsW := Lib.hid hsW
  have Hbw := Lib.hid hbW
  have Hx2 := Lib.hid hx2
  clear hx0 hx1 hx2 hbW hsW hbel hx hk hh ht hks hvs hs rl ck cv rv
  by_cases k0 : k = 0
  · have he : cutA (.mk k h t l ks vs) x = cut0 (boundsA x.keys x.vals 0) := by
      unfold cutA
      rw [if_pos (by exact k0)]
      rfl
    rw [he]
    clear he
    have BN0 := Lib.hid (BN.out 0 (by omega))
    generalize boundsA x.keys x.vals 0 = c at *
    subst k0
    clear hv cl h4 h7 hlc hl
    go_enter Tryz.func24, Tryz.ntmps24
    go_wp2_with fail
    refine (BN0.out _ HbW.out (by rw [HsW.out]; omega)).mono ?_
    rintro e w1 ⟨rfl, hw1⟩
    obtain ⟨hb1, y0, y2⟩ := Hkey.out _ hw1
    clear hw1
    cases c with
    | fine a b =>
      simp only [Cut.how, Cut.lo, Cut.hi]
      have Hset := Lib.hid (set_row6 y2 (.int .i64 0) (.int .i64 0) (.string ⟨#[]⟩) (.slice none 0 0) (.slice none 0 0) (.slice none 0 0))
      have Hans := Lib.hid (ansV_set (a := (.fine nullV)) (w0 := w0) (B := B) (z := w.heap.size + 1 + 1) (k := 0) (h := 0) (t := ⟨#[]⟩) (la := none) (ka := none) (va := none) (nl := 0) (cl := 0) (nk := 0) (ck := 0) (nv := 0) (cv := 0) hb1 (by omega) (fun v e => by cases e; exact rn))
      obtain ⟨f0, f1, f2, f3, f4, f5⟩ := free_block6 y2
      obtain ⟨g0, g1, g2, g3, g4, g5⟩ := of_block6 y2
      go_wp2_with fail
      exact bodyPost_ret (results_row_tmp (p := 4) (u := 5) (ty := 26) rfl _ _ (w.heap.size + 1 + 1) 26 _ (0, 0) _ rfl Hset.out Tryz.underlying26 rfl (by kernel_rfl)) rfl Hans.out
    | raises =>
      simp only [Cut.how, Cut.lo, Cut.hi]
      have Hset := Lib.hid (set_row6 y2 (.int .i64 0) (.int .i64 0) (.string ⟨#[]⟩) (.slice none 0 0) (.slice none 0 0) (.slice none 0 0))
      have Hans := Lib.hid (ansV_set (a := .silent) (w0 := w0) (B := B) (z := w.heap.size + 1 + 1) (k := 0) (h := 0) (t := ⟨#[]⟩) (la := none) (ka := none) (va := none) (nl := 0) (cl := 0) (nk := 0) (ck := 0) (nv := 0) (cv := 0) hb1 (by omega) (fun v e => by cases e))
      obtain ⟨f0, f1, f2, f3, f4, f5⟩ := free_block6 y2
      obtain ⟨g0, g1, g2, g3, g4, g5⟩ := of_block6 y2
      go_wp2_with fail
      exact bodyPost_ret (results_row_tmp (p := 4) (u := 5) (ty := 26) rfl _ _ (w.heap.size + 1 + 1) 26 _ (0, 0) _ rfl Hset.out Tryz.underlying26 rfl (by kernel_rfl)) rfl Hans.out
    | silent =>
      simp only [Cut.how, Cut.lo, Cut.hi]
      have Hset := Lib.hid (set_row6 y2 (.int .i64 0) (.int .i64 0) (.string ⟨#[]⟩) (.slice none 0 0) (.slice none 0 0) (.slice none 0 0))
      have Hans := Lib.hid (ansV_set (a := .silent) (w0 := w0) (B := B) (z := w.heap.size + 1 + 1) (k := 0) (h := 0) (t := ⟨#[]⟩) (la := none) (ka := none) (va := none) (nl := 0) (cl := 0) (nk := 0) (ck := 0) (nv := 0) (cv := 0) hb1 (by omega) (fun v e => by cases e))
      obtain ⟨f0, f1, f2, f3, f4, f5⟩ := free_block6 y2
      obtain ⟨g0, g1, g2, g3, g4, g5⟩ := of_block6 y2
      go_wp2_with fail
      exact bodyPost_ret (results_row_tmp (p := 4) (u := 5) (ty := 26) rfl _ _ (w.heap.size + 1 + 1) 26 _ (0, 0) _ rfl Hset.out Tryz.underlying26 rfl (by kernel_rfl)) rfl Hans.out
  by_cases k5 : k = 5
  · have he : cutA (.mk k h t l ks vs) x = cutL l (boundsA x.keys x.vals l.length) := by
      unfold cutA
      rw [if_neg (by exact k0), if_pos (by exact k5)]
      rfl
    rw [he]
    clear he
    have BNl := Lib.hid (BN.out l.length (by omega))
    have Hle := Lib.hid fun a b (e : boundsA x.keys x.vals l.length = .fine a b) => boundsA_le e
    generalize boundsA x.keys x.vals l.length = c at *
    subst k5
    clear h4 h7 k0 
    have Hv := Lib.hid hv
    have Hcl := Lib.hid cl
    clear hv cl
    go_enter Tryz.func24, Tryz.ntmps24
    go_wp2_with fail
    refine (BNl.out _ HbW.out (by rw [HsW.out]; omega)).mono ?_
    rintro e w1 ⟨rfl, hw1⟩
    obtain ⟨hb1, y0, y2⟩ := Hkey.out _ hw1
    clear hw1
    cases c with
    | fine a b =>
      simp only [Cut.how, Cut.lo, Cut.hi]
      obtain ⟨hab, hbl⟩ := Hle.out a b rfl
      obtain ⟨e0, e1, e2, e3, e4, e5⟩ := of_block6 y0
      by_cases hab2 : a = b
      · subst hab2
        have Hrep := Lib.hid (show RepV w0 B (.mk 5 0 ⟨#[]⟩ ((l.drop a).take (a - a)) [] []) [.int .i64 5, .int .i64 0, .string ⟨#[]⟩, .slice la 0 0, .slice none 0 0, .slice none 0 0] by rw [Nat.sub_self, List.take_zero]; exact rep_nil w0 B la)
        have u1 : (0 : Int) ≤ (a : Int) := by omega
        have u3 : (a : Int) ≤ (lc : Int) := by omega
        clear hab hbl
        go_wp2_with fail
        refine (array_any _ _ _ _).mono ?_
        rintro e w2 ⟨rfl, hw2⟩
        have hs1 := hb1.size
        have hlt2 : w.heap.size + 1 + 1 < w1.heap.size := by
          rcases Nat.lt_or_ge (w.heap.size + 1 + 1) w1.heap.size with h | h
          · exact h
          · rw [Array.getElem?_eq_none h] at y2
            cases y2
        have hb2 : Below w.heap.size w w2 := hb1.trans (hw2.mono hs1)
        have y3 := (hw2.block (w.heap.size + 1 + 1) hlt2).trans y2
        have Hset := Lib.hid (set_row6 y3 (.int .i64 5) (.int .i64 0) (.string ⟨#[]⟩) (.slice la 0 0) (.slice none 0 0) (.slice none 0 0))
        have Hans := Lib.hid (ansV_set (a := .fine (.mk 5 0 ⟨#[]⟩ ((l.drop a).take (a - a)) [] [])) (w0 := w0) (B := B) (z := w.heap.size + 1 + 1) (k := 5) (h := 0) (t := ⟨#[]⟩) (la := la) (ka := none) (va := none) (nl := 0) (cl := 0) (nk := 0) (ck := 0) (nv := 0) (cv := 0) hb2 (by omega) (fun v e => by cases e; exact Hrep.out))
        obtain ⟨f0, f1, f2, f3, f4, f5⟩ := free_block6 y3
        obtain ⟨g0, g1, g2, g3, g4, g5⟩ := of_block6 y3
        go_wp2_with fail
        exact bodyPost_ret (results_row_tmp (p := 4) (u := 5) (ty := 26) rfl _ _ (w.heap.size + 1 + 1) 26 _ (0, 0) _ rfl Hset.out Tryz.underlying26 rfl (by kernel_rfl)) rfl Hans.out
      · obtain ⟨lb, lo, rfl, hlb, hcel⟩ := Hcl.out (by omega)
        have Hrep := Lib.hid (Hv.out.part a b hab hbl (lo + a * 6) (fun _ => rfl) (b - a) (Nat.le_refl _))
        have u1 : (0 : Int) ≤ (a : Int) := by omega
        have u2 : (a : Int) ≤ (b : Int) := by omega
        have u3 : (b : Int) ≤ (lc : Int) := by omega
        have u4 : ¬ (a = b) := hab2
        have u5 : (⟨lb, lo, none⟩ : Addr).add (a * 6) = ⟨lb, lo + a * 6, none⟩ := by unfold Addr.add; split <;> simp_all
        clear hab hbl hab2 hcel
        go_wp2_with fail
        refine (array_any _ _ _ _).mono ?_
        rintro e w2 ⟨rfl, hw2⟩
        have hs1 := hb1.size
        have hlt2 : w.heap.size + 1 + 1 < w1.heap.size := by
          rcases Nat.lt_or_ge (w.heap.size + 1 + 1) w1.heap.size with h | h
          · exact h
          · rw [Array.getElem?_eq_none h] at y2
            cases y2
        have hb2 : Below w.heap.size w w2 := hb1.trans (hw2.mono hs1)
        have y3 := (hw2.block (w.heap.size + 1 + 1) hlt2).trans y2
        have Hset := Lib.hid (set_row6 y3 (.int .i64 5) (.int .i64 0) (.string ⟨#[]⟩) (.slice (some ⟨lb, lo + a * 6, none⟩) (b - a) (b - a)) (.slice none 0 0) (.slice none 0 0))
        have Hans := Lib.hid (ansV_set (a := .fine (.mk 5 0 ⟨#[]⟩ ((l.drop a).take (b - a)) [] [])) (w0 := w0) (B := B) (z := w.heap.size + 1 + 1) (k := 5) (h := 0) (t := ⟨#[]⟩) (la := (some ⟨lb, lo + a * 6, none⟩)) (ka := none) (va := none) (nl := (b - a)) (cl := (b - a)) (nk := 0) (ck := 0) (nv := 0) (cv := 0) hb2 (by omega) (fun v e => by cases e; exact Hrep.out))
        obtain ⟨f0, f1, f2, f3, f4, f5⟩ := free_block6 y3
        obtain ⟨g0, g1, g2, g3, g4, g5⟩ := of_block6 y3
        go_wp2_with fail
        exact bodyPost_ret (results_row_tmp (p := 4) (u := 5) (ty := 26) rfl _ _ (w.heap.size + 1 + 1) 26 _ (0, 0) _ rfl Hset.out Tryz.underlying26 rfl (by kernel_rfl)) rfl Hans.out
    | raises =>
      simp only [Cut.how, Cut.lo, Cut.hi]
      have Hset := Lib.hid (set_row6 y2 (.int .i64 0) (.int .i64 0) (.string ⟨#[]⟩) (.slice none 0 0) (.slice none 0 0) (.slice none 0 0))
      have Hans := Lib.hid (ansV_set (a := .raises) (w0 := w0) (B := B) (z := w.heap.size + 1 + 1) (k := 0) (h := 0) (t := ⟨#[]⟩) (la := none) (ka := none) (va := none) (nl := 0) (cl := 0) (nk := 0) (ck := 0) (nv := 0) (cv := 0) hb1 (by omega) (fun v e => by cases e))
      obtain ⟨f0, f1, f2, f3, f4, f5⟩ := free_block6 y2
      obtain ⟨g0, g1, g2, g3, g4, g5⟩ := of_block6 y2
      go_wp2_with fail
      exact bodyPost_ret (results_row_tmp (p := 4) (u := 5) (ty := 26) rfl _ _ (w.heap.size + 1 + 1) 26 _ (0, 0) _ rfl Hset.out Tryz.underlying26 rfl (by kernel_rfl)) rfl Hans.out
    | silent =>
      simp only [Cut.how, Cut.lo, Cut.hi]
      have Hset := Lib.hid (set_row6 y2 (.int .i64 0) (.int .i64 0) (.string ⟨#[]⟩) (.slice none 0 0) (.slice none 0 0) (.slice none 0 0))
      have Hans := Lib.hid (ansV_set (a := .silent) (w0 := w0) (B := B) (z := w.heap.size + 1 + 1) (k := 0) (h := 0) (t := ⟨#[]⟩) (la := none) (ka := none) (va := none) (nl := 0) (cl := 0) (nk := 0) (ck := 0) (nv := 0) (cv := 0) hb1 (by omega) (fun v e => by cases e))
      obtain ⟨f0, f1, f2, f3, f4, f5⟩ := free_block6 y2
      obtain ⟨g0, g1, g2, g3, g4, g5⟩ := of_block6 y2
      go_wp2_with fail
      exact bodyPost_ret (results_row_tmp (p := 4) (u := 5) (ty := 26) rfl _ _ (w.heap.size + 1 + 1) 26 _ (0, 0) _ rfl Hset.out Tryz.underlying26 rfl (by kernel_rfl)) rfl Hans.out
  have t0 : (k == 0) = false := by simpa using k0
  have t5 : (k == 5) = false := by simpa using k5
  have t4 : (k == 4) = false := by simpa using h4
  have t7 : (k == 7) = false := by simpa using h7
  by_cases k6 : k = 6
  · have he : cutA (.mk k h t l ks vs) x = .silent := by
      unfold cutA
      rw [if_neg (by exact k0), if_neg (by exact k5), if_pos (by exact k6)]
    rw [he]
    have Hans := Lib.hid (ansV_made (a := .silent) (w0 := w0) (B := B) (k := 0) (h := 0) (t := ⟨#[]⟩) (la := none) (ka := none) (va := none) (nl := 0) (cl := 0) (nk := 0) (ck := 0) (nv := 0) (cv := 0) Hbw.out (fun v e => by cases e))
    subst k6
    clear k0 k5 h4 h7 hv cl hlc hl he t0 t5 t4 t7
    go_enter Tryz.func24, Tryz.ntmps24
    go_wp2_with fail
    exact bodyPost_ret (results_row_tmp (p := 4) (u := 5) (ty := 26) rfl _ _ (w.heap.size + 1 + 1) 26 _ (0, 0) _ rfl (at_alloc3 _ _ _ _).2.2.2 Tryz.underlying26 rfl (by kernel_rfl)) rfl Hans.out
  · have he : cutA (.mk k h t l ks vs) x = .raises := by
      unfold cutA
      rw [if_neg (by exact k0), if_neg (by exact k5), if_neg (by exact k6)]
    rw [he]
    have Hans := Lib.hid (ansV_made (a := .raises) (w0 := w0) (B := B) (k := 0) (h := 0) (t := ⟨#[]⟩) (la := none) (ka := none) (va := none) (nl := 0) (cl := 0) (nk := 0) (ck := 0) (nv := 0) (cv := 0) Hbw.out (fun v e => by cases e))
    have t6 : (k == 6) = false := by simpa using k6
    clear k0 k5 k6 h4 h7 hv cl hlc hl he
    go_enter Tryz.func24, Tryz.ntmps24
    go_wp2_with fail
    exact bodyPost_ret (results_row_tmp (p := 4) (u := 5) (ty := 26) rfl _ _ (w.heap.size + 1 + 1) 26 _ (0, 0) _ rfl (at_alloc3 _ _ _ _).2.2.2 Tryz.underlying26 rfl (by kernel_rfl)) rfl Hans.out

end Go.Proofs.YtiphcojcdegnkaaGreatDoor

namespace Go.Proofs.YtiphcojcdegnkaaGreatDoor
open Go Go.RowKit Go.Maps Go.Deep

theorem indexA_mk (k h : Int) (t : ByteArray) (l : List V) (ks : List ByteArray) (vs : List V) (k' h' : Int) (t' : ByteArray) (l' : List V) (ks' : List ByteArray) (vs' : List V) :
    indexA (.mk k h t l ks vs) (.mk k' h' t' l' ks' vs') = if k' = 6 then cutA (.mk k h t l ks vs) (.mk k' h' t' l' ks' vs') else if k = 0 ∧ (k' = 4 ∨ k' = 3) then .fine nullV else if k = 6 ∧ k' = 4 then .fine (getV ks vs t')
      else if k = 5 ∧ k' = 3 then (if h'.tmod 2 ≠ 0 then .silent else .fine (nthA l h')) else if (k = 4 ∧ k' = 3) ∨ (k = 5 ∧ k' = 5) ∨ k = 0 then .silent else .raises := rfl
theorem nth_low {l : List V} {h : Int} (c : (if h.tdiv 2 < 0 then h.tdiv 2 + l.length else h.tdiv 2) < 0) : nthA l h = nullV := by
  unfold nthA; simp only; rw [if_pos c]
theorem nth_high {l : List V} {h : Int} (c : (l.length : Int) ≤ (if h.tdiv 2 < 0 then h.tdiv 2 + l.length else h.tdiv 2)) : nthA l h = nullV := by
  unfold nthA; simp only; rw [if_neg (by omega), List.getD_eq_getElem?_getD, List.getElem?_eq_none (by omega)]; rfl
theorem nth_at {l : List V} {h : Int} {n : Nat} (c : (if h.tdiv 2 < 0 then h.tdiv 2 + l.length else h.tdiv 2) = (n : Int)) (hn : n < l.length) : nthA l h = l[n] := by
  unfold nthA; simp only; rw [c, if_neg (by omega), Int.toNat_natCast, getD_of_lt hn]

set_option maxHeartbeats 4000000 in
set_option maxRecDepth 100000 in
theorem index_any (w0 : World) (B : Nat) (v x : V) (cs cx : List Value) (hv : RepV w0 B v cs) (hx : RepV w0 B x cx) (hlv : v.keys.length = v.vals.length) (hlx : x.keys.length = x.vals.length) (h7 : v.kind ≠ 7) (h7' : x.kind ≠ 7) (h46 : ¬ (v.kind = 4 ∧ x.kind = 6))
    (w : World) (hbel : Below B w0 w) (hB : B ≤ w.heap.size) : Calls Tryz.prog 16 #[.agg cs.toArray, .agg cx.toArray] w (AnsV w0 B w (indexA v x)) := by
  have CU := Lib.hid fun (h4 : v.kind ≠ 4) w1 h1 h2 => cut_any w0 B v x cs cx hv hx hlx h4 h7 w1 h1 h2
  have GT := Lib.hid fun q w1 h1 h2 => get_any w0 B v cs hv hlv q w1 h1 h2
  have Hh' : Hid (-9223372036854775808 ≤ x.half ∧ x.half ≤ 9223372036854775807) := Lib.hid (by cases hx; assumption)
  obtain ⟨kx, hfx, t', lx, ksx, vsx⟩ := x
  cases hv with
  | @mk k h t l ks vs la ka va lc kc vc C D hk hh ht hl hks hvs hs cl rl ck cv rv hlc =>
  have hxs : ∃ (la ka va : Option Addr) (nl cl nk ck nv cv : Nat), cx = [.int .i64 kx, .int .i64 hfx, .string t', .slice la nl cl, .slice ka nk ck, .slice va nv cv] := by
    cases hx
    exact ⟨_, _, _, _, _, _, _, _, _, rfl⟩
  obtain ⟨la', ka', va', nl', cl', nk', ck', nv', cv', rfl⟩ := hxs
  rw [indexA_mk]
  simp only [V.kind, V.keys, V.vals, V.half] at h7 h7' h46 CU GT Hh'
  generalize kx = k' at *
  generalize hfx = h' at *
  have Hcl := Lib.hid cl
  have Hrl := Lib.hid rl
  obtain ⟨hbW, hsW, hx1, hx2⟩ := at_alloc3 w (.cells #[.int .i64 k, .int .i64 h, .string t, .slice la l.length lc, .slice ka ks.length kc, .slice va vs.length vc] 26)
    (.cells #[.int .i64 k', .int .i64 h', .string t', .slice la' nl' cl', .slice ka' nk' ck', .slice va' nv' cv'] 26)
    (.cells #[.int .i64 0, .int .i64 0, .string ⟨#[]⟩, .slice none 0 0, .slice none 0 0, .slice none 0 0] 26)
  have hx0 := at_alloc30 w (.cells #[.int .i64 k, .int .i64 h, .string t, .slice la l.length lc, .slice ka ks.length kc, .slice va vs.length vc] 26)
    (.cells #[.int .i64 k', .int .i64 h', .string t', .slice la' nl' cl', .slice ka' nk' ck', .slice va' nv' cv'] 26)
    (.cells #[.int .i64 0, .int .i64 0, .string ⟨#[]⟩, .slice none 0 0, .slice none 0 0, .slice none 0 0] 26)
  have rn := rep_null w0 B
  have Hkey := Lib.hid fun w1 (hw1 : Below (((w.alloc (.cells #[.int .i64 k, .int .i64 h, .string t, .slice la l.length lc, .slice ka ks.length kc, .slice va vs.length vc] 26)).alloc (.cells #[.int .i64 k', .int .i64 h', .string t', .slice la' nl' cl', .slice ka' nk' ck', .slice va' nv' cv'] 26)).alloc (.cells #[.int .i64 0, .int .i64 0, .string ⟨#[]⟩, .slice none 0 0, .slice none 0 0, .slice none 0 0] 26)).heap.size (((w.alloc (.cells #[.int .i64 k, .int .i64 h, .string t, .slice la l.length lc, .slice ka ks.length kc, .slice va vs.length vc] 26)).alloc (.cells #[.int .i64 k', .int .i64 h', .string t', .slice la' nl' cl', .slice ka' nk' ck', .slice va' nv' cv'] 26)).alloc (.cells #[.int .i64 0, .int .i64 0, .string ⟨#[]⟩, .slice none 0 0, .slice none 0 0, .slice none 0 0] 26)) w1) => (⟨hbW.trans (hw1.mono (by omega)), (hw1.block w.heap.size (by omega)).trans hx0, (hw1.block (w.heap.size + 1) (by omega)).trans hx1, (hw1.block (w.heap.size + 1 + 1) (by omega)).trans hx2⟩ :
    Below w.heap.size w w1 ∧ w1.heap[w.heap.size]? = some (.cells #[.int .i64 k, .int .i64 h, .string t, .slice la l.length lc, .slice ka ks.length kc, .slice va vs.length vc] 26) ∧ w1.heap[w.heap.size + 1]? = some (.cells #[.int .i64 k', .int .i64 h', .string t', .slice la' nl' cl', .slice ka' nk' ck', .slice va' nv' cv'] 26) ∧ w1.heap[w.heap.size + 1 + 1]? = some (.cells #[.int .i64 0, .int .i64 0, .string ⟨#[]⟩, .slice none 0 0, .slice none 0 0, .slice none 0 0] 26))
  have HbW := Lib.hid (hbel.trans (hbW.mono hB))
  have HsW := Lib.hid hsW
  have Hbw := Lib.hid hbW
  have t7 : (k == 7) = false := by simpa using h7
  have t7' : (k' == 7) = false := by simpa using h7'
  clear hx0 hx1 hx2 hbW hsW hx hk hh ht hks hvs hs ck cv rv cl rl hlv hlx h7 h7'
  by_cases q6 : k' = 6
  · rw [if_pos q6]
    have CU2 := Lib.hid (CU.out (fun h4 => h46 ⟨h4, q6⟩))
    generalize cutA _ _ = an at *
    subst q6
    clear CU GT Hcl Hrl t7' h46
    go_enter Tryz.func16, Tryz.ntmps16
    go_wp2_with fail
    refine (CU2.out _ HbW.out (by rw [HsW.out]; omega)).mono ?_
    rintro e w1 ⟨k9, h9, t9, la9, ka9, va9, nl9, cl9, nk9, ck9, nv9, cv9, rfl, hP, hw1⟩
    obtain ⟨hb1, y0, y1, y2⟩ := Hkey.out _ hw1
    clear hw1 y0 y1
    have Hset := Lib.hid fun (_ : True) => (set_row6 y2 (.int .i64 k9) (.int .i64 h9) (.string t9) (.slice la9 nl9 cl9) (.slice ka9 nk9 ck9) (.slice va9 nv9 cv9))
    have Hans := Lib.hid (ansV_set (a := an) (w0 := w0) (B := B) (z := w.heap.size + 1 + 1) (k := k9) (h := h9) (t := t9) (la := la9) (ka := ka9) (va := va9) (nl := nl9) (cl := cl9) (nk := nk9) (ck := ck9) (nv := nv9) (cv := cv9) hb1 (by omega) hP)
    obtain ⟨f0, f1, f2, f3, f4, f5⟩ := free_block6 y2
    obtain ⟨g0, g1, g2, g3, g4, g5⟩ := of_block6 y2
    clear hP CU2
    generalize an.how = how at *
    go_wp2_with fail
    exact bodyPost_ret (results_row_tmp (p := 4) (u := 5) (ty := 26) rfl _ _ (w.heap.size + 1 + 1) 26 _ (0, 0) _ rfl (Hset.out trivial) Tryz.underlying26 rfl (by kernel_rfl)) rfl Hans.out
  rw [if_neg q6]
  have t6' : (k' == 6) = false := by simpa using q6
  clear q6 h46 CU
  by_cases k0 : k = 0
  · subst k0
    by_cases q4 : k' = 4
    · rw [if_pos ⟨rfl, .inl q4⟩]
      subst q4
      clear t7 t7' t6'
      have Hans := Lib.hid (ansV_made (a := (.fine nullV)) (w0 := w0) (B := B) (k := 0) (h := 0) (t := ⟨#[]⟩) (la := none) (ka := none) (va := none) (nl := 0) (cl := 0) (nk := 0) (ck := 0) (nv := 0) (cv := 0) Hbw.out (fun v e => by cases e; exact rn))
      clear GT Hcl Hrl Hkey HbW HsW Hbw
      go_enter Tryz.func16, Tryz.ntmps16
      go_wp2_with fail
      exact bodyPost_ret (results_row_tmp (p := 4) (u := 5) (ty := 26) rfl _ _ (w.heap.size + 1 + 1) 26 _ (0, 0) _ rfl (at_alloc3 _ _ _ _).2.2.2 Tryz.underlying26 rfl (by kernel_rfl)) rfl Hans.out
    have t4' : (k' == 4) = false := by simpa using q4
    by_cases q3 : k' = 3
    · rw [if_pos ⟨rfl, .inr q3⟩]
      subst q3
      clear t7 t7' t6' t4' q4
      have Hans := Lib.hid (ansV_made (a := (.fine nullV)) (w0 := w0) (B := B) (k := 0) (h := 0) (t := ⟨#[]⟩) (la := none) (ka := none) (va := none) (nl := 0) (cl := 0) (nk := 0) (ck := 0) (nv := 0) (cv := 0) Hbw.out (fun v e => by cases e; exact rn))
      clear GT Hcl Hrl Hkey HbW HsW Hbw
      go_enter Tryz.func16, Tryz.ntmps16
      go_wp2_with fail
      exact bodyPost_ret (results_row_tmp (p := 4) (u := 5) (ty := 26) rfl _ _ (w.heap.size + 1 + 1) 26 _ (0, 0) _ rfl (at_alloc3 _ _ _ _).2.2.2 Tryz.underlying26 rfl (by kernel_rfl)) rfl Hans.out
    have t3' : (k' == 3) = false := by simpa using q3
    rw [if_neg (by simp [q4, q3]), if_neg (by simp), if_neg (by simp), if_pos (.inr (.inr rfl))]
    clear q3 q4 t7
    have Hans := Lib.hid (ansV_made (a := .silent) (w0 := w0) (B := B) (k := 0) (h := 0) (t := ⟨#[]⟩) (la := none) (ka := none) (va := none) (nl := 0) (cl := 0) (nk := 0) (ck := 0) (nv := 0) (cv := 0) Hbw.out (fun v e => by cases e))
    clear GT Hcl Hrl Hkey HbW HsW Hbw
    go_enter Tryz.func16, Tryz.ntmps16
    go_wp2_with fail
    exact bodyPost_ret (results_row_tmp (p := 4) (u := 5) (ty := 26) rfl _ _ (w.heap.size + 1 + 1) 26 _ (0, 0) _ rfl (at_alloc3 _ _ _ _).2.2.2 Tryz.underlying26 rfl (by kernel_rfl)) rfl Hans.out
  rw [if_neg (fun e => k0 e.1)]
  have t0 : (k == 0) = false := by simpa using k0
  by_cases k6 : k = 6
  · subst k6
    clear t7 t0 k0
    by_cases q4 : k' = 4
    · rw [if_pos ⟨rfl, q4⟩]
      subst q4
      clear t7' t6' Hcl Hrl
      have GT2 := Lib.hid (GT.out t')
      generalize getV ks vs t' = g at *
      go_enter Tryz.func16, Tryz.ntmps16
      go_wp2_with fail
      refine (GT2.out _ HbW.out (by rw [HsW.out]; omega)).mono ?_
      rintro e w1 ⟨k9, h9, t9, la9, ka9, va9, nl9, cl9, nk9, ck9, nv9, cv9, rfl, hP, hw1⟩
      obtain ⟨hb1, y0, y1, y2⟩ := Hkey.out _ hw1
      clear hw1 y0 y1
      have Hset := Lib.hid fun (_ : True) => (set_row6 y2 (.int .i64 k9) (.int .i64 h9) (.string t9) (.slice la9 nl9 cl9) (.slice ka9 nk9 ck9) (.slice va9 nv9 cv9))
      have Hans := Lib.hid (ansV_set (a := (.fine g)) (w0 := w0) (B := B) (z := w.heap.size + 1 + 1) (k := k9) (h := h9) (t := t9) (la := la9) (ka := ka9) (va := va9) (nl := nl9) (cl := cl9) (nk := nk9) (ck := ck9) (nv := nv9) (cv := cv9) hb1 (by omega) (fun v e => by cases e; exact hP))
      obtain ⟨f0, f1, f2, f3, f4, f5⟩ := free_block6 y2
      obtain ⟨g0, g1, g2, g3, g4, g5⟩ := of_block6 y2
      clear GT GT2
      go_wp2_with fail
      exact bodyPost_ret (results_row_tmp (p := 4) (u := 5) (ty := 26) rfl _ _ (w.heap.size + 1 + 1) 26 _ (0, 0) _ rfl (Hset.out trivial) Tryz.underlying26 rfl (by kernel_rfl)) rfl Hans.out
    have t4' : (k' == 4) = false := by simpa using q4
    rw [if_neg (fun e => q4 e.2), if_neg (by simp), if_neg (by simp)]
    clear q4
    have Hans := Lib.hid (ansV_made (a := .raises) (w0 := w0) (B := B) (k := 0) (h := 0) (t := ⟨#[]⟩) (la := none) (ka := none) (va := none) (nl := 0) (cl := 0) (nk := 0) (ck := 0) (nv := 0) (cv := 0) Hbw.out (fun v e => by cases e))
    clear GT Hcl Hrl Hkey HbW HsW Hbw
    go_enter Tryz.func16, Tryz.ntmps16
    go_wp2_with fail
    exact bodyPost_ret (results_row_tmp (p := 4) (u := 5) (ty := 26) rfl _ _ (w.heap.size + 1 + 1) 26 _ (0, 0) _ rfl (at_alloc3 _ _ _ _).2.2.2 Tryz.underlying26 rfl (by kernel_rfl)) rfl Hans.out
  rw [if_neg (fun e => k6 e.1)]
  have t6 : (k == 6) = false := by simpa using k6
  by_cases k5 : k = 5
  · subst k5
    clear t7 t6 t0 k0 k6
    by_cases q3 : k' = 3
    · rw [if_pos ⟨rfl, q3⟩]
      subst q3
      clear t7' t6' GT
      have WH := Lib.hid fun w1 => whole_any 3 h' Hh'.out t' la' ka' va' nl' cl' nk' ck' nv' cv' w1
      by_cases qt : h'.tmod 2 = 0
      · rw [if_neg (by simpa using qt)]
        rw [show wholeI 3 h' = h'.tdiv 2 from if_pos ⟨rfl, qt⟩, show wholeB 3 h' = true from decide_eq_true ⟨rfl, qt⟩] at WH
        have hq := half_le h'
        have hq2 := Hh'.out
        have Hlow := Lib.hid (nth_low (l := l) (h := h'))
        have Hhigh := Lib.hid (nth_high (l := l) (h := h'))
        have Hat := Lib.hid fun n => nth_at (l := l) (h := h') (n := n)
        generalize h'.tdiv 2 = x at *
        generalize nthA l h' = y at *
        clear qt
        go_enter Tryz.func16, Tryz.ntmps16
        go_wp2_with fail
        refine (WH.out _).mono ?_
        rintro e w1 ⟨rfl, hw1⟩
        obtain ⟨hb1, y0, y1, y2⟩ := Hkey.out _ hw1
        clear hw1 y1
        obtain ⟨e0, e1, e2, e3, e4, e5⟩ := of_block6 y0
        by_cases x0 : x < 0
        · skip
          have xw : wrap64 (x + (l.length : Int)) = x + l.length := by unfold wrap64; omega
          by_cases c1 : x + (l.length : Int) < 0
          · have Hy := Lib.hid (Hlow.out (by rw [if_pos x0]; exact c1))
            have Hset := Lib.hid fun (_ : True) => (set_row6 y2 (.int .i64 0) (.int .i64 0) (.string ⟨#[]⟩) (.slice none 0 0) (.slice none 0 0) (.slice none 0 0))
            have Hans := Lib.hid (ansV_set (a := (.fine nullV)) (w0 := w0) (B := B) (z := w.heap.size + 1 + 1) (k := 0) (h := 0) (t := ⟨#[]⟩) (la := none) (ka := none) (va := none) (nl := 0) (cl := 0) (nk := 0) (ck := 0) (nv := 0) (cv := 0) hb1 (by omega) (fun v e => by cases e; exact rn))
            obtain ⟨f0, f1, f2, f3, f4, f5⟩ := free_block6 y2
            obtain ⟨g0, g1, g2, g3, g4, g5⟩ := of_block6 y2
            rw [← Hy.out] at Hans
            clear Hlow Hhigh Hat Hy y0 y2 Hcl Hrl hq hq2
            go_wp2_with fail
            exact bodyPost_ret (results_row_tmp (p := 4) (u := 5) (ty := 26) rfl _ _ (w.heap.size + 1 + 1) 26 _ (0, 0) _ rfl (Hset.out trivial) Tryz.underlying26 rfl (by kernel_rfl)) rfl Hans.out
          have c2 : ¬ ((l.length : Int) ≤ x + l.length) := by omega
          obtain ⟨m, hm⟩ : ∃ m : Nat, x + (l.length : Int) = (m : Int) := ⟨(x + (l.length : Int)).toNat, by omega⟩
          have hml : m < l.length := by omega
          have Hy := Lib.hid (Hat.out m (by rw [if_pos x0]; exact hm) hml)
          obtain ⟨lb, lo, rfl, hlb, hcel⟩ := Hcl.out (by omega)
          have cc := (hcel m hml).below (hbel.trans (hb1.mono hB)) hlb
          have hr := Hrl.out m hml
          rw [← Hy.out] at hr
          obtain ⟨k9, h9, t9, la9, ka9, va9, nl9, cl9, nk9, ck9, nv9, cv9, hC⟩ := hr.shape
          rw [hC] at cc hr
          obtain ⟨z0, z1, z2, z3, z4, z5⟩ := cells6 cc
          have Hr := Lib.hid hr
          have Hset := Lib.hid fun (_ : True) => (set_row6 y2 (.int .i64 k9) (.int .i64 h9) (.string t9) (.slice la9 nl9 cl9) (.slice ka9 nk9 ck9) (.slice va9 nv9 cv9))
          have Hans := Lib.hid (ansV_set (a := (.fine y)) (w0 := w0) (B := B) (z := w.heap.size + 1 + 1) (k := k9) (h := h9) (t := t9) (la := la9) (ka := ka9) (va := va9) (nl := nl9) (cl := cl9) (nk := nk9) (ck := ck9) (nv := nv9) (cv := cv9) hb1 (by omega) (fun v e => by cases e; exact Hr.out))
          obtain ⟨f0, f1, f2, f3, f4, f5⟩ := free_block6 y2
          obtain ⟨g0, g1, g2, g3, g4, g5⟩ := of_block6 y2
          clear Hlow Hhigh Hat Hy y0 y2 Hrl hq hq2 hr hC cc hcel hlb
          have m1 : (m : Int) < (l.length : Int) := by omega
          have m2 : (0 : Int) ≤ (m : Int) := by omega
          rw [hm] at c1 c2
          have xm := xw.trans hm
          clear hm xw
          go_upto_region 15 with fail
          rw [xm]
          clear xm x0
          go_wp2_with fail
          exact bodyPost_ret (results_row_tmp (p := 4) (u := 5) (ty := 26) rfl _ _ (w.heap.size + 1 + 1) 26 _ (0, 0) _ rfl (Hset.out trivial) Tryz.underlying26 rfl (by kernel_rfl)) rfl Hans.out
        · skip
          by_cases c2 : (l.length : Int) ≤ x
          · have Hy := Lib.hid (Hhigh.out (by rw [if_neg x0]; exact c2))
            have Hset := Lib.hid fun (_ : True) => (set_row6 y2 (.int .i64 0) (.int .i64 0) (.string ⟨#[]⟩) (.slice none 0 0) (.slice none 0 0) (.slice none 0 0))
            have Hans := Lib.hid (ansV_set (a := (.fine nullV)) (w0 := w0) (B := B) (z := w.heap.size + 1 + 1) (k := 0) (h := 0) (t := ⟨#[]⟩) (la := none) (ka := none) (va := none) (nl := 0) (cl := 0) (nk := 0) (ck := 0) (nv := 0) (cv := 0) hb1 (by omega) (fun v e => by cases e; exact rn))
            obtain ⟨f0, f1, f2, f3, f4, f5⟩ := free_block6 y2
            obtain ⟨g0, g1, g2, g3, g4, g5⟩ := of_block6 y2
            rw [← Hy.out] at Hans
            clear Hlow Hhigh Hat Hy y0 y2 Hcl Hrl hq hq2
            go_wp2_with fail
            exact bodyPost_ret (results_row_tmp (p := 4) (u := 5) (ty := 26) rfl _ _ (w.heap.size + 1 + 1) 26 _ (0, 0) _ rfl (Hset.out trivial) Tryz.underlying26 rfl (by kernel_rfl)) rfl Hans.out
          have c1 : ¬ (x < 0) := x0
          obtain ⟨m, hm⟩ : ∃ m : Nat, x = (m : Int) := ⟨(x).toNat, by omega⟩
          have hml : m < l.length := by omega
          have Hy := Lib.hid (Hat.out m (by rw [if_neg x0]; exact hm) hml)
          obtain ⟨lb, lo, rfl, hlb, hcel⟩ := Hcl.out (by omega)
          have cc := (hcel m hml).below (hbel.trans (hb1.mono hB)) hlb
          have hr := Hrl.out m hml
          rw [← Hy.out] at hr
          obtain ⟨k9, h9, t9, la9, ka9, va9, nl9, cl9, nk9, ck9, nv9, cv9, hC⟩ := hr.shape
          rw [hC] at cc hr
          obtain ⟨z0, z1, z2, z3, z4, z5⟩ := cells6 cc
          have Hr := Lib.hid hr
          have Hset := Lib.hid fun (_ : True) => (set_row6 y2 (.int .i64 k9) (.int .i64 h9) (.string t9) (.slice la9 nl9 cl9) (.slice ka9 nk9 ck9) (.slice va9 nv9 cv9))
          have Hans := Lib.hid (ansV_set (a := (.fine y)) (w0 := w0) (B := B) (z := w.heap.size + 1 + 1) (k := k9) (h := h9) (t := t9) (la := la9) (ka := ka9) (va := va9) (nl := nl9) (cl := cl9) (nk := nk9) (ck := ck9) (nv := nv9) (cv := cv9) hb1 (by omega) (fun v e => by cases e; exact Hr.out))
          obtain ⟨f0, f1, f2, f3, f4, f5⟩ := free_block6 y2
          obtain ⟨g0, g1, g2, g3, g4, g5⟩ := of_block6 y2
          clear Hlow Hhigh Hat Hy y0 y2 Hrl hq hq2 hr hC cc hcel hlb
          have m1 : (m : Int) < (l.length : Int) := by omega
          have m2 : (0 : Int) ≤ (m : Int) := by omega
          subst hm
          go_wp2_with fail
          exact bodyPost_ret (results_row_tmp (p := 4) (u := 5) (ty := 26) rfl _ _ (w.heap.size + 1 + 1) 26 _ (0, 0) _ rfl (Hset.out trivial) Tryz.underlying26 rfl (by kernel_rfl)) rfl Hans.out
      · rw [if_pos (by simpa using qt)]
        rw [show wholeI 3 h' = 0 from if_neg (fun h => qt h.2), show wholeB 3 h' = false from decide_eq_false (fun h => qt h.2)] at WH
        clear qt Hcl Hrl
        go_enter Tryz.func16, Tryz.ntmps16
        go_wp2_with fail
        refine (WH.out _).mono ?_
        rintro e w1 ⟨rfl, hw1⟩
        obtain ⟨hb1, y0, y1, y2⟩ := Hkey.out _ hw1
        clear hw1 y0 y1
        have Hset := Lib.hid fun (_ : True) => (set_row6 y2 (.int .i64 0) (.int .i64 0) (.string ⟨#[]⟩) (.slice none 0 0) (.slice none 0 0) (.slice none 0 0))
        have Hans := Lib.hid (ansV_set (a := .silent) (w0 := w0) (B := B) (z := w.heap.size + 1 + 1) (k := 0) (h := 0) (t := ⟨#[]⟩) (la := none) (ka := none) (va := none) (nl := 0) (cl := 0) (nk := 0) (ck := 0) (nv := 0) (cv := 0) hb1 (by omega) (fun v e => by cases e))
        obtain ⟨f0, f1, f2, f3, f4, f5⟩ := free_block6 y2
        obtain ⟨g0, g1, g2, g3, g4, g5⟩ := of_block6 y2
        go_wp2_with fail
        exact bodyPost_ret (results_row_tmp (p := 4) (u := 5) (ty := 26) rfl _ _ (w.heap.size + 1 + 1) 26 _ (0, 0) _ rfl (Hset.out trivial) Tryz.underlying26 rfl (by kernel_rfl)) rfl Hans.out
    have t3' : (k' == 3) = false := by simpa using q3
    rw [if_neg (fun e => q3 e.2)]
    by_cases q5 : k' = 5
    · rw [if_pos (.inr (.inl ⟨rfl, q5⟩))]
      subst q5
      clear t7' t6' t3' q3
      have Hans := Lib.hid (ansV_made (a := .silent) (w0 := w0) (B := B) (k := 0) (h := 0) (t := ⟨#[]⟩) (la := none) (ka := none) (va := none) (nl := 0) (cl := 0) (nk := 0) (ck := 0) (nv := 0) (cv := 0) Hbw.out (fun v e => by cases e))
      clear GT Hcl Hrl Hkey HbW HsW Hbw
      go_enter Tryz.func16, Tryz.ntmps16
      go_wp2_with fail
      exact bodyPost_ret (results_row_tmp (p := 4) (u := 5) (ty := 26) rfl _ _ (w.heap.size + 1 + 1) 26 _ (0, 0) _ rfl (at_alloc3 _ _ _ _).2.2.2 Tryz.underlying26 rfl (by kernel_rfl)) rfl Hans.out
    have t5' : (k' == 5) = false := by simpa using q5
    rw [if_neg (by simp [q5])]
    clear q3 q5
    have Hans := Lib.hid (ansV_made (a := .raises) (w0 := w0) (B := B) (k := 0) (h := 0) (t := ⟨#[]⟩) (la := none) (ka := none) (va := none) (nl := 0) (cl := 0) (nk := 0) (ck := 0) (nv := 0) (cv := 0) Hbw.out (fun v e => by cases e))
    clear GT Hcl Hrl Hkey HbW HsW Hbw
    go_enter Tryz.func16, Tryz.ntmps16
    go_wp2_with fail
    exact bodyPost_ret (results_row_tmp (p := 4) (u := 5) (ty := 26) rfl _ _ (w.heap.size + 1 + 1) 26 _ (0, 0) _ rfl (at_alloc3 _ _ _ _).2.2.2 Tryz.underlying26 rfl (by kernel_rfl)) rfl Hans.out
  rw [if_neg (fun e => k5 e.1)]
  have t5 : (k == 5) = false := by simpa using k5
  by_cases k4 : k = 4
  · subst k4
    clear t7 t6 t0 t5
    by_cases q3 : k' = 3
    · rw [if_pos (.inl ⟨rfl, q3⟩)]
      subst q3
      clear t7' t6'
      have Hans := Lib.hid (ansV_made (a := .silent) (w0 := w0) (B := B) (k := 0) (h := 0) (t := ⟨#[]⟩) (la := none) (ka := none) (va := none) (nl := 0) (cl := 0) (nk := 0) (ck := 0) (nv := 0) (cv := 0) Hbw.out (fun v e => by cases e))
      clear GT Hcl Hrl Hkey HbW HsW Hbw
      go_enter Tryz.func16, Tryz.ntmps16
      go_wp2_with fail
      exact bodyPost_ret (results_row_tmp (p := 4) (u := 5) (ty := 26) rfl _ _ (w.heap.size + 1 + 1) 26 _ (0, 0) _ rfl (at_alloc3 _ _ _ _).2.2.2 Tryz.underlying26 rfl (by kernel_rfl)) rfl Hans.out
    have t3' : (k' == 3) = false := by simpa using q3
    rw [if_neg (by simp [q3])]
    clear q3 k0 k6 k5
    have Hans := Lib.hid (ansV_made (a := .raises) (w0 := w0) (B := B) (k := 0) (h := 0) (t := ⟨#[]⟩) (la := none) (ka := none) (va := none) (nl := 0) (cl := 0) (nk := 0) (ck := 0) (nv := 0) (cv := 0) Hbw.out (fun v e => by cases e))
    clear GT Hcl Hrl Hkey HbW HsW Hbw
    go_enter Tryz.func16, Tryz.ntmps16
    go_wp2_with fail
    exact bodyPost_ret (results_row_tmp (p := 4) (u := 5) (ty := 26) rfl _ _ (w.heap.size + 1 + 1) 26 _ (0, 0) _ rfl (at_alloc3 _ _ _ _).2.2.2 Tryz.underlying26 rfl (by kernel_rfl)) rfl Hans.out
  have t4 : (k == 4) = false := by simpa using k4
  rw [if_neg (by simp [k4, k5, k0])]
  clear k0 k4 k5 k6
  have Hans := Lib.hid (ansV_made (a := .raises) (w0 := w0) (B := B) (k := 0) (h := 0) (t := ⟨#[]⟩) (la := none) (ka := none) (va := none) (nl := 0) (cl := 0) (nk := 0) (ck := 0) (nv := 0) (cv := 0) Hbw.out (fun v e => by cases e))
  clear GT Hcl Hrl Hkey HbW HsW Hbw
  go_enter Tryz.func16, Tryz.ntmps16
  go_wp2_with fail
  exact bodyPost_ret (results_row_tmp (p := 4) (u := 5) (ty := 26) rfl _ _ (w.heap.size + 1 + 1) 26 _ (0, 0) _ rfl (at_alloc3 _ _ _ _).2.2.2 Tryz.underlying26 rfl (by kernel_rfl)) rfl Hans.out

end Go.Proofs.YtiphcojcdegnkaaGreatDoor
