/- Contract of package big's nat.text at base 10: the walk. -/
import Derived.Test.YtfgjaoejcbldoaaGreatDoorM03
import Derived.BigRegion
import Derived.Lib.SlBytesConst
namespace Go.Proofs.YtfgjaoejcbldoaaGreatDoor
open Go Go.RowKit Go.Deep
set_option maxHeartbeats 4000000 in
set_option maxRecDepth 100000 in
theorem text_zero (w : World) (s : Bool) (vx : Value) (h : NatAt w w.heap.size 0 vx) :
    Calls Tryz.prog 74 #[vx, .bool s, .int .i64 10] w (TxtP w [48]) := by
  obtain ⟨D, n, ⟨a, c, rfl, _⟩, h0, he⟩ := h
  have hn : n = 0 := by
    rcases Nat.eq_zero_or_pos n with e | e
    · exact e
    · exfalso
      have := sumD_ge e (h0 (by omega))
      have := bD_pos (n - 1)
      omega
  subst hn
  clear h0 he
  have kc := Lib.run_convert_bytes_const (P := Tryz.prog) w 79 5 #[.int .u8 48] 1 1 Tryz.underlying79 Tryz.underlying5
  go_enter Tryz.func74, Tryz.ntmps74
  go_wp2_with fail
  have hb1 : Below w.heap.size w (w.alloc (.cells #[.int .u8 48] 5 (1, 2))) := below_alloc1 w _
  go_ret
  refine ⟨w.heap.size, 1, rfl, ?_, hb1⟩
  intro i hi
  obtain rfl : i = 0 := by simpa using hi
  exact cellNew0 _ _ _ _
set_option maxHeartbeats 4000000 in
set_option maxRecDepth 100000 in
theorem text_pos (w : World) (x : Nat) (s : Bool) (vx : Value) (h : NatAt w w.heap.size x vx) (hxx : x < xMax) (hx0 : x ≠ 0) :
    Calls Tryz.prog 74 #[vx, .bool s, .int .i64 10] w (TxtP w (if s = true then 45 :: Lib.decDigits x else Lib.decDigits x)) := by
  obtain ⟨i0, hi0, hz0, hz1, hz2⟩ : ∃ i0, Tryz.prog.info? 5 = some i0 ∧ i0.zero = some (.int .u8 0) ∧ i0.size = 1 ∧ i0.bytes = 1 := ⟨(Tryz.prog.info? 5).get (by kernel_rfl), by kernel_rfl, by kernel_rfl, by kernel_rfl, by kernel_rfl⟩
  have hbl := back_max hxx
  obtain ⟨X, n, a, c, rfl, hn0, hn1⟩ : ∃ (X : Nat → Nat) (n : Nat) (a : Option Addr) (c : Nat), vx = .slice a n c ∧ 0 < n ∧ n ≤ lenS := by
    obtain ⟨X, n, ⟨a, c, rfl, _⟩, _, e, hn⟩ := h.open hxx
    refine ⟨X, n, a, c, rfl, ?_, hn⟩
    rcases Nat.eq_zero_or_pos n with e' | e'
    · subst e'
      exact absurd e hx0
    · exact e'
  have hst : TextI w x (.slice a n c) (.slice none 0 0) w := ⟨x, [], ⟨h, fun _ _ _ _ _ _ => by simp [Value.ownBlock]⟩, Nat.le_refl _, rfl, World.ownsRow_nil _ _ _ _, Below.refl _ _⟩
  have Hst := Lib.hid hst
  have z0 : (((n : Nat) : Int) == 0) = false := by
    have : ((n : Nat) : Int) ≠ 0 := by omega
    simpa using this
  have HD := Lib.hid fun (w' : World) (y : Nat) (v : Value) (h : NatAt w' w'.heap.size y v) (hy : y ≤ x) => (show Calls Tryz.prog 109 #[v, .int .u32 1000000000] w' (DivWF w' y 1000000000) from divW_own w' y 1000000000 v h (by omega) (by decide) (by decide))
  have Hbl := Lib.hid hbl
  generalize hT : (if s = true then 45 :: Lib.decDigits x else Lib.decDigits x) = T
  have HT := Lib.hid hT
  unfold lenS at hn1
  clear hst h hT
  go_enter Tryz.func74, Tryz.ntmps74
  go_wp2_with fail
  go_loopw [7, 8] (fun vb vk wr => w = wr ∧ ∃ i : Nat, i ≤ 8 ∧ vb = .int .u64 (10 ^ (i + 1)) ∧ vk = .int .i64 ((i : Int) + 1)) (fun _ vk _ => 9 - (intOf vk).toNat)
  case atStart => exact ⟨rfl, 0, by omega, by rfl, by rfl⟩
  case round =>
    obtain ⟨rfl, i, hi, rfl, rfl⟩ := hrel
    by_cases h8 : i < 8
    · have : i = 0 ∨ i = 1 ∨ i = 2 ∨ i = 3 ∨ i = 4 ∨ i = 5 ∨ i = 6 ∨ i = 7 := by omega
      rcases this with rfl | rfl | rfl | rfl | rfl | rfl | rfl | rfl
      all_goals
        clear h8 hi
        simp only [Nat.reduceAdd, Int.reducePow, Int.cast_ofNat_Int, Int.reduceAdd]
        go_wp2_with fail
        first
          | exact ⟨⟨trivial, 1, by decide, rfl, rfl⟩, by decide⟩
          | exact ⟨⟨trivial, 2, by decide, rfl, rfl⟩, by decide⟩
          | exact ⟨⟨trivial, 3, by decide, rfl, rfl⟩, by decide⟩
          | exact ⟨⟨trivial, 4, by decide, rfl, rfl⟩, by decide⟩
          | exact ⟨⟨trivial, 5, by decide, rfl, rfl⟩, by decide⟩
          | exact ⟨⟨trivial, 6, by decide, rfl, rfl⟩, by decide⟩
          | exact ⟨⟨trivial, 7, by decide, rfl, rfl⟩, by decide⟩
          | exact ⟨⟨trivial, 8, by decide, rfl, rfl⟩, by decide⟩
    · obtain rfl : 8 = i := by omega
      simp only [Nat.reduceAdd, Int.reducePow, Int.cast_ofNat_Int, Int.reduceAdd]
      go_wp2_with fail
      clear hi h8
      go_loopw [0, 9] (fun vx vs wr' => TextI w x vx vs wr') (fun _ vs _ => (backT x).length - lenOf vs)
      case atStart => exact Hst.out
      case round =>
        obtain ⟨y, L, hoff, hyx, hLb, hrow, hb⟩ := hrel
        obtain ⟨D, m, ⟨a1, c1, rfl, hm1⟩, hD0, hDs⟩ := id hoff.1
        obtain ⟨la, lc, rfl⟩ := rowForm hrow
        by_cases hm : 0 < m
        · have u1 : (0 : Int) < (m : Int) := by omega
          have hy0 : y ≠ 0 := by
            have h1 := sumD_ge hm (hD0 (by omega))
            have h2 := bD_pos (m - 1)
            omega
          have hll : L.length < (backT x).length := by
            rw [← hLb, List.length_append]
            have : backT y ≠ [] := fun e => hy0 (back_none e)
            have := List.length_pos_iff.2 this
            omega
          have hdv := HD.out wr y _ hoff.1 hyx
          have Hy0 := Lib.hid hy0
          have Hyx := Lib.hid hyx
          have HLb := Lib.hid hLb
          have Hrow := Lib.hid hrow
          have Hb := Lib.hid hb
          clear hoff hyx hLb hrow hb hm1 hD0 hDs hy0
          go_wp2_with fail
          refine hdv.mono ?_
          clear hdv
          rintro e w2 ⟨q, rfl, hq, hb2, hfr⟩
          have hJ : TextJ w x (y / 1000000000) L.length q (.int .i64 0) (.slice la L.length lc) (.int .u32 ((y % 1000000000 : Nat) : Int)) w2 :=
            ⟨0, y % 1000000000, L, by go_num, rfl, by omega, Nat.mod_lt _ (by decide), rfl, ⟨hq, fun b o n c e h0 hv => by
              have h1 := hfr b o n c e
              have h2 := (Hrow.out.lt b hv).2
              omega⟩, by rw [show y / 1000000000 * 10 ^ (9 - 0) + y % 1000000000 = y from Nat.div_add_mod' y 1000000000]; exact HLb.out, keptRow Hrow.out hb2, below_next Hb.out hb2⟩
          have HJ := Lib.hid hJ
          have hyq : y / 1000000000 ≤ y := Nat.div_le_self _ _
          obtain ⟨y2, hy2⟩ : ∃ y2, y / 1000000000 = y2 := ⟨_, rfl⟩
          rw [hy2] at HJ hyq hq
          have Hq0 := Lib.hid (show y2 = 0 → y < 1000000000 from fun e => by omega)
          obtain ⟨D2, m2, ⟨a2, c2, rfl, _⟩, hD2, hDs2⟩ := id hq
          have Hm2 := Lib.hid (show (m2 = 0 → y2 = 0) ∧ (0 < m2 → 0 < y2) from ⟨fun e => by subst e; exact hDs2, fun h => by
            have h1 := sumD_ge h (hD2 (by omega))
            have h2 := bD_pos (m2 - 1)
            omega⟩)
          clear hq hb2 hfr hJ hD2 hDs2 hy2
          go_wp2_with fail
          go_loopw [11, 9, 10] (fun vi vs vr wq => TextJ w x y2 L.length (.slice a2 m2 c2) vi vs vr wq) (fun vi _ _ _ => 9 - (intOf vi).toNat)
          case atStart => exact HJ.out
          case round =>
            obtain ⟨i, r, L2, rfl, rfl, hi, hr, hln, hoff, hLb, hrow, hb⟩ := hrel
            obtain ⟨la2, lc2, rfl⟩ := rowForm hrow
            have Hoff := Lib.hid hoff
            have HLb2 := Lib.hid hLb
            have Hrow2 := Lib.hid hrow
            have Hb2 := Lib.hid hb
            by_cases hc : i < 9 ∧ (0 < m2 ∨ 0 < r)
            · obtain ⟨k1, k2⟩ := chunk_step (x := y2) hc.1 hr (hc.2.imp Hm2.out.2 id)
              obtain ⟨d, hd⟩ : ∃ d, r % 10 = d := ⟨_, rfl⟩
              obtain ⟨rr, hrr⟩ : ∃ rr, r / 10 = rr := ⟨_, rfl⟩
              rw [hd, hrr] at k1
              rw [hrr] at k2
              have hd10 : d < 10 := by omega
              have t1 : (r : Int).tmod 10 = (d : Int) := by rw [← hd]; rfl
              have t2 : (r : Int).tdiv 10 = (rr : Int) := by rw [← hrr]; rfl
              obtain ⟨_, eb⟩ := dig_byte hd10
              have ev : Value.int .u8 (48 + (d : Int)) = byteV (UInt8.ofNat (48 + d)) := by unfold byteV; rw [eb]; congr 1
              have hown := keptRow hrow (below_alloc1 wr (.cells #[.int .u8 (48 + (d : Int))] 5))
              have hnews := cellNew wr (.int .u8 (48 + (d : Int))) 5
              have hx1 : ∀ u ∈ [Value.int .u8 (48 + (d : Int))], u.oneCell' = true := by simp [Value.oneCell']
              have hlx : L2.length ≤ 32000 := by
                have e1 := congrArg List.length hLb
                rw [List.length_append] at e1
                have := Hbl.out
                omega
              have cc1 : L2.length + 1 ≤ maxLen := by unfold maxLen; omega
              have cc2 : (L2.length + 1) * 1 ≤ 140737488355328 := by omega
              have hbs := hb.size
              have hsn := size_alloc1 wr (.cells #[.int .u8 (48 + (d : Int))] 5)
              have hbase : w.heap.size ≤ (wr.alloc (.cells #[.int .u8 (48 + (d : Int))] 5)).heap.size := by omega
              have hnext : ∀ v' w', w'.ownsRow w.heap.size 5 1 v' (L2.length + 1) (L2.map byteV ++ [.int .u8 (48 + (d : Int))]) → (wr.alloc (.cells #[.int .u8 (48 + (d : Int))] 5)).grownBy w' (Value.slice la2 L2.length lc2).ownBlock → (v'.ownBlock = (Value.slice la2 L2.length lc2).ownBlock ∨ v'.ownBlock = some (wr.alloc (.cells #[.int .u8 (48 + (d : Int))] 5)).heap.size) → TextJ w x y2 L.length (.slice a2 m2 c2) (.int .i64 ((i : Int) + 1)) v' (.int .u32 (rr : Int)) w' := by
                intro v' w' ho hg hat
                refine ⟨i + 1, rr, L2 ++ [UInt8.ofNat (48 + d)], by go_num, rfl, hc.1, k2, by rw [List.length_append, List.length_singleton]; omega, ((hoff.carry (below_alloc1 _ _)).grown hg hat), ?_, ?_, ?_⟩
                · rw [List.append_assoc, List.singleton_append, ← k1]
                  exact hLb
                · rw [List.length_append, List.length_singleton, List.map_append, List.map_cons, List.map_nil, ← ev]
                  exact ho
                · exact (hb.alloc hbs _).grown hg hbase (fun k hk => (hown.lt k hk).1)
              have Hnext := Lib.hid hnext
              have hdx : ∀ h, (({ data := #[48, 49, 50, 51, 52, 53, 54, 55, 56, 57, 97, 98, 99, 100, 101, 102, 103, 104, 105, 106, 107, 108, 109, 110, 111, 112, 113, 114, 115, 116, 117, 118, 119, 120, 121, 122, 65, 66, 67, 68, 69, 70, 71, 72, 73, 74, 75, 76, 77, 78, 79, 80, 81, 82, 83, 84, 85, 86, 87, 88, 89, 90] } : ByteArray)[d]'h).toNat = 48 + d := by
                have : d = 0 ∨ d = 1 ∨ d = 2 ∨ d = 3 ∨ d = 4 ∨ d = 5 ∨ d = 6 ∨ d = 7 ∨ d = 8 ∨ d = 9 := by omega
                rcases this with rfl | rfl | rfl | rfl | rfl | rfl | rfl | rfl | rfl | rfl <;> exact fun _ => rfl
              have hrb : r < 1000000000 := Nat.lt_of_lt_of_le hr (ten_mono (show 9 - i ≤ 9 by omega))
              have hrb2 : rr < 1000000000 := by omega
              have q1 : (i : Int) < 9 := by omega
              have Hc := Lib.hid hc.2
              clear hnext hoff hLb hrow hb hln hr k1 k2 hd hrr ev eb hc
              by_cases hm2 : 0 < m2
              · have q2 : (0 : Int) < (m2 : Int) := by omega
                go_wp2_with (at_builtin; go_loud (refine wpList_append_own_at _ rfl (.tmp 63) (.tmp 69) 79 rfl w.heap.size 5 i0 _ 1 1 Tryz.underlying79 hi0 hz0 hz1 hz2 rfl (by decide) (.slice la2 L2.length lc2) L2.length (L2.map byteV) rfl hown _ 1 1 _ rfl rfl hnews hx1 cc1 cc2 hbase ?_; intro v' w5 hown5 hg5 _ hat5; have Hloop := Lib.hid (Hnext.out v' w5 hown5 hg5 hat5); obtain ⟨la', lc', rfl⟩ := rowForm hown5; clear hown5 hg5 hat5))
                exact ⟨Hloop.out, by simp [intOf]; omega⟩
              · have q2 : ¬ (0 : Int) < (m2 : Int) := by omega
                have q3 : (0 : Int) < (r : Int) := by
                  have := Hc.out
                  omega
                go_wp2_with (at_builtin; go_loud (refine wpList_append_own_at _ rfl (.tmp 63) (.tmp 69) 79 rfl w.heap.size 5 i0 _ 1 1 Tryz.underlying79 hi0 hz0 hz1 hz2 rfl (by decide) (.slice la2 L2.length lc2) L2.length (L2.map byteV) rfl hown _ 1 1 _ rfl rfl hnews hx1 cc1 cc2 hbase ?_; intro v' w5 hown5 hg5 _ hat5; have Hloop := Lib.hid (Hnext.out v' w5 hown5 hg5 hat5); obtain ⟨la', lc', rfl⟩ := rowForm hown5; clear hown5 hg5 hat5))
                exact ⟨Hloop.out, by simp [intOf]; omega⟩
            · have hend : L2 ++ backT y2 = backT x ∧ L.length < L2.length := by
                rcases Nat.lt_or_ge i 9 with h9 | h9
                · have e1 : m2 = 0 := by omega
                  have e2 : r = 0 := by omega
                  have e3 := Hm2.out.1 e1
                  rw [e2, e3, Nat.zero_mul] at hLb
                  rw [e3]
                  refine ⟨hLb, ?_⟩
                  have e4 := congrArg List.length hLb
                  rw [List.length_append, backT_zero, List.length_nil] at e4
                  omega
                · obtain rfl : i = 9 := by omega
                  have e2 : r = 0 := by simpa using hr
                  rw [e2, show y2 * 10 ^ (9 - 9) + 0 = y2 by simp] at hLb
                  exact ⟨hLb, by omega⟩
              have HF := Lib.hid (show TextI w x (.slice a2 m2 c2) (.slice la2 L2.length lc2) wr from ⟨y2, L2, hoff, Nat.le_trans hyq Hyx.out, hend.1, hrow, hb⟩)
              have hlt := hend.2
              have hq : i = 9 ∨ (i < 9 ∧ m2 = 0 ∧ r = 0) := by omega
              clear hoff hLb hrow hb hr hc hend
              rcases hq with e | ⟨h9, e1, e2⟩
              · have q1 : ¬ (i : Int) < 9 := by omega
                go_wp2_with fail
                exact ⟨HF.out, by simp only [lenOf]; omega⟩
              · have q1 : (i : Int) < 9 := by omega
                have q2 : ¬ (0 : Int) < (m2 : Int) := by omega
                have q3 : ¬ (0 : Int) < (r : Int) := by omega
                go_wp2_with fail
                exact ⟨HF.out, by simp only [lenOf]; omega⟩
        · have u1 : ¬ (0 : Int) < (m : Int) := by omega
          obtain rfl : m = 0 := by omega
          have hy : y = 0 := hDs
          subst hy
          rw [backT_zero, List.append_nil] at hLb
          subst hLb
          have Hrow := Lib.hid hrow
          have Hb := Lib.hid hb
          clear hoff hm1 hD0 hDs hrow hb
          have hb0 : 0 < (backT x).length := by
            have : backT x ≠ [] := fun e => hx0 (back_none e)
            exact List.length_pos_iff.2 this
          have Hb0 := Lib.hid hb0
          have hdec := Lib.hid (backT_dec x hx0)
          have hTu := HT.out
          cases s
          · rw [if_neg (by decide)] at hTu
            obtain ⟨g, cap, f, e, hg, hrow, hcap, hN, hNl, hf⟩ := own_row Hrow.out hb0 (hdec.out.trans hTu)
            have Hrow2 := Lib.hid (show TurnI w g cap T.length (backD T) (.int .i64 0) (.int .i64 ((T.length : Int) - 1)) wr from ⟨0, f, rfl, by congr 1; omega, Nat.zero_le _, hrow, fun i hi => by rw [revD_start _ hi]; exact hf i hi, Hb.out⟩)
            rw [e]
            clear hrow hf hTu e hb0
            have hNb : T.length ≤ 32001 := by omega
            clear hNl
            generalize hNe : T.length = N at *
            go_wp2_with fail
            go_loopw [12, 13] (fun vi vj wr => TurnI w g cap N (backD T) vi vj wr) (fun _ vj _ => (intOf vj).toNat)
            case atStart => exact Hrow2.out
            case round =>
              obtain ⟨k, f, rfl, rfl, hk, hrow, hf, hb⟩ := hrel
              by_cases hkk : k < N - 1 - k
              · have i0 : (k : Int) < (N : Int) - 1 - (k : Int) := by omega
                have i1 : (0 : Int) ≤ (N : Int) - 1 - (k : Int) := by omega
                have i2 : (N : Int) - 1 - (k : Int) < (N : Int) := by omega
                have i3 : ((N : Int) - 1 - (k : Int)).toNat = N - 1 - k := by omega
                have i4 : (k : Int) < (N : Int) := by omega
                have y1 := World.rowIs.cell hrow (show k < cap by omega)
                have y2 := World.rowIs.cell hrow (show N - 1 - k < cap by omega)
                rw [hf k (by omega), revD_low _ hkk] at y1
                rw [hf (N - 1 - k) (by omega), revD_high _ hkk] at y2
                have y3 := World.rowIs.frozen hrow k
                have y4 := World.rowIs.frozen hrow (N - 1 - k)
                obtain ⟨f', hf1, hf2⟩ := rev_step hrow hkk hf
                have HF := Lib.hid (show TurnI w g cap N (backD T) (.int .i64 ((k : Int) + 1)) (.int .i64 ((N : Int) - 1 - (k : Int) - 1)) ((wr.setCell ⟨g, k, none⟩ (.int .u8 ((backD T (N - 1 - k) : Nat) : Int))).setCell ⟨g, N - 1 - k, none⟩ (.int .u8 ((backD T k : Nat) : Int))).drew from ⟨k + 1, f', by go_num, by congr 1; omega, by omega, hf1, hf2, ((hb.setCell hg _).setCell hg _).trans ⟨rfl, rfl, rfl, Nat.le_refl _, fun _ _ => rfl⟩⟩)
                generalize backD T k = d1 at *
                generalize backD T (N - 1 - k) = d2 at *
                clear hrow hf hb hf1 hf2
                go_wp2_with fail
                go_region
                all_goals
                  go_wp2_with fail
                  exact ⟨HF.out, by simp [intOf]; omega⟩
              · have i0 : ¬ (k : Int) < (N : Int) - 1 - (k : Int) := by omega
                have Hfin := Lib.hid (show TxtP w T (.returned (.slice (some ⟨g, 0, none⟩) N cap)) wr from ⟨g, cap, by rw [hNe], fun i hi => by
                  rw [World.rowIs.cell hrow (show i < cap by omega), hf i (by omega), revD_end _ hkk i (by omega), ← hNe]
                  exact congrArg some (backD_end T hi), hb⟩)
                clear hrow hf hb
                go_wp2_with fail
                go_ret
                exact Hfin.out
          · rw [if_pos rfl] at hTu
            have hown := keptRow Hrow.out (below_alloc1 wr (.cells #[.int .u8 45] 5))
            have hnews := cellNew wr (.int .u8 45) 5
            have hx1 : ∀ u ∈ [Value.int .u8 45], u.oneCell' = true := by simp [Value.oneCell']
            have cc1 : (backT x).length + 1 ≤ maxLen := by unfold maxLen; omega
            have cc2 : ((backT x).length + 1) * 1 ≤ 140737488355328 := by omega
            have hbs := Hb.out.size
            have hsn := size_alloc1 wr (.cells #[.int .u8 45] 5)
            have hbase : w.heap.size ≤ (wr.alloc (.cells #[.int .u8 45] 5)).heap.size := by omega
            have hnext : ∀ v' w', w'.ownsRow w.heap.size 5 1 v' ((backT x).length + 1) ((backT x).map byteV ++ [.int .u8 45]) → (wr.alloc (.cells #[.int .u8 45] 5)).grownBy w' (Value.slice la (backT x).length lc).ownBlock →
                ∃ g cap, v' = .slice (some ⟨g, 0, none⟩) T.length cap ∧ w.heap.size ≤ g ∧ T.length ≤ cap ∧ 0 < T.length ∧ T.length = (backT x).length + 1 ∧ TurnI w g cap T.length (backD T) (.int .i64 0) (.int .i64 ((T.length : Int) - 1)) w' := by
              intro v' w' ho hg
              have e1 : (backT x).length + 1 = (backT x ++ [45]).length := by rw [List.length_append, List.length_singleton]
              have e2 : (backT x).map byteV ++ [.int .u8 45] = (backT x ++ [45]).map byteV := by rw [List.map_append]; rfl
              rw [e1, e2] at ho
              obtain ⟨g, cap, f, e, hg2, hrow, hcap, hN, hNl, hf⟩ := own_row ho (by omega) (show (backT x ++ [45]).reverse = T by rw [List.reverse_append, hdec.out]; exact hTu)
              exact ⟨g, cap, e, hg2, hcap, hN, by rw [hNl, ← e1], 0, f, rfl, by congr 1; omega, Nat.zero_le _, hrow, fun i hi => by rw [revD_start _ hi]; exact hf i hi, (Hb.out.alloc hbs _).grown hg hbase (fun k hk => (hown.lt k hk).1)⟩
            have Hnext := Lib.hid hnext
            clear hnext hTu hb0
            go_wp2_with (at_builtin; go_loud (refine wpList_append_own_at _ rfl (.tmp 76) (.tmp 77) 79 rfl w.heap.size 5 i0 _ 1 1 Tryz.underlying79 hi0 hz0 hz1 hz2 rfl (by decide) (.slice la (backT x).length lc) (backT x).length ((backT x).map byteV) rfl hown _ 1 1 _ rfl rfl hnews hx1 cc1 cc2 hbase ?_; intro v' w5 hown5 hg5 _ hat5; obtain ⟨g, cap, rfl, hg, hcap, hN, hNl, hrow⟩ := Hnext.out v' w5 hown5 hg5; have Hrow2 := Lib.hid hrow; have hNb : T.length ≤ 32001 := Nat.le_trans (Nat.le_of_eq hNl) (Nat.succ_le_succ hbl); clear hown5 hg5 hat5 hrow hNl))
            generalize hNe : T.length = N at *
            go_loopw [12, 13] (fun vi vj wr => TurnI w g cap N (backD T) vi vj wr) (fun _ vj _ => (intOf vj).toNat)
            case atStart => exact Hrow2.out
            case round =>
              obtain ⟨k, f, rfl, rfl, hk, hrow, hf, hb⟩ := hrel
              by_cases hkk : k < N - 1 - k
              · have i0 : (k : Int) < (N : Int) - 1 - (k : Int) := by omega
                have i1 : (0 : Int) ≤ (N : Int) - 1 - (k : Int) := by omega
                have i2 : (N : Int) - 1 - (k : Int) < (N : Int) := by omega
                have i3 : ((N : Int) - 1 - (k : Int)).toNat = N - 1 - k := by omega
                have i4 : (k : Int) < (N : Int) := by omega
                have y1 := World.rowIs.cell hrow (show k < cap by omega)
                have y2 := World.rowIs.cell hrow (show N - 1 - k < cap by omega)
                rw [hf k (by omega), revD_low _ hkk] at y1
                rw [hf (N - 1 - k) (by omega), revD_high _ hkk] at y2
                have y3 := World.rowIs.frozen hrow k
                have y4 := World.rowIs.frozen hrow (N - 1 - k)
                obtain ⟨f', hf1, hf2⟩ := rev_step hrow hkk hf
                have HF := Lib.hid (show TurnI w g cap N (backD T) (.int .i64 ((k : Int) + 1)) (.int .i64 ((N : Int) - 1 - (k : Int) - 1)) ((wr.setCell ⟨g, k, none⟩ (.int .u8 ((backD T (N - 1 - k) : Nat) : Int))).setCell ⟨g, N - 1 - k, none⟩ (.int .u8 ((backD T k : Nat) : Int))).drew from ⟨k + 1, f', by go_num, by congr 1; omega, by omega, hf1, hf2, ((hb.setCell hg _).setCell hg _).trans ⟨rfl, rfl, rfl, Nat.le_refl _, fun _ _ => rfl⟩⟩)
                generalize backD T k = d1 at *
                generalize backD T (N - 1 - k) = d2 at *
                clear hrow hf hb hf1 hf2
                go_wp2_with fail
                go_region
                all_goals
                  go_wp2_with fail
                  exact ⟨HF.out, by simp [intOf]; omega⟩
              · have i0 : ¬ (k : Int) < (N : Int) - 1 - (k : Int) := by omega
                have Hfin := Lib.hid (show TxtP w T (.returned (.slice (some ⟨g, 0, none⟩) N cap)) wr from ⟨g, cap, by rw [hNe], fun i hi => by
                  rw [World.rowIs.cell hrow (show i < cap by omega), hf i (by omega), revD_end _ hkk i (by omega), ← hNe]
                  exact congrArg some (backD_end T hi), hb⟩)
                clear hrow hf hb
                go_wp2_with fail
                go_ret
                exact Hfin.out
end Go.Proofs.YtfgjaoejcbldoaaGreatDoor
