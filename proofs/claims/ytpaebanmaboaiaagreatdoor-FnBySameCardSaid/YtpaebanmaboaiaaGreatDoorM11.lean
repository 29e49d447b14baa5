/- Contract of impl.mapFromGo. -/
import Derived.Test.YtpaebanmaboaiaaGreatDoorM09
import Derived.Test.YtpaebanmaboaiaaGreatDoorM10
import Derived.Deep.RegionHeld3
namespace Go.Proofs.YtpaebanmaboaiaaGreatDoor
open Go Go.RowKit Go.Maps Go.Deep Go.Sort
/-- Block b is an impl.Value of a map whose rows are kv and vv. -/
def OutM (w : World) (b : Nat) (kv vv : Value) : Prop := w.heap[b]? = some (.cells #[.int .i64 6, .int .i64 0, .string ⟨#[]⟩, .slice none 0 0, kv, vv] 26)
def FromMLoop (w3 : World) (H : Nat) (ks : List ByteArray) (vs : List V) (i : Value) (wr : World) : Prop :=
  ∃ (n : Nat) (kv vv : Value), n ≤ ks.length ∧ i = .int .i64 (n : Nat) ∧ w3.grownBy wr (some (H + 1)) ∧ OutM wr (H + 1) kv vv ∧ MapRows wr w3.heap.size kv vv (ks.take n) (vs.take n)
theorem keys_cells {w : World} {base : Nat} {v : Value} {ks : List ByteArray} (hk : w.ownsRow base 9 1 v ks.length (ks.map .string)) :
    ∃ la lc, v = .slice la ks.length lc ∧ (0 < ks.length → ∃ g, la = some ⟨g, 0, none⟩ ∧ base ≤ g ∧ g < w.heap.size ∧ ∀ i (hi : i < ks.length), w.cell? ⟨g, i, none⟩ = some (.string ks[i])) := by
  rcases hk.2 with ⟨e, h0⟩ | ⟨g, cap, cur, e, hb, hg, _⟩
  · exact ⟨none, 0, by rw [e, h0], fun h => by omega⟩
  · refine ⟨some ⟨g, 0, none⟩, cap, e, fun _ => ⟨g, rfl, hb, (Array.getElem?_eq_some_iff.1 hg).1, fun i hi => ?_⟩⟩
    have hc := hk.cells (g := g) (by rw [e]; rfl) i (.string ks[i]) (by simp [hi])
    rw [addr_add] at hc
    exact hc
theorem info_string : (Tryz.prog.info? 9).map (fun i => (i.zero, i.size, i.bytes)) = some (some (.string ⟨#[]⟩), 1, 16) := by kernel_rfl
theorem grow0 (w : World) (r : Option Nat) : w.grownBy w.drew r := ⟨rfl, rfl, rfl, Nat.le_refl _, fun _ _ _ => rfl⟩
theorem growr (w : World) (r : Option Nat) : w.grownBy w r := ⟨rfl, rfl, rfl, Nat.le_refl _, fun _ _ _ => rfl⟩
theorem app_keys {W X : World} {lo n g : Nat} {kv : Value} {KS : List Value} {kn : ByteArray} (hK : W.ownsRow lo 9 1 kv n KS) (gX : W.grownBy X none)
    (hg : X.heap[g]? = some (.cells #[.string kn] 9)) (hn : (n + 1) * 16 ≤ 140737488351232) (hlo : lo ≤ W.heap.size) :
    ∃ g1 c1 w1, (Builtin.append_ #[24, 24] 24 #[kv, .slice (some ⟨g, 0, none⟩) 1 1]).run Tryz.prog X = .ok (.slice (some ⟨g1, 0, none⟩) (n + 1) c1) w1 ∧
      w1.ownsRow lo 9 1 (.slice (some ⟨g1, 0, none⟩) (n + 1) c1) (n + 1) (KS ++ [.string kn]) ∧ X.grownBy w1 kv.ownBlock ∧ (kv.ownBlock = some g1 ∨ g1 = X.heap.size) := by
  obtain ⟨j0, ji, jz0, jz1, jz2⟩ := info_parts info_string
  have := gX.size
  obtain ⟨g1, c1, w1, h1, h2, h3, h4, _⟩ := run_append_lies (P := Tryz.prog) (w := X) 24 24 lo 9 j0 _ 1 16 Tryz.underlying24 ji jz0 jz1 jz2 rfl (by decide) kv n KS (kept_row hK gX (fun k e => by cases e))
    ⟨g, 0, none⟩ 1 1 [.string kn] rfl (World.news_of_block (cs := #[.string kn]) hg) (by simp [Value.oneCell']) (by decide) (by unfold maxLen; omega) (by omega) (by omega) _ rfl
  exact ⟨g1, c1, w1, h1, h2, h3, h4⟩
theorem app_vals {W X : World} {lo n g : Nat} {vv : Value} {VS cs : List Value} {row : Option Nat} (hV : W.ownsRow lo 26 6 vv n VS) (gX : W.grownBy X row) (hrow : ∀ k, row = some k → vv.ownBlock ≠ some k)
    (hg : X.heap[g]? = some (.cells cs.toArray 26)) (h6 : cs.length = 6) (h1 : ∀ u ∈ cs, u.oneCell' = true) (hn : (n + 1) * 104 ≤ 140737488351232) (hlo : lo ≤ W.heap.size) :
    ∃ g1 c1 w1, (Builtin.append_ #[23, 23] 23 #[vv, .slice (some ⟨g, 0, none⟩) 1 1]).run Tryz.prog X = .ok (.slice (some ⟨g1, 0, none⟩) (n + 1) c1) w1 ∧
      w1.ownsRow lo 26 6 (.slice (some ⟨g1, 0, none⟩) (n + 1) c1) (n + 1) (VS ++ cs) ∧ X.grownBy w1 vv.ownBlock ∧ (vv.ownBlock = some g1 ∨ g1 = X.heap.size) := by
  obtain ⟨i0, hi, hz0, hz1, hz2⟩ := info_parts info_value
  have := gX.size
  have hkept : X.ownsRow lo 26 6 vv n VS := by
    refine hV.kept gX ?_
    cases hv : vv.ownBlock with
    | none => exact .inl rfl
    | some b => exact .inr fun e => hrow b e.symm hv
  obtain ⟨g1, c1, w1, e1, h2, h3, h4, _⟩ := run_append_lies (P := Tryz.prog) (w := X) 23 23 lo 26 i0 _ 6 104 Tryz.underlying23 hi hz0 hz1 hz2 rfl (by decide) vv n VS hkept
    ⟨g, 0, none⟩ 1 1 cs (by rw [h6]) (fun j u hu => World.news_of_block (cs := cs.toArray) hg j u (by simpa using hu)) h1 (by decide) (by unfold maxLen; omega) (by omega) (by omega) _ rfl
  exact ⟨g1, c1, w1, e1, h2, h3, h4⟩
theorem exec_append {P : Program} {o : Oper} {a : Act} {s x : Operand} {t : TypeId} {v y u : Value} {X w1 : World} (ho : o.op = .call { callee := .builtin .append, args := #[s, x], argTypes := #[t, t] }) (hs : a.eval s = v) (hx : a.eval x = y)
    (hr : (Builtin.append_ #[t, t] o.type #[v, y]).run P X = .ok u w1) : (execOp a.eval o).run P X = .ok (.value u) w1 := by
  unfold execOp
  simp only [ho, resolve, invoke, builtin, Sem.run_bind, Sem.run_pure, Result.andThen_ok, List.map_toArray, List.map_cons, List.map_nil, hs, hx, hr]
theorem gnone {w w' : World} (h : w.grownBy w' none) {r : Option Nat} : w.grownBy w' r := ⟨h.os, h.tape, h.output, h.size, fun k hk _ => h.block k hk (by simp)⟩
theorem gup {w X w1 : World} {r : Option Nat} (h : w.grownBy X none) (ga : X.grownBy w1 r) : w.grownBy w1 r := (gnone h).trans ga
theorem sorted_at (w : World) (ks : List ByteArray) (vs : List V) (r : Nat) (E : Nat → Value) (hm : MapAt w r (toJM ks vs) E) (hlen : ks.length = vs.length)
    (rise : ∀ i (hi : i + 1 < ks.length), Op.bytesLess ks[i].toList ks[i + 1].toList = true) (hks : ks.length * 16 ≤ 140737488351232) :
    Calls Tryz.prog 53 #[.func (.func 65) #[] #[.pointer (some ⟨w.heap.size, 0, none⟩)]] (w.alloc (.cells #[.map (some r)] 52)) fun e w' =>
      ∃ la lc, e = .returned (.slice la ks.length lc) ∧ (0 < ks.length → ∃ g, la = some ⟨g, 0, none⟩ ∧ w.heap.size + 1 ≤ g ∧ g < w'.heap.size ∧ ∀ i (hi : i < ks.length), w'.cell? ⟨g, i, none⟩ = some (.string ks[i])) ∧ Below w.heap.size w w' := by
  obtain ⟨nn, hnn, hown⟩ := hm
  have hsz : Maps.size (DataW.map (entries (toJM ks vs) E)) = ks.length := by rw [Maps.size_eq, entries_len, toJM_len _ _ hlen]
  refine (sortedKeys_any r nn _ heldR w hown (by rw [hsz]; unfold maxLen; omega) (by rw [hsz]; omega)).mono ?_
  rintro e w' ⟨v, ss, rfl, hperm, hrow, hb⟩
  have ekeys : strKeys (DataW.map (entries (toJM ks vs) E)) = ks.map fun k => k.data.toList := by
    rw [strKeys_entries]
    apply List.ext_getElem
    · rw [List.length_map, List.length_map, toJM_len _ _ hlen]
    · intro i h1 h2
      rw [List.length_map] at h2
      rw [List.getElem_map, List.getElem_map, toJM_get _ _ hlen i h2]
  rw [ekeys] at hperm
  have hl : ss.length = ks.length := by rw [hperm.length_eq, List.length_map]
  rw [sort_perm hperm (keys_pairwise rise), enc_keys, hl] at hrow
  obtain ⟨la, lc, rfl, hc⟩ := keys_cells hrow
  refine ⟨la, lc, rfl, fun h0 => ?_, below_next (below_alloc1 w _) hb⟩
  obtain ⟨g, e1, e2, e3, e4⟩ := hc h0
  exact ⟨g, e1, by rw [size_alloc1] at e2; exact e2, e3, e4⟩
set_option maxHeartbeats 8000000 in
set_option maxRecDepth 100000 in
theorem mapFrom_of (w0 : World) (B : Nat) (ks : List ByteArray) (rise : ∀ i (hi : i + 1 < ks.length), Op.bytesLess ks[i].toList ks[i + 1].toList = true) (vs : List V) (r : Nat) (E : Nat → Value) (hr : r < B) (hm : MapAt w0 r (toJM ks vs) E) (hlen : ks.length = vs.length)
    (hks : ks.length * 16 ≤ 140737488351232) (hvs : vs.length * 104 ≤ 140737488351232) (hs : ∀ s ∈ ks, s.size ≤ 140737488351232)
    (ih : ∀ i (hi : i < vs.length), FromOK w0 B vs[i] (E i)) (w : World) (hbel : Below B w0 w) (hB : B ≤ w.heap.size) :
    Calls Tryz.prog 46 #[.map (some r)] w (FromP w (.mk 6 0 ⟨#[]⟩ [] ks vs)) := by
  obtain ⟨i0, hi, hz0, hz1, hz2⟩ := info_parts info_value
  obtain ⟨j0, ji, jz0, jz1, jz2⟩ := info_parts info_string
  have hb0 := below_alloc2 w (.cells #[.int .i64 0, .int .i64 0, .string ⟨#[]⟩, .slice none 0 0, .slice none 0 0, .slice none 0 0] 26) (.cells #[.int .i64 6, .int .i64 0, .string ⟨#[]⟩, .slice none 0 0, .slice none 0 0, .slice none 0 0] 26)
  have hat0 := at_alloc20 w (.cells #[.int .i64 0, .int .i64 0, .string ⟨#[]⟩, .slice none 0 0, .slice none 0 0, .slice none 0 0] 26) (.cells #[.int .i64 6, .int .i64 0, .string ⟨#[]⟩, .slice none 0 0, .slice none 0 0, .slice none 0 0] 26)
  have hat1 := at_alloc2 w (.cells #[.int .i64 0, .int .i64 0, .string ⟨#[]⟩, .slice none 0 0, .slice none 0 0, .slice none 0 0] 26) (.cells #[.int .i64 6, .int .i64 0, .string ⟨#[]⟩, .slice none 0 0, .slice none 0 0, .slice none 0 0] 26)
  have hsz : ((w.alloc (.cells #[.int .i64 0, .int .i64 0, .string ⟨#[]⟩, .slice none 0 0, .slice none 0 0, .slice none 0 0] 26)).alloc (.cells #[.int .i64 6, .int .i64 0, .string ⟨#[]⟩, .slice none 0 0, .slice none 0 0, .slice none 0 0] 26)).heap.size = w.heap.size + 1 + 1 := by simp
  have SK := sorted_at ((w.alloc (.cells #[.int .i64 0, .int .i64 0, .string ⟨#[]⟩, .slice none 0 0, .slice none 0 0, .slice none 0 0] 26)).alloc (.cells #[.int .i64 6, .int .i64 0, .string ⟨#[]⟩, .slice none 0 0, .slice none 0 0, .slice none 0 0] 26))
    ks vs r E (hm.carry ((hbel.trans (hb0.mono hB)).block r hr)) hlen rise hks
  rw [hsz] at SK
  have HSK := Lib.hid SK; clear SK
  have Hih := Lib.hid ih; clear ih
  have Hm := Lib.hid hm; clear hm
  have Hrise := Lib.hid rise; clear rise
  have Hbel := Lib.hid hbel; clear hbel
  have Hs := Lib.hid hs; clear hs
  have Hlen := Lib.hid hlen; clear hlen
  have Hb0 := Lib.hid hb0; clear hb0
  have Hat0 := Lib.hid hat0; clear hat0
  have Hat1 := Lib.hid hat1; clear hat1
  have Hsz := Lib.hid hsz; clear hsz
  go_enter Tryz.func46, Tryz.ntmps46
  go_wp2_with fail
  refine (mapsKeys_any _ _).mono ?_
  rintro e w1 ⟨rfl, rfl⟩
  go_wp2_with fail
  refine HSK.out.mono ?_
  rintro e w3 ⟨la, lc, rfl, hkr, hb3⟩
  have hW3 : Below w.heap.size w w3 := Hb0.out.trans (hb3.mono (by omega))
  have hr0 : w3.heap[w.heap.size]? = some (.cells #[.int .i64 0, .int .i64 0, .string ⟨#[]⟩, .slice none 0 0, .slice none 0 0, .slice none 0 0] 26) := (hb3.block _ (by omega)).trans Hat0.out
  have hout : OutM w3 (w.heap.size + 1) (.slice none 0 0) (.slice none 0 0) := (hb3.block _ (by omega)).trans Hat1.out
  have hs3 : w.heap.size + 2 ≤ w3.heap.size := by have := hb3.size; rw [Hsz.out] at this; omega
  have s0 : FromMLoop w3 w.heap.size ks vs (.int .i64 0) w3 := ⟨0, _, _, Nat.zero_le _, rfl, growr _ _, hout, MapRows.nil _ _⟩
  have S0 := Lib.hid s0; clear s0
  have Hkr := Lib.hid hkr; clear hkr
  have HW3 := Lib.hid hW3; clear hW3
  have Hr0 := Lib.hid hr0; clear hr0
  clear hout hb3 HSK
  go_wp2_with fail
  go_loopw [14] (fun i wr => FromMLoop w3 w.heap.size ks vs i wr) (fun i _ => ks.length - (intOf i).toNat)
  case atStart => exact S0.out
  case round =>
    clear S0
    obtain ⟨n, kv, vv, hn, rfl, hg3, hout, hrows⟩ := hrel
    have hsr : w3.heap.size ≤ wr.heap.size := hg3.size
    have hbw : Below w.heap.size w wr := HW3.out.grown hg3 (by omega) (fun q e => by cases e; omega)
    by_cases hn' : n < ks.length
    · obtain ⟨g0, rfl, hg0, hg1, hkc⟩ := Hkr.out (by omega)
      have hnv : n < vs.length := by rw [← Hlen.out]; exact hn'
      have hb0 : Below B w0 wr := Hbel.out.trans (hbw.mono hB)
      have hkey : wr.cell? ⟨g0, n, none⟩ = some (.string ks[n]) := (World.cell?_of_block (a := ⟨g0, n, none⟩) (hg3.block g0 hg1 (by simp; omega))).trans (hkc n hn')
      have hma : MapAt wr r (toJM ks vs) E := Hm.out.carry (hb0.block r hr)
      have hln : n < (toJM ks vs).length := by rw [toJM_len _ _ Hlen.out]; exact hn'
      have hget := hma.get (apart_toJM Hlen.out Hrise.out) hln (by rw [toJM_get _ _ Hlen.out n hn']; exact Hs.out _ (List.getElem_mem hn'))
      rw [toJM_get _ _ Hlen.out n hn'] at hget
      simp only at hget
      have ih := Hih.out n hnv wr hb0 (by omega)
      have HI := Lib.hid ih
      have Hrows := Lib.hid hrows
      have Hout := Lib.hid hout
      have Hg3 := Lib.hid hg3
      have Hbw := Lib.hid hbw
      obtain ⟨kn, hkn⟩ : ∃ kn, ks[n] = kn := ⟨_, rfl⟩
      rw [hkn] at hkey hget
      have Hkn := Lib.hid hkn
      clear hkn ih hrows hout hb0 hma hkc hg3 hbw hln
      go_wp2_with fail
      refine HI.out.mono ?_
      rintro e w2 ⟨cs, rfl, hx, hb2⟩
      clear hkey hget HI
      obtain ⟨k, h, t, la', ka', va', nl, cl, nk, ck, nv, cv, hcs⟩ := hx.shape
      have hx6 := hx.six
      have hx1 := hx.one
      have hs2 := hb2.size
      go_wp2_with fail
      have hbx := at_alloc w2 (.cells cs.toArray 26)
      have hbW := below_alloc1 w2 (.cells cs.toArray 26)
      have hsW := size_alloc1 w2 (.cells cs.toArray 26)
      subst hcs
      generalize w2.alloc _ = W at *
      have houtW : OutM W (w.heap.size + 1) kv vv := (hbW.block _ (by omega)).trans ((hb2.block _ (by omega)).trans Hout.out)
      have hr4 := Hrows.out.kept none (below_grown (hb2.trans (hbW.mono hs2)) none) (fun k e => by cases e)
      obtain ⟨C, F, hK, hV, hr1, hF, hd⟩ := hr4
      have hkl : (ks.take n).length = n := by rw [List.length_take]; omega
      have hvl : (vs.take n).length = n := by rw [List.length_take]; omega
      rw [hkl] at hK
      rw [hvl] at hV
      have hlk : ∀ g, kv.ownBlock = some g → w3.heap.size ≤ g ∧ g < wr.heap.size := by
        obtain ⟨_, _, hK', _⟩ := Hrows.out
        exact fun g hg => hK'.lt g hg
      have hlv : ∀ g, vv.ownBlock = some g → w3.heap.size ≤ g ∧ g < wr.heap.size := by
        obtain ⟨_, _, _, hV', _⟩ := Hrows.out
        exact fun g hg => hV'.lt g hg
      have hd2 : ∀ q, kv.ownBlock = some q → vv.ownBlock ≠ some q := hd
      have HK := Lib.hid hK
      have HV := Lib.hid hV
      have same : ∀ X, W.grownBy X kv.ownBlock → X.heap[w2.heap.size]? = W.heap[w2.heap.size]? ∧ X.heap[w.heap.size + 1]? = W.heap[w.heap.size + 1]? := fun X gX =>
        ⟨gX.block _ (by omega) (fun e => by have := hlk _ e.symm; omega), gX.block _ (by omega) (fun e => by have := hlk _ e.symm; omega)⟩
      have same0 : ∀ X, W.grownBy X none → X.heap[w2.heap.size]? = W.heap[w2.heap.size]? ∧ X.heap[w.heap.size + 1]? = W.heap[w.heap.size + 1]? := fun X gX =>
        ⟨gX.block _ (by omega) (by simp), gX.block _ (by omega) (by simp)⟩
      have same2 : ∀ X Y, W.grownBy X kv.ownBlock → X.grownBy Y vv.ownBlock → Y.heap[w2.heap.size]? = W.heap[w2.heap.size]? ∧ Y.heap[w.heap.size + 1]? = W.heap[w.heap.size + 1]? := fun X Y gX gY =>
        ⟨(gY.block _ (by have := gX.size; omega) (fun e => by have := hlv _ e.symm; omega)).trans (same X gX).1, (gY.block _ (by have := gX.size; omega) (fun e => by have := hlv _ e.symm; omega)).trans (same X gX).2⟩
      have hfin : ∀ X1 w1 X2 w5 g1 c1 g2 c2, W.grownBy X1 none → X1.grownBy w1 kv.ownBlock → w1.grownBy X2 none → X2.grownBy w5 vv.ownBlock →
          w1.ownsRow w3.heap.size 9 1 (.slice (some ⟨g1, 0, none⟩) (n + 1) c1) (n + 1) ((ks.take n).map .string ++ [.string kn]) → (kv.ownBlock = some g1 ∨ g1 = X1.heap.size) →
          w5.ownsRow w3.heap.size 26 6 (.slice (some ⟨g2, 0, none⟩) (n + 1) c2) (n + 1) (flat C n ++ [.int .i64 k, .int .i64 h, .string t, .slice la' nl cl, .slice ka' nk ck, .slice va' nv cv]) → (vv.ownBlock = some g2 ∨ g2 = X2.heap.size) →
          FromMLoop w3 w.heap.size ks vs (.int .i64 ((n : Int) + 1)) ((w5.setCell ⟨w.heap.size + 1, 4, none⟩ (.slice (some ⟨g1, 0, none⟩) (n + 1) c1)).setCell ⟨w.heap.size + 1, 5, none⟩ (.slice (some ⟨g2, 0, none⟩) (n + 1) c2)) := by
        intro X1 w1 X2 w5 g1 c1 g2 c2 gx ga gy gb ho1 hat1 ho2 hat2
        have hx4 := hx.carry (w' := W) (fun q hq => hbW.block q hq.2)
        have hstep := MapRows.step (W := W) (k := kn) (x := vs[n]) (ks := ks.take n) (vs := vs.take n) hr1 hF hd (fun g e => by have := hlv g e; omega) hx4
          (fun q hq => ⟨by have := hq.1; omega, by have := hq.2; omega, fun e => by have := hlv q e; have := hq.1; omega, fun e => by have := hlk q e; have := hq.1; omega⟩) gx ga gy gb
          (by rw [hkl]; exact ho1) hat1 (by rw [hvl]; exact ho2) hat2
        rw [hkl, hvl, ← take_snoc hnv, ← Hkn.out, ← List.take_succ_eq_append_getElem hn'] at hstep
        have gW : W.grownBy w1 kv.ownBlock := (show W.grownBy X1 kv.ownBlock from ⟨gx.os, gx.tape, gx.output, gx.size, fun q hq _ => gx.block q hq (by simp)⟩).trans ga
        have gW2 : W.grownBy X2 kv.ownBlock := gW.trans ⟨gy.os, gy.tape, gy.output, gy.size, fun q hq _ => gy.block q hq (by simp)⟩
        have hout5 : OutM w5 (w.heap.size + 1) kv vv := (same2 X2 w5 gW2 gb).2.trans houtW
        have s1 := gW2.size
        have s2 := gb.size
        have h35 : w3.grownBy w5 (some (w.heap.size + 1)) := by
          have hb4 : Below wr.heap.size wr W := hb2.trans (hbW.mono hs2)
          have g3 := Hg3.out
          refine ⟨gb.os.trans (gW2.os.trans (hb4.os.trans g3.os)), gb.tape.trans (gW2.tape.trans (hb4.tape.trans g3.tape)), gb.output.trans (gW2.output.trans (hb4.output.trans g3.output)), by omega, fun q hq hne => ?_⟩
          exact (gb.block q (by omega) (fun e => by have := hlv q e.symm; omega)).trans ((gW2.block q (by omega) (fun e => by have := hlk q e.symm; omega)).trans ((hb4.block q (by omega)).trans (g3.block q hq hne)))
        refine ⟨n + 1, .slice (some ⟨g1, 0, none⟩) (n + 1) c1, .slice (some ⟨g2, 0, none⟩) (n + 1) c2, by omega, rfl, (h35.trans (grown_setCell _ _ _ _)).trans (grown_setCell _ _ _ _), ?_, ?_⟩
        · have o1 : OutM (w5.setCell ⟨w.heap.size + 1, 4, none⟩ (.slice (some ⟨g1, 0, none⟩) (n + 1) c1)) (w.heap.size + 1) (.slice (some ⟨g1, 0, none⟩) (n + 1) c1) vv := heap_setCell_same _ _ 4 _ _ _ hout5
          exact heap_setCell_same _ _ 5 _ _ _ o1
        · exact (hstep.kept (some (w.heap.size + 1)) (grown_setCell _ _ _ _) (fun q e => by cases e; omega)).kept (some (w.heap.size + 1)) (grown_setCell _ _ _ _) (fun q e => by cases e; omega)
      have Hfin := Lib.hid hfin; clear hfin
      have Hsame := Lib.hid same; clear same
      have Hsame0 := Lib.hid same0; clear same0
      have Hsame2 := Lib.hid same2; clear same2
      clear hr1 hF hd hK hV hx
      refine wp_region_any (by kernel_rfl) (wpAny_of_G (S := fun j w' => if j = 7 ∨ j = 10 ∨ j = 11 then w'.heap[w2.heap.size]? = W.heap[w2.heap.size]? else if j = 12 ∨ j = 13 then True else w'.heap[w2.heap.size]? = W.heap[w2.heap.size]? ∧ w'.heap[w.heap.size + 1]? = W.heap[w.heap.size + 1]?) _ _ _ _ ?_)
      refine wpAnyG_take (i := 7) (v := .agg #[.int .i64 k, .int .i64 h, .string t, .slice la' nl cl, .slice ka' nk ck, .slice va' nv cv]) (T := fun w' => w'.heap[w2.heap.size]? = W.heap[w2.heap.size]?) (fun j => j != 12 && j != 13) rfl (by kernel_rfl) (by kernel_rfl) (by kernel_rfl) (fun _ _ _ h => h) ?_ ?_ rfl ?_ rfl ?_
      · intro j hj w' hS
        simp only [Bool.and_eq_true, bne_iff_ne] at hj
        by_cases c1 : j = 7 ∨ j = 10 ∨ j = 11
        · rw [if_pos c1] at hS; exact hS
        · rw [if_neg c1, if_neg (by omega)] at hS; exact hS.1
      · exact fun w' h => h
      · intro w' hw'
        obtain ⟨b0, b1, b2, b3, b4, b5⟩ := of_block6 (hw'.trans hbx)
        go_simp
      refine wpAnyG_take (i := 0) (v := .pointer (some ⟨w.heap.size + 1, 4, none⟩)) (T := fun w' => w'.heap[w2.heap.size]? = W.heap[w2.heap.size]? ∧ w'.heap[w.heap.size + 1]? = W.heap[w.heap.size + 1]?) (fun j => j != 7 && j != 10 && j != 11 && j != 12 && j != 13) rfl (by kernel_rfl) (by kernel_rfl) (by kernel_rfl) (fun _ _ _ h => h) ?_ ?_ rfl ?_ ⟨rfl, rfl⟩ ?_
      · intro j hj w' hS
        simp only [Bool.and_eq_true, bne_iff_ne] at hj
        rw [if_neg (by omega), if_neg (by omega)] at hS
        exact hS
      · exact fun w' h => h
      · intro w' hw'
        go_simp
      refine wpAnyG_take (i := 1) (v := kv) (T := fun w' => w'.heap[w2.heap.size]? = W.heap[w2.heap.size]? ∧ w'.heap[w.heap.size + 1]? = W.heap[w.heap.size + 1]?) (fun j => j != 7 && j != 10 && j != 11 && j != 12 && j != 13) rfl (by kernel_rfl) (by kernel_rfl) (by kernel_rfl) (fun _ _ _ h => h) ?_ ?_ rfl ?_ ⟨rfl, rfl⟩ ?_
      · intro j hj w' hS
        simp only [Bool.and_eq_true, bne_iff_ne] at hj
        rw [if_neg (by omega), if_neg (by omega)] at hS
        exact hS
      · exact fun w' h => h
      · intro w' hw'
        obtain ⟨b0, b1, b2, b3, b4, b5⟩ := of_block6 (hw'.2.trans houtW)
        go_simp
      refine wpAnyG_take (i := 2) (v := .string kn) (T := fun w' => w'.heap[w2.heap.size]? = W.heap[w2.heap.size]? ∧ w'.heap[w.heap.size + 1]? = W.heap[w.heap.size + 1]?) (fun j => j != 7 && j != 10 && j != 11 && j != 12 && j != 13) rfl (by kernel_rfl) (by kernel_rfl) (by kernel_rfl) (fun _ _ _ h => h) ?_ ?_ rfl ?_ ⟨rfl, rfl⟩ ?_
      · intro j hj w' hS
        simp only [Bool.and_eq_true, bne_iff_ne] at hj
        rw [if_neg (by omega), if_neg (by omega)] at hS
        exact hS
      · exact fun w' h => h
      · intro w' hw'
        go_simp
      refine wpAnyG_take (i := 5) (v := .pointer (some ⟨w.heap.size + 1, 5, none⟩)) (T := fun w' => w'.heap[w2.heap.size]? = W.heap[w2.heap.size]? ∧ w'.heap[w.heap.size + 1]? = W.heap[w.heap.size + 1]?) (fun j => j != 7 && j != 10 && j != 11 && j != 12 && j != 13) rfl (by kernel_rfl) (by kernel_rfl) (by kernel_rfl) (fun _ _ _ h => h) ?_ ?_ rfl ?_ ⟨rfl, rfl⟩ ?_
      · intro j hj w' hS
        simp only [Bool.and_eq_true, bne_iff_ne] at hj
        rw [if_neg (by omega), if_neg (by omega)] at hS
        exact hS
      · exact fun w' h => h
      · intro w' hw'
        go_simp
      refine wpAnyG_take (i := 6) (v := vv) (T := fun w' => w'.heap[w2.heap.size]? = W.heap[w2.heap.size]? ∧ w'.heap[w.heap.size + 1]? = W.heap[w.heap.size + 1]?) (fun j => j != 7 && j != 10 && j != 11 && j != 12 && j != 13) rfl (by kernel_rfl) (by kernel_rfl) (by kernel_rfl) (fun _ _ _ h => h) ?_ ?_ rfl ?_ ⟨rfl, rfl⟩ ?_
      · intro j hj w' hS
        simp only [Bool.and_eq_true, bne_iff_ne] at hj
        rw [if_neg (by omega), if_neg (by omega)] at hS
        exact hS
      · exact fun w' h => h
      · intro w' hw'
        obtain ⟨b0, b1, b2, b3, b4, b5⟩ := of_block6 (hw'.2.trans houtW)
        go_simp
      generalize hX0 : ({ W with drawn := W.drawn + 1 } : World) = X0
      have gX0 : W.grownBy X0 none := by subst hX0; exact grow0 W none
      clear hX0
      simp only [Act.put]
      try simp only [List.setIfInBounds_toArray]
      refine wpAnyG_all (rs := [3, 8]) (by kernel_rfl) (by simp) ?_
      intro i hi
      simp only [List.mem_cons, List.not_mem_nil, or_false] at hi
      rcases hi with rfl | rfl
      · refine wpOp_value (v := .slice (some ⟨(X0).heap.size, 0, none⟩) 1 1) (w' := (X0).alloc (.cells #[.string kn] 9)) rfl rfl (by go_simp) ⟨Hsame0.out _ (gX0.trans (World.grownBy_alloc X0 (.cells #[.string kn] 9) none)), ?_⟩
        simp only [Act.put]
        try simp only [List.setIfInBounds_toArray, set_cs]
        refine wpAnyG_all (rs := [4, 8]) (by kernel_rfl) (by simp) ?_
        intro i hi
        simp only [List.mem_cons, List.not_mem_nil, or_false] at hi
        rcases hi with rfl | rfl
        · obtain ⟨g1, c1, w1, e1, o1, ga, at1⟩ := app_keys (X := (X0.alloc (.cells #[.string kn] 9))) HK.out (gX0.trans (World.grownBy_alloc X0 (.cells #[.string kn] 9) none)) (g := X0.heap.size) (kn := kn) (at_alloc _ _) (by omega) (by omega)
          have gw1 := gup (gX0.trans (World.grownBy_alloc X0 (.cells #[.string kn] 9) none)) ga
          refine wpOp_value (v := .slice (some ⟨g1, 0, none⟩) (n + 1) c1) (w' := w1) rfl rfl (exec_append (s := .tmp 29) (x := .tmp 31) (t := 24) (v := kv) (y := .slice (some ⟨X0.heap.size, 0, none⟩) 1 1) rfl (by simp [Act.eval]) (by simp [Act.eval]) e1) ⟨Hsame.out _ gw1, ?_⟩
          clear e1
          simp only [Act.put]
          try simp only [List.setIfInBounds_toArray, set_cs]
          refine wpAnyG_take (i := 10) (v := .pointer (some ⟨w.heap.size + 1, 4, none⟩)) (T := fun w' => w'.heap[w2.heap.size]? = W.heap[w2.heap.size]?) (fun j => j != 12 && j != 13) rfl (by kernel_rfl) (by kernel_rfl) (by kernel_rfl) (fun _ _ _ h => h) ?_ (fun w' h => h) rfl (fun w' _ => by go_simp) (Hsame.out _ gw1).1 ?_
          · intro j hj w' hS
            simp only [Bool.and_eq_true, bne_iff_ne] at hj
            by_cases c1 : j = 7 ∨ j = 10 ∨ j = 11
            · rw [if_pos c1] at hS; exact hS
            · rw [if_neg c1, if_neg (by omega)] at hS; exact hS.1
          simp only [Act.put]
          try simp only [List.setIfInBounds_toArray, set_cs]
          refine wpAnyG_all (rs := [8]) (by kernel_rfl) (by simp) ?_
          intro i hi
          simp only [List.mem_cons, List.not_mem_nil, or_false] at hi
          subst hi
          refine wpOp_value (v := .slice (some ⟨(w1).heap.size, 0, none⟩) 1 1) (w' := (w1).alloc (.cells #[.int .i64 k, .int .i64 h, .string t, .slice la' nl cl, .slice ka' nk ck, .slice va' nv cv] 26)) rfl rfl (by go_simp) ⟨Hsame.out _ (gw1.trans (World.grownBy_alloc w1 (.cells #[.int .i64 k, .int .i64 h, .string t, .slice la' nl cl, .slice ka' nk ck, .slice va' nv cv] 26) _)), ?_⟩
          simp only [Act.put]
          try simp only [List.setIfInBounds_toArray, set_cs]
          refine wpAnyG_all (rs := [9]) (by kernel_rfl) (by simp) ?_
          intro i hi
          simp only [List.mem_cons, List.not_mem_nil, or_false] at hi
          subst hi
          obtain ⟨g2, c2, w5, e2, o2, gb, at2⟩ := app_vals (X := (w1.alloc (.cells #[.int .i64 k, .int .i64 h, .string t, .slice la' nl cl, .slice ka' nk ck, .slice va' nv cv] 26))) (cs := [.int .i64 k, .int .i64 h, .string t, .slice la' nl cl, .slice ka' nk ck, .slice va' nv cv]) HV.out (gw1.trans (gnone (World.grownBy_alloc w1 (.cells #[.int .i64 k, .int .i64 h, .string t, .slice la' nl cl, .slice ka' nk ck, .slice va' nv cv] 26) none))) hd2 (g := w1.heap.size) (at_alloc _ _) hx6 hx1 (by omega) (by omega)
          have hs5 := Hsame2.out _ _ (gw1.trans (gnone (World.grownBy_alloc w1 (.cells #[.int .i64 k, .int .i64 h, .string t, .slice la' nl cl, .slice ka' nk ck, .slice va' nv cv] 26) none))) gb
          have hF5 := Lib.hid (Hfin.out _ _ _ _ _ _ _ _ (gX0.trans (World.grownBy_alloc X0 (.cells #[.string kn] 9) none)) ga (World.grownBy_alloc w1 (.cells #[.int .i64 k, .int .i64 h, .string t, .slice la' nl cl, .slice ka' nk ck, .slice va' nv cv] 26) none) gb o1 at1 o2 at2)
          refine wpOp_value (v := .slice (some ⟨g2, 0, none⟩) (n + 1) c2) (w' := w5) rfl rfl (exec_append (s := .tmp 34) (x := .tmp 36) (t := 23) (v := vv) (y := .slice (some ⟨w1.heap.size, 0, none⟩) 1 1) rfl (by simp [Act.eval]) (by simp [Act.eval]) e2) ⟨hs5, ?_⟩
          obtain ⟨q0, q1, q2, q3, q4, q5⟩ := of_block6 (hs5.2.trans houtW)
          obtain ⟨r0, r1, r2, r3, r4, r5⟩ := free_block6 (hs5.2.trans houtW)
          have hbx5 : ∀ (v4 v5 : Value), (w5.setCell ⟨w.heap.size + 1, 4, none⟩ v4).heap[w2.heap.size]? = W.heap[w2.heap.size]? := fun v4 _ => (Below.heap_setCell _ _ _ _ (by simp; omega)).trans hs5.1
          have hs51 := Lib.hid hs5.1
          have Hbx5 := Lib.hid hbx5
          clear e2 o1 o2 ga gb at1 at2 gw1 hs5 hbx5
          simp only [Act.put]
          try simp only [List.setIfInBounds_toArray, set_cs]
          refine wpAnyG_all (rs := [11]) (by kernel_rfl) (by simp) ?_
          intro i hi
          simp only [List.mem_cons, List.not_mem_nil, or_false] at hi
          subst hi
          refine wpOp_skip (w' := w5.setCell ⟨w.heap.size + 1, 4, none⟩ (.slice (some ⟨g1, 0, none⟩) (n + 1) c1)) rfl rfl (by go_simp) ⟨Hbx5.out _ (.bool true), ?_⟩
          simp only [Act.put]
          try simp only [List.setIfInBounds_toArray, set_cs]
          refine wpAnyG_all (rs := [12]) (by kernel_rfl) (by simp) ?_
          intro i hi
          simp only [List.mem_cons, List.not_mem_nil, or_false] at hi
          subst hi
          refine wpOp_value (v := .pointer (some ⟨w.heap.size + 1, 5, none⟩)) (w' := w5.setCell ⟨w.heap.size + 1, 4, none⟩ (.slice (some ⟨g1, 0, none⟩) (n + 1) c1)) rfl rfl (by go_simp) ⟨trivial, ?_⟩
          simp only [Act.put]
          try simp only [List.setIfInBounds_toArray, set_cs]
          refine wpAnyG_all (rs := [13]) (by kernel_rfl) (by simp) ?_
          intro i hi
          simp only [List.mem_cons, List.not_mem_nil, or_false] at hi
          subst hi
          refine wpOp_skip (w' := (w5.setCell ⟨w.heap.size + 1, 4, none⟩ (.slice (some ⟨g1, 0, none⟩) (n + 1) c1)).setCell ⟨w.heap.size + 1, 5, none⟩ (.slice (some ⟨g2, 0, none⟩) (n + 1) c2)) rfl rfl (by go_simp) ⟨trivial, ?_⟩
          refine wpAnyG_done (by kernel_rfl) ?_
          simp only [Act.put]
          try simp only [List.setIfInBounds_toArray, set_cs]
          go_wp2_with fail
          go_roundw
          case rel => exact hF5.out
          case measure => simp [intOf]; omega
        · refine wpOp_value (v := .slice (some ⟨(X0.alloc (.cells #[.string kn] 9)).heap.size, 0, none⟩) 1 1) (w' := (X0.alloc (.cells #[.string kn] 9)).alloc (.cells #[.int .i64 k, .int .i64 h, .string t, .slice la' nl cl, .slice ka' nk ck, .slice va' nv cv] 26)) rfl rfl (by go_simp) ⟨Hsame0.out _ ((gX0.trans (World.grownBy_alloc X0 (.cells #[.string kn] 9) none)).trans (World.grownBy_alloc (X0.alloc (.cells #[.string kn] 9)) (.cells #[.int .i64 k, .int .i64 h, .string t, .slice la' nl cl, .slice ka' nk ck, .slice va' nv cv] 26) none)), ?_⟩
          simp only [Act.put]
          try simp only [List.setIfInBounds_toArray, set_cs]
          refine wpAnyG_all (rs := [4]) (by kernel_rfl) (by simp) ?_
          intro i hi
          simp only [List.mem_cons, List.not_mem_nil, or_false] at hi
          subst hi
          obtain ⟨g1, c1, w1, e1, o1, ga, at1⟩ := app_keys (X := ((X0.alloc (.cells #[.string kn] 9)).alloc (.cells #[.int .i64 k, .int .i64 h, .string t, .slice la' nl cl, .slice ka' nk ck, .slice va' nv cv] 26))) HK.out ((gX0.trans (World.grownBy_alloc X0 (.cells #[.string kn] 9) none)).trans (World.grownBy_alloc (X0.alloc (.cells #[.string kn] 9)) (.cells #[.int .i64 k, .int .i64 h, .string t, .slice la' nl cl, .slice ka' nk ck, .slice va' nv cv] 26) none)) (g := X0.heap.size) (kn := kn) (at_alloc20 _ _ _) (by omega) (by omega)
          have gw1 := gup ((gX0.trans (World.grownBy_alloc X0 (.cells #[.string kn] 9) none)).trans (World.grownBy_alloc (X0.alloc (.cells #[.string kn] 9)) (.cells #[.int .i64 k, .int .i64 h, .string t, .slice la' nl cl, .slice ka' nk ck, .slice va' nv cv] 26) none)) ga
          refine wpOp_value (v := .slice (some ⟨g1, 0, none⟩) (n + 1) c1) (w' := w1) rfl rfl (exec_append (s := .tmp 29) (x := .tmp 31) (t := 24) (v := kv) (y := .slice (some ⟨X0.heap.size, 0, none⟩) 1 1) rfl (by simp [Act.eval]) (by simp [Act.eval]) e1) ⟨Hsame.out _ gw1, ?_⟩
          clear e1
          simp only [Act.put]
          try simp only [List.setIfInBounds_toArray, set_cs]
          refine wpAnyG_take (i := 10) (v := .pointer (some ⟨w.heap.size + 1, 4, none⟩)) (T := fun w' => w'.heap[w2.heap.size]? = W.heap[w2.heap.size]?) (fun j => j != 12 && j != 13) rfl (by kernel_rfl) (by kernel_rfl) (by kernel_rfl) (fun _ _ _ h => h) ?_ (fun w' h => h) rfl (fun w' _ => by go_simp) (Hsame.out _ gw1).1 ?_
          · intro j hj w' hS
            simp only [Bool.and_eq_true, bne_iff_ne] at hj
            by_cases c1 : j = 7 ∨ j = 10 ∨ j = 11
            · rw [if_pos c1] at hS; exact hS
            · rw [if_neg c1, if_neg (by omega)] at hS; exact hS.1
          simp only [Act.put]
          try simp only [List.setIfInBounds_toArray, set_cs]
          refine wpAnyG_all (rs := [9]) (by kernel_rfl) (by simp) ?_
          intro i hi
          simp only [List.mem_cons, List.not_mem_nil, or_false] at hi
          subst hi
          obtain ⟨g2, c2, w5, e2, o2, gb, at2⟩ := app_vals (X := w1) (cs := [.int .i64 k, .int .i64 h, .string t, .slice la' nl cl, .slice ka' nk ck, .slice va' nv cv]) HV.out (gw1.trans (gnone (growr w1 none))) hd2 (g := X0.heap.size + 1) ((ga.block _ (by simp) (fun e => by have := hlk _ e.symm; have := gX0.size; omega)).trans (at_alloc2 _ _ _)) hx6 hx1 (by omega) (by omega)
          have hs5 := Hsame2.out _ _ (gw1.trans (gnone (growr w1 none))) gb
          have hF5 := Lib.hid (Hfin.out _ _ _ _ _ _ _ _ ((gX0.trans (World.grownBy_alloc X0 (.cells #[.string kn] 9) none)).trans (World.grownBy_alloc (X0.alloc (.cells #[.string kn] 9)) (.cells #[.int .i64 k, .int .i64 h, .string t, .slice la' nl cl, .slice ka' nk ck, .slice va' nv cv] 26) none)) ga (growr w1 none) gb o1 at1 o2 at2)
          refine wpOp_value (v := .slice (some ⟨g2, 0, none⟩) (n + 1) c2) (w' := w5) rfl rfl (exec_append (s := .tmp 34) (x := .tmp 36) (t := 23) (v := vv) (y := .slice (some ⟨X0.heap.size + 1, 0, none⟩) 1 1) rfl (by simp [Act.eval]) (by simp [Act.eval]) e2) ⟨hs5, ?_⟩
          obtain ⟨q0, q1, q2, q3, q4, q5⟩ := of_block6 (hs5.2.trans houtW)
          obtain ⟨r0, r1, r2, r3, r4, r5⟩ := free_block6 (hs5.2.trans houtW)
          have hbx5 : ∀ (v4 v5 : Value), (w5.setCell ⟨w.heap.size + 1, 4, none⟩ v4).heap[w2.heap.size]? = W.heap[w2.heap.size]? := fun v4 _ => (Below.heap_setCell _ _ _ _ (by simp; omega)).trans hs5.1
          have hs51 := Lib.hid hs5.1
          have Hbx5 := Lib.hid hbx5
          clear e2 o1 o2 ga gb at1 at2 gw1 hs5 hbx5
          simp only [Act.put]
          try simp only [List.setIfInBounds_toArray, set_cs]
          refine wpAnyG_all (rs := [11]) (by kernel_rfl) (by simp) ?_
          intro i hi
          simp only [List.mem_cons, List.not_mem_nil, or_false] at hi
          subst hi
          refine wpOp_skip (w' := w5.setCell ⟨w.heap.size + 1, 4, none⟩ (.slice (some ⟨g1, 0, none⟩) (n + 1) c1)) rfl rfl (by go_simp) ⟨Hbx5.out _ (.bool true), ?_⟩
          simp only [Act.put]
          try simp only [List.setIfInBounds_toArray, set_cs]
          refine wpAnyG_all (rs := [12]) (by kernel_rfl) (by simp) ?_
          intro i hi
          simp only [List.mem_cons, List.not_mem_nil, or_false] at hi
          subst hi
          refine wpOp_value (v := .pointer (some ⟨w.heap.size + 1, 5, none⟩)) (w' := w5.setCell ⟨w.heap.size + 1, 4, none⟩ (.slice (some ⟨g1, 0, none⟩) (n + 1) c1)) rfl rfl (by go_simp) ⟨trivial, ?_⟩
          simp only [Act.put]
          try simp only [List.setIfInBounds_toArray, set_cs]
          refine wpAnyG_all (rs := [13]) (by kernel_rfl) (by simp) ?_
          intro i hi
          simp only [List.mem_cons, List.not_mem_nil, or_false] at hi
          subst hi
          refine wpOp_skip (w' := (w5.setCell ⟨w.heap.size + 1, 4, none⟩ (.slice (some ⟨g1, 0, none⟩) (n + 1) c1)).setCell ⟨w.heap.size + 1, 5, none⟩ (.slice (some ⟨g2, 0, none⟩) (n + 1) c2)) rfl rfl (by go_simp) ⟨trivial, ?_⟩
          refine wpAnyG_done (by kernel_rfl) ?_
          simp only [Act.put]
          try simp only [List.setIfInBounds_toArray, set_cs]
          go_wp2_with fail
          go_roundw
          case rel => exact hF5.out
          case measure => simp [intOf]; omega
      · refine wpOp_value (v := .slice (some ⟨(X0).heap.size, 0, none⟩) 1 1) (w' := (X0).alloc (.cells #[.int .i64 k, .int .i64 h, .string t, .slice la' nl cl, .slice ka' nk ck, .slice va' nv cv] 26)) rfl rfl (by go_simp) ⟨Hsame0.out _ (gX0.trans (World.grownBy_alloc X0 (.cells #[.int .i64 k, .int .i64 h, .string t, .slice la' nl cl, .slice ka' nk ck, .slice va' nv cv] 26) none)), ?_⟩
        simp only [Act.put]
        try simp only [List.setIfInBounds_toArray, set_cs]
        refine wpAnyG_all (rs := [3]) (by kernel_rfl) (by simp) ?_
        intro i hi
        simp only [List.mem_cons, List.not_mem_nil, or_false] at hi
        subst hi
        refine wpOp_value (v := .slice (some ⟨(X0.alloc (.cells #[.int .i64 k, .int .i64 h, .string t, .slice la' nl cl, .slice ka' nk ck, .slice va' nv cv] 26)).heap.size, 0, none⟩) 1 1) (w' := (X0.alloc (.cells #[.int .i64 k, .int .i64 h, .string t, .slice la' nl cl, .slice ka' nk ck, .slice va' nv cv] 26)).alloc (.cells #[.string kn] 9)) rfl rfl (by go_simp) ⟨Hsame0.out _ ((gX0.trans (World.grownBy_alloc X0 (.cells #[.int .i64 k, .int .i64 h, .string t, .slice la' nl cl, .slice ka' nk ck, .slice va' nv cv] 26) none)).trans (World.grownBy_alloc (X0.alloc (.cells #[.int .i64 k, .int .i64 h, .string t, .slice la' nl cl, .slice ka' nk ck, .slice va' nv cv] 26)) (.cells #[.string kn] 9) none)), ?_⟩
        simp only [Act.put]
        try simp only [List.setIfInBounds_toArray, set_cs]
        refine wpAnyG_all (rs := [4]) (by kernel_rfl) (by simp) ?_
        intro i hi
        simp only [List.mem_cons, List.not_mem_nil, or_false] at hi
        subst hi
        obtain ⟨g1, c1, w1, e1, o1, ga, at1⟩ := app_keys (X := ((X0.alloc (.cells #[.int .i64 k, .int .i64 h, .string t, .slice la' nl cl, .slice ka' nk ck, .slice va' nv cv] 26)).alloc (.cells #[.string kn] 9))) HK.out ((gX0.trans (World.grownBy_alloc X0 (.cells #[.int .i64 k, .int .i64 h, .string t, .slice la' nl cl, .slice ka' nk ck, .slice va' nv cv] 26) none)).trans (World.grownBy_alloc (X0.alloc (.cells #[.int .i64 k, .int .i64 h, .string t, .slice la' nl cl, .slice ka' nk ck, .slice va' nv cv] 26)) (.cells #[.string kn] 9) none)) (g := X0.heap.size + 1) (kn := kn) (at_alloc2 _ _ _) (by omega) (by omega)
        have gw1 := gup ((gX0.trans (World.grownBy_alloc X0 (.cells #[.int .i64 k, .int .i64 h, .string t, .slice la' nl cl, .slice ka' nk ck, .slice va' nv cv] 26) none)).trans (World.grownBy_alloc (X0.alloc (.cells #[.int .i64 k, .int .i64 h, .string t, .slice la' nl cl, .slice ka' nk ck, .slice va' nv cv] 26)) (.cells #[.string kn] 9) none)) ga
        refine wpOp_value (v := .slice (some ⟨g1, 0, none⟩) (n + 1) c1) (w' := w1) rfl rfl (exec_append (s := .tmp 29) (x := .tmp 31) (t := 24) (v := kv) (y := .slice (some ⟨X0.heap.size + 1, 0, none⟩) 1 1) rfl (by simp [Act.eval]) (by simp [Act.eval]) e1) ⟨Hsame.out _ gw1, ?_⟩
        clear e1
        simp only [Act.put]
        try simp only [List.setIfInBounds_toArray, set_cs]
        refine wpAnyG_take (i := 10) (v := .pointer (some ⟨w.heap.size + 1, 4, none⟩)) (T := fun w' => w'.heap[w2.heap.size]? = W.heap[w2.heap.size]?) (fun j => j != 12 && j != 13) rfl (by kernel_rfl) (by kernel_rfl) (by kernel_rfl) (fun _ _ _ h => h) ?_ (fun w' h => h) rfl (fun w' _ => by go_simp) (Hsame.out _ gw1).1 ?_
        · intro j hj w' hS
          simp only [Bool.and_eq_true, bne_iff_ne] at hj
          by_cases c1 : j = 7 ∨ j = 10 ∨ j = 11
          · rw [if_pos c1] at hS; exact hS
          · rw [if_neg c1, if_neg (by omega)] at hS; exact hS.1
        simp only [Act.put]
        try simp only [List.setIfInBounds_toArray, set_cs]
        refine wpAnyG_all (rs := [9]) (by kernel_rfl) (by simp) ?_
        intro i hi
        simp only [List.mem_cons, List.not_mem_nil, or_false] at hi
        subst hi
        obtain ⟨g2, c2, w5, e2, o2, gb, at2⟩ := app_vals (X := w1) (cs := [.int .i64 k, .int .i64 h, .string t, .slice la' nl cl, .slice ka' nk ck, .slice va' nv cv]) HV.out (gw1.trans (gnone (growr w1 none))) hd2 (g := X0.heap.size) ((ga.block _ (by simp; omega) (fun e => by have := hlk _ e.symm; have := gX0.size; omega)).trans (at_alloc20 _ _ _)) hx6 hx1 (by omega) (by omega)
        have hs5 := Hsame2.out _ _ (gw1.trans (gnone (growr w1 none))) gb
        have hF5 := Lib.hid (Hfin.out _ _ _ _ _ _ _ _ ((gX0.trans (World.grownBy_alloc X0 (.cells #[.int .i64 k, .int .i64 h, .string t, .slice la' nl cl, .slice ka' nk ck, .slice va' nv cv] 26) none)).trans (World.grownBy_alloc (X0.alloc (.cells #[.int .i64 k, .int .i64 h, .string t, .slice la' nl cl, .slice ka' nk ck, .slice va' nv cv] 26)) (.cells #[.string kn] 9) none)) ga (growr w1 none) gb o1 at1 o2 at2)
        refine wpOp_value (v := .slice (some ⟨g2, 0, none⟩) (n + 1) c2) (w' := w5) rfl rfl (exec_append (s := .tmp 34) (x := .tmp 36) (t := 23) (v := vv) (y := .slice (some ⟨X0.heap.size, 0, none⟩) 1 1) rfl (by simp [Act.eval]) (by simp [Act.eval]) e2) ⟨hs5, ?_⟩
        obtain ⟨q0, q1, q2, q3, q4, q5⟩ := of_block6 (hs5.2.trans houtW)
        obtain ⟨r0, r1, r2, r3, r4, r5⟩ := free_block6 (hs5.2.trans houtW)
        have hbx5 : ∀ (v4 v5 : Value), (w5.setCell ⟨w.heap.size + 1, 4, none⟩ v4).heap[w2.heap.size]? = W.heap[w2.heap.size]? := fun v4 _ => (Below.heap_setCell _ _ _ _ (by simp; omega)).trans hs5.1
        have hs51 := Lib.hid hs5.1
        have Hbx5 := Lib.hid hbx5
        clear e2 o1 o2 ga gb at1 at2 gw1 hs5 hbx5
        simp only [Act.put]
        try simp only [List.setIfInBounds_toArray, set_cs]
        refine wpAnyG_all (rs := [11]) (by kernel_rfl) (by simp) ?_
        intro i hi
        simp only [List.mem_cons, List.not_mem_nil, or_false] at hi
        subst hi
        refine wpOp_skip (w' := w5.setCell ⟨w.heap.size + 1, 4, none⟩ (.slice (some ⟨g1, 0, none⟩) (n + 1) c1)) rfl rfl (by go_simp) ⟨Hbx5.out _ (.bool true), ?_⟩
        simp only [Act.put]
        try simp only [List.setIfInBounds_toArray, set_cs]
        refine wpAnyG_all (rs := [12]) (by kernel_rfl) (by simp) ?_
        intro i hi
        simp only [List.mem_cons, List.not_mem_nil, or_false] at hi
        subst hi
        refine wpOp_value (v := .pointer (some ⟨w.heap.size + 1, 5, none⟩)) (w' := w5.setCell ⟨w.heap.size + 1, 4, none⟩ (.slice (some ⟨g1, 0, none⟩) (n + 1) c1)) rfl rfl (by go_simp) ⟨trivial, ?_⟩
        simp only [Act.put]
        try simp only [List.setIfInBounds_toArray, set_cs]
        refine wpAnyG_all (rs := [13]) (by kernel_rfl) (by simp) ?_
        intro i hi
        simp only [List.mem_cons, List.not_mem_nil, or_false] at hi
        subst hi
        refine wpOp_skip (w' := (w5.setCell ⟨w.heap.size + 1, 4, none⟩ (.slice (some ⟨g1, 0, none⟩) (n + 1) c1)).setCell ⟨w.heap.size + 1, 5, none⟩ (.slice (some ⟨g2, 0, none⟩) (n + 1) c2)) rfl rfl (by go_simp) ⟨trivial, ?_⟩
        refine wpAnyG_done (by kernel_rfl) ?_
        simp only [Act.put]
        try simp only [List.setIfInBounds_toArray, set_cs]
        go_wp2_with fail
        go_roundw
        case rel => exact hF5.out
        case measure => simp [intOf]; omega
    · -- the end
      clear Hih Hm
      have e : n = ks.length := by omega
      have e' : n = vs.length := by rw [e]; exact Hlen.out
      rw [show ks.take n = ks from by rw [e]; exact List.take_length, show vs.take n = vs from by rw [e']; exact List.take_length] at hrows
      obtain ⟨hkrow, hvrow⟩ := hrows.rows
      obtain ⟨ka, kc, va, vc, rfl, rfl, hrep⟩ := RowS.map hkrow hvrow (Nat.le_refl _) (Nat.le_refl _) hks hvs Hs.out
      have hr0 : wr.heap[w.heap.size]? = some (.cells #[.int .i64 0, .int .i64 0, .string ⟨#[]⟩, .slice none 0 0, .slice none 0 0, .slice none 0 0] 26) := (hg3.block _ (by omega) (by simp)).trans Hr0.out
      obtain ⟨x0, x1, x2, x3, x4, x5⟩ := of_block6 hout
      obtain ⟨y0, y1, y2, y3, y4, y5⟩ := of_block6 hr0
      obtain ⟨f0, f1, f2, f3, f4, f5⟩ := free_block6 hr0
      have hfin := below_set6 hbw (Nat.le_refl _) (.int .i64 6) (.int .i64 0) (.string ⟨#[]⟩) (.slice none 0 0) (.slice ka ks.length kc) (.slice va vs.length vc)
      have hset := set_row6 hr0 (.int .i64 6) (.int .i64 0) (.string ⟨#[]⟩) (.slice none 0 0) (.slice ka ks.length kc) (.slice va vs.length vc)
      have hP : FromP w (.mk 6 0 ⟨#[]⟩ [] ks vs) (.returned (.tuple #[.agg #[.int .i64 6, .int .i64 0, .string ⟨#[]⟩, .slice none 0 0, .slice ka ks.length kc, .slice va vs.length vc], .bool true]))
          ((((((wr.setCell ⟨w.heap.size, 0, none⟩ (.int .i64 6)).setCell ⟨w.heap.size, 1, none⟩ (.int .i64 0)).setCell ⟨w.heap.size, 2, none⟩ (.string ⟨#[]⟩)).setCell ⟨w.heap.size, 3, none⟩ (.slice none 0 0)).setCell ⟨w.heap.size, 4, none⟩ (.slice ka ks.length kc)).setCell ⟨w.heap.size, 5, none⟩ (.slice va vs.length vc)) := by
        refine ⟨_, rfl, (hrep.turn fun k hk => ⟨?_, ?_⟩), hfin⟩
        · exact set6_other _ _ _ _ _ _ _ _ _ (by omega)
        · rw [set6_size]
          exact ⟨by omega, hk.2⟩
      have HP := Lib.hid hP
      have Hset := Lib.hid hset
      clear hP hset hfin hrep hrows hkrow hvrow hout hr0 hbw hg3 Hbel
      go_wp2_with fail
      exact bodyPost_ret (results_row_tmp (p := 2) (u := 3) (ty := 26) rfl _ _ w.heap.size 26 _ (0, 0) _ rfl Hset.out Tryz.underlying26 rfl (by kernel_rfl)) rfl HP.out
end Go.Proofs.YtpaebanmaboaiaaGreatDoor
