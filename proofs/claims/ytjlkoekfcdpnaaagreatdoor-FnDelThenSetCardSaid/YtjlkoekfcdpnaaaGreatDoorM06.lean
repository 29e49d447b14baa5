/- Contracts of gojq.updateArrayIndex and update. -/
/- A range over a map whose round stores at a key that is there: which entries are still to come does not change. (The library has the round that deletes and the one that stores elsewhere.) -/
/- Plain: what is left of a value without some of its parts (Rest), and trees with holes (Holed): what gojq.deleteEmpty makes of them. -/
/- Plain: trees with holes, and what is left when the holes are taken out. -/
import Derived.Test.YtjlkoekfcdpnaaaGreatDoorM05
import Derived.Maps.RangeWalk
import Derived.Maps.Keyed
import Derived.Test.YtjlkoekfcdpnaaaGreatDoorM03
namespace Go.Proofs.YtjlkoekfcdpnaaaGreatDoor
open Go Go.RowKit Go.Maps Go.Deep Go.WideMaps
def nullP : Part := ⟨.null, .nilIface, fun _ => False⟩
def padP (t : List Part) (i : Nat) (a : Part) : List Part := (t ++ List.replicate (i + 1 - t.length) nullP).set i a
theorem padP_len (t : List Part) (i : Nat) (a : Part) : (padP t i a).length = max t.length (i + 1) := by
  unfold padP; simp; omega
theorem padP_j (t : List Part) (i : Nat) (a : Part) : (padP t i a).map (·.j) = padJ (t.map (·.j)) i a.j := by
  unfold padP padJ
  rw [List.map_set, List.map_append, List.map_replicate, List.length_map]
  rfl
theorem padP_get (t : List Part) (i : Nat) (a : Part) (j : Nat) (hj : j < (padP t i a).length) : (padP t i a)[j] = if i = j then a else (t[j]?).getD nullP := by
  unfold padP at hj ⊢
  rw [List.getElem_set]
  split
  · rfl
  · by_cases h : j < t.length
    · rw [List.getElem_append_left h]; simp [h]
    · rw [List.getElem_append_right (by omega)]; simp [h]
theorem padP_mem {t : List Part} {i : Nat} {a x : Part} (h : x ∈ padP t i a) : x = a ∨ x ∈ t ∨ x = nullP := by
  obtain ⟨j, hj, rfl⟩ := List.mem_iff_getElem.1 h
  rw [padP_get]
  split
  · exact .inl rfl
  · by_cases h : j < t.length
    · exact .inr (.inl (by simp [h]))
    · exact .inr (.inr (by simp [h]))
def OffP (x y : Part) : Prop := ∀ k, x.f k → y.f k → False
theorem padP_pair {t : List Part} {i : Nat} {a : Part} (hp : t.Pairwise OffP) (ha : ∀ j (hj : j < t.length), j ≠ i → OffP t[j] a) : (padP t i a).Pairwise OffP := by
  rw [List.pairwise_iff_getElem]
  intro p q hp1 hq1 hpq
  rw [padP_get, padP_get]
  by_cases e1 : i = p
  · subst e1
    rw [if_pos rfl, if_neg (by omega)]
    by_cases hq : q < t.length
    · simp only [List.getElem?_eq_getElem hq, Option.getD_some]
      exact fun k h1 h2 => ha q hq (by omega) k h2 h1
    · intro k h1 h2
      simp [hq, nullP] at h2
  · rw [if_neg e1]
    by_cases hp2 : p < t.length
    · simp only [List.getElem?_eq_getElem hp2, Option.getD_some]
      by_cases e2 : i = q
      · rw [if_pos e2]; exact ha p hp2 (by omega)
      · rw [if_neg e2]
        by_cases hq : q < t.length
        · simp only [List.getElem?_eq_getElem hq, Option.getD_some]
          exact List.pairwise_iff_getElem.1 hp p q hp2 hq hpq
        · intro k h1 h2
          simp [hq, nullP] at h2
    · intro k h1 h2
      simp [hp2, nullP] at h1
theorem setA_upd {w w' : World} {S T Fa : Nat → Prop} {o : Option J} {i c : Nat} {t : List Part} {e : Ending} (h : SetA w Fa T o i c t e w') (hi : i ≤ 1000) (htl : t.length ≤ 2000000000000) (hcb : c ≤ capMax)
    (hx : ∀ x ∈ t, (∀ q, x.f q → S q) ∧ RepJ w x.f x.j x.v) (hp : t.Pairwise OffP) (hFa : ∀ q, Fa q → S q) (hFo : ∀ j (hj : j < t.length), j ≠ i → ∀ q, Fa q → t[j].f q → False)
    (hd : ∀ q, S q → T q → False) (hS : ∀ q, S q → q < w.heap.size) (hT : ∀ q, T q → q < w.heap.size) : UpdR w S T (o.map fun z => .arr (padJ (t.map (·.j)) i z)) e w' := by
  rcases h with ⟨rfl, er, he, rfl, hb⟩ | ⟨z, u, w1, bd, f, rfl, rfl, hr, hb1, hb2, hbd, hrow, hf⟩
  · exact updR_none hb he
  · have hs1 := hb1.size
    have hs2 := hb2.size
    have hb := hb1.trans (hb2.mono hs1)
    have hlt := hrow.lt
    have hbdw : w.heap.size ≤ bd := by omega
    have hlen := padP_len t i ⟨z, u, NewS Fa T w w1⟩
    refine updR_some hb ?_
    have hj := padP_j t i ⟨z, u, NewS Fa T w w1⟩
    simp only at hj
    show RepJ w' (NewS S T w w') (.arr (padJ (t.map (·.j)) i z)) _
    rw [← hj, ← hlen]
    have hcap : max (max t.length (i + 1)) c ≤ capMax := by unfold capMax at hcb ⊢; omega
    refine arr_close (f := f) (N := max (max t.length (i + 1)) c) (by rw [hlen]; omega) (by rw [hlen]; omega) (by rw [hlen]; exact hcap) (.inr (.inr ⟨hbdw, hlt⟩)) hrow (by rw [hlen]; omega) (fun j hj => ?_) (fun x hxm => ?_) (padP_pair hp fun j hj hne q h1 h2 => ?_)
    · rw [hf j (by rw [← hlen]; exact hj), padP_get]
      by_cases e : i = j
      · rw [if_pos e, if_pos e.symm]
      · rw [if_neg e, if_neg (Ne.symm e)]
        unfold valAt
        by_cases h : j < t.length
        · simp [h]
        · simp [h, nullP]
    · rcases padP_mem hxm with rfl | hxm | rfl
      · refine ⟨fun hq => ?_, fun q hq => ?_, hr.carry fun q hq => hb2.block q ?_⟩
        · rcases hq with hq | hq | hq
          · have := hS _ (hFa _ hq); omega
          · have := hT _ hq; omega
          · omega
        · rcases hq with hq | hq | hq
          · exact .inl (hFa _ hq)
          · exact .inr (.inl hq)
          · exact .inr (.inr ⟨hq.1, by omega⟩)
        · rcases hq with hq | hq | hq
          · have := hS _ (hFa _ hq); omega
          · have := hT _ hq; omega
          · omega
      · obtain ⟨h2, h3⟩ := hx x hxm
        exact ⟨fun hq => by have := hS _ (h2 _ hq); omega, fun q hq => .inl (h2 q hq), h3.carry fun q hq => hb.block q (hS _ (h2 _ hq))⟩
      · exact ⟨fun h => h, fun q h => h.elim, .null _⟩
    · have h3 := (hx _ (List.getElem_mem hj)).1 q h1
      rcases h2 with h2 | h2 | h2
      · exact hFo j hj hne q h2 h1
      · exact hd q h3 h2
      · have := hS _ h3; omega
theorem rep_one {w : World} {S : Nat → Prop} {j : J} {v : Value} (h : RepJ w S j v) : v.oneCell' = true := by
  cases h <;> rfl
theorem updArr_nil {am : Option Nat} {i : Nat} {p : List Stp} {n : J} {y pv : Value} {S T : Nat → Prop} {w : World} (hi : i ≤ 1000) (hy : RepJ w T n y) (hd : ∀ q, S q → T q → False) (hS : ∀ q, S q → q < w.heap.size) (hT : ∀ q, T q → q < w.heap.size) (hp : StpsAt w pv p) (IH : UpdOK am p n y) :
    Calls Tryz.prog 62 #[.slice none 0 0, .int .i64 i, pv, y, .map am] w (UpdR w S T (updJ .null (.idx i :: p) n)) := by
  have hf := hole_form hy
  have hu := IH .null .nilIface pv (fun _ => False) T w .null (fine_null p n) (.null _) hy (fun _ h => h.elim) (fun _ h => h.elim) hT hp
  obtain ⟨pa, pc, epv, _⟩ := hp
  rcases hf with ⟨hh, rfl⟩ | ⟨hh, hy2⟩
  · have e : updJ .null (.idx i :: p) n = some .null := by simp [updJ, hh]
    rw [e]
    have q0 := eql_hole w
    have q1 := eqs_nil 0 0 w
    have hcl := clamp_any i (-1) 0 (by omega) (by omega) w
    have ec := clamp_pad i 0
    simp only [Nat.not_lt_zero, if_false] at ec
    rw [show ((0 : Nat) : Int) = 0 from rfl] at ec
    rw [ec] at hcl
    clear hu
    subst epv
    go_enter Tryz.func62, Tryz.ntmps62
    go_wp2_with fail
    refine hcl.mono ?_
    rintro e w1 ⟨rfl, rfl⟩
    go_wp2_with fail
    go_ret2
    exact updR_some (Below.refl _ _) (.null _)
  · have e : updJ .null (.idx i :: p) n = (updJ .null p n).map fun u => .arr (padJ (([] : List Part).map (·.j)) i u) := by simp [updJ, hh]
    rw [e]
    exact (updArr_walk (S := fun _ => False) (t := []) (a := none) (c := 0) hi (.inl (by simp [valAt])) ⟨_, _, _, epv⟩ (hy2.imp_right fun ⟨t, z, e, h⟩ => ⟨t, z, e, fun _ => h⟩) (by decide) (Nat.le_refl _) (Nat.zero_le _) (fun x hx => by cases hx) (fun h => by simp at h) (by simpa [valAt] using hu)).mono fun e w' h =>
      setA_upd h hi (by decide) (Nat.zero_le _) (fun x hx => by cases hx) List.Pairwise.nil (fun q h => h.elim) (fun j hj => by simp at hj) hd hS hT
set_option maxRecDepth 100000 in
theorem updArr_past {i : Nat} {L : Nat} {l : List J} {a : Addr} {S T : Nat → Prop} {w : World} (hi : i ≤ 1000) (hL : L ≤ 2000000000000) (hit : ¬ i < L) (c : Nat) (pa : Option Addr) (pn pc : Nat) (am : Option Nat) (hm : RepJ w S (.arr l) (.iface 50 (.slice (some a) L c))) :
    Calls Tryz.prog 62 #[.slice (some a) L c, .int .i64 i, .slice pa pn pc, .iface 85 (.agg #[]), .map am] w (UpdR w S T (some (.arr l))) := by
  have q0 := eql_hole w
  have q1 := eqs_some a L c w
  have hcl := clamp_any i (-1) L (by omega) (by omega) w
  have ec := clamp_pad i L
  rw [if_neg hit] at ec
  rw [ec] at hcl
  have Hm := Lib.hid hm
  have u1 : ¬ ((L : Int) < 0) := by omega
  have u2 : ¬ ((L : Int) < (L : Int)) := by omega
  clear hm
  go_enter Tryz.func62, Tryz.ntmps62
  go_wp2_with fail
  refine hcl.mono ?_
  rintro e w1 ⟨rfl, rfl⟩
  go_wp2_with fail
  go_ret2
  exact updR_some (Below.refl _ _) (Hm.out.mono fun q h => .inl h)
theorem updArr_list {am : Option Nat} {i : Nat} {p : List Stp} {n : J} {l : List J} {a : Option Addr} {k c : Nat} {y pv : Value} {S T : Nat → Prop} {w : World} (hi : i ≤ 1000) (hfi : Fine (.arr l) (.idx i :: p) n) (hsl : Slim (.arr l)) (hm : RepJ w S (.arr l) (.iface 50 (.slice a k c))) (hy : RepJ w T n y)
    (hd : ∀ q, S q → T q → False) (hS : ∀ q, S q → q < w.heap.size) (hT : ∀ q, T q → q < w.heap.size) (hp : StpsAt w pv p) (IH : UpdOK am p n y) :
    Calls Tryz.prog 62 #[.slice a k c, .int .i64 i, pv, y, .map am] w (UpdR w S T (updJ (.arr l) (.idx i :: p) n)) := by
  have hf := hole_form hy
  obtain ⟨a', c', t, er, rfl, h16, hc, ⟨hcb, hnn⟩, hcel, hx, hpw⟩ := arr_open hm
  obtain ⟨rfl, rfl, rfl⟩ : a = a' ∧ k = t.length ∧ c = c' := by injection er with _ e; injection e with e1 e2 e3; exact ⟨e1, e2, e3⟩
  obtain ⟨hl, hsl⟩ := slim_arr hsl
  rw [List.length_map] at hl
  obtain ⟨pa, pc, epv, _⟩ := id hp
  have hcel2 : 0 < t.length → ∃ b o, a = some ⟨b, o, none⟩ ∧ b < w.heap.size ∧ ∀ i (hi : i < t.length), w.cell? ⟨b, o + i, none⟩ = some t[i].v := fun h0 => by
    obtain ⟨b, o, e, hb, hc, _⟩ := hcel h0
    exact ⟨b, o, e, hS _ hb, hc⟩
  have h1 : ∀ x ∈ t, x.v.oneCell' = true := fun x hxm => rep_one (hx x hxm).2
  by_cases hit : i < t.length
  · obtain ⟨h2, h3⟩ := hx _ (List.getElem_mem hit)
    have ev : valAt t i = t[i].v := by unfold valAt; simp [hit]
    have e : updJ (.arr (t.map (·.j))) (.idx i :: p) n = (updJ t[i].j p n).map fun u => .arr (padJ (t.map (·.j)) i u) := by simp [updJ, hit]
    rw [e]
    have hu := IH t[i].j t[i].v pv t[i].f T w (hsl _ (List.mem_map.2 ⟨_, List.getElem_mem hit, rfl⟩)) (hfi _ (by simp [hit])) h3 hy (fun q h => hd q (h2 q h)) (fun q h => hS q (h2 q h)) hT hp
    rw [← ev] at hu
    refine (updArr_walk (S := t[i].f) hi (by rw [ev]; exact h3.form) ⟨_, _, _, epv⟩ ?_ hl hc hcb h1 hcel2 hu).mono fun e w' h =>
      setA_upd h hi hl hcb hx hpw h2 (fun j hj hne q h5 h6 => ?_) hd hS hT
    · rcases hy.form with h | ⟨t', z, e⟩
      · exact .inl h
      · exact .inr ⟨t', z, e, fun h => by simp [hit] at h⟩
    · have hpg := List.pairwise_iff_getElem.1 hpw
      rcases Nat.lt_or_ge j i with h | h
      · exact hpg j i hj hit h q h6 h5
      · exact hpg i j hit hj (by omega) q h5 h6
  · rcases hf with ⟨hh, rfl⟩ | ⟨hh, hy2⟩
    · have e : updJ (.arr (t.map (·.j))) (.idx i :: p) n = some (.arr (t.map (·.j))) := by simp [updJ, hit, hh]
      rw [e]
      obtain ⟨ad, rfl⟩ := Option.ne_none_iff_exists'.1 hnn
      have Hm := Lib.hid hm
      clear hm hcel hcel2 hx hpw h1 hy
      subst epv
      exact updArr_past hi hl hit c pa p.length pc am Hm.out
    · have e : updJ (.arr (t.map (·.j))) (.idx i :: p) n = (updJ .null p n).map fun u => .arr (padJ (t.map (·.j)) i u) := by simp [updJ, hit, hh]
      rw [e]
      have hu := IH .null .nilIface pv (fun _ => False) T w .null (fine_null p n) (.null _) hy (fun _ h => h.elim) (fun _ h => h.elim) hT hp
      have ev : valAt t i = .nilIface := by unfold valAt; simp [hit]
      rw [← ev] at hu
      exact (updArr_walk (S := fun _ => False) hi (by rw [ev]; exact .inl rfl) ⟨_, _, _, epv⟩ (hy2.imp_right fun ⟨t, z, e, h⟩ => ⟨t, z, e, fun _ => h⟩) hl hc hcb h1 hcel2 hu).mono fun e w' h =>
        setA_upd h hi hl hcb hx hpw (fun q h => h.elim) (fun j hj hne q h5 h6 => h5.elim) hd hS hT
end Go.Proofs.YtjlkoekfcdpnaaaGreatDoor

namespace Go.Proofs.YtjlkoekfcdpnaaaGreatDoor
open Go Go.RowKit Go.Maps Go.ChangeMaps Go.MapKept Go.WideShapes
open Go.WideElems (Fit rd rg pl rd_key rd_val rg_of rd_mk rd_stay other_key)
section
variable {H : Type} {P : Program} {k : TypeId} {R : Value → Option (DataW H × List MemPlace)} {w : World} {b r n : Nat} {D : DataW H} {left : Lit → Bool} {cnt : Nat}
theorem turned_grown {w w' : World} {b : Nat} (h : w.mapTurned w' b) : w.grownBy w' (some b) := by
  obtain ⟨es, clock, es', clock', hb, rfl⟩ := h
  exact ⟨rfl, rfl, rfl, by simp [setBlock], fun i _ hi => heap_setBlock_other hb _ (fun e => hi (by rw [e]))⟩
theorem ranges_restore {t e : TypeId} (h : w.ranges P k R b r n D left cnt) (K : Keyed P k) (ht : P.underlying t = some (.map k e)) (hn : n < maxLen) {key val : Value} {kl : Lit} {d : DataW H} {ps : List MemPlace}
    (hkey : keyOf P k key = some kl) (hat : Maps.has D kl = true) (hv : R val = some (d, ps)) :
    ∃ w', (Instr.mapUpdate t (.map (some b)) key val).run P w = .ok () w' ∧ w'.ranges P k R b r n (D.put kl d) left cnt ∧ w.grownBy w' (some b) := by
  have hne := h.ne
  obtain ⟨es, clock, since, seen, c0, hb, F, hs, rfl, hr, hold, rfl, hl1, hl2, hsc, hsk⟩ := h
  rcases K.find w hkey es.toList F.keys with ⟨h1, h2⟩ | ⟨j, e0, h1, h2, h3⟩
  · exfalso
    unfold Maps.has at hat
    obtain ⟨p, hp, hs2⟩ := List.any_eq_true.1 hat
    obtain ⟨x, hx, rfl⟩ := List.mem_map.1 (mem_sorted.1 hp)
    obtain ⟨y, hy⟩ := F.reads x hx
    have e1 := WideAt.sameKey_eq hs2
    rw [rg_of hy] at e1
    exact h2 x hx (K.inj (e1 ▸ rd_key hy) hkey)
  · have hj : es[j]? = some e0 := by simpa using h2
    have hjl : j < es.toList.length := (List.getElem?_eq_some_iff.1 h2).1
    have hkeyf : ∀ e', es[j]? = some e' → ({ e' with key := key, val := val } : MapEntry).key = e'.key := fun e' he' => by rw [hj] at he'; cases he'; exact h3.symm
    have hlist : (es.modify j (fun e' => { e' with key := key, val := val })).toList = es.toList.set j { e0 with key := key, val := val } := by rw [Array.toList_modify, modify_eq_set _ _ _ _ h2]
    have hrun : (Instr.mapUpdate t (.map (some b)) key val).run P w = .ok () (setBlock w b (.map (es.modify j (fun e' => { e' with key := key, val := val })) clock)) := by
      simp [Instr.mapUpdate, run_underlying ht, MapKept.run_getObj_map hb, K.check w false hkey, h1, hj, h3, K.stays w hkey, MapKept.run_setObj_map _ hb, Result.andThen, setBlock]
    obtain ⟨es', clock', hrun', F', hput, _, _, hwho⟩ := Maps.fit_store (R' := R) K ht hb F (Nat.lt_of_le_of_lt hs hn) (fun _ _ _ _ hz => hz) hkey hv
    have he : setBlock w b (.map es' clock') = setBlock w b (.map (es.modify j (fun e' => { e' with key := key, val := val })) clock) := by
      rw [hrun] at hrun'
      injection hrun' with _ h
      exact h.symm
    have hblk : some (Obj.map es' clock') = some (Obj.map (es.modify j (fun e' => { e' with key := key, val := val })) clock) := by
      rw [← heap_setBlock_same hb (.map es' clock'), he, heap_setBlock_same hb]
    obtain ⟨rfl, rfl⟩ : es' = es.modify j (fun e' => { e' with key := key, val := val }) ∧ clock' = clock := by
      injection hblk with h
      injection h with h1 h2
      exact ⟨h1, h2⟩
    have he0 : e0 ∈ es.toList := List.mem_of_getElem? h2
    have hrg0 : (rg P k R e0).1 = kl := by
      obtain ⟨y, hy⟩ := F.reads e0 he0
      have m1 := rd_key hy
      rw [h3, hkey] at m1
      rw [rg_of hy]
      exact (Option.some.inj m1).symm
    have hrg1 : (rg P k R { e0 with key := key, val := val }).1 = kl := by rw [rg_of (rd_mk (born := e0.born) hkey hv)]
    have hmem : ∀ x, x ∈ (es.modify j (fun e' => { e' with key := key, val := val })).toList → x = { e0 with key := key, val := val } ∨ x ∈ es.toList := by
      intro x hx
      rw [hlist] at hx
      rcases List.mem_or_eq_of_mem_set hx with h | h
      · exact .inr h
      · exact .inl h
    have hborn : (es.modify j (fun e' => { e' with key := key, val := val })).toList.map (·.born) = es.toList.map (·.born) := by
      rw [hlist, List.map_set]
      apply List.ext_getElem (by simp)
      intro i h1' h2'
      rw [List.getElem_set]
      split
      · rename_i e1
        subst e1
        have : es.toList[j] = e0 := (List.getElem?_eq_some_iff.1 h2).2
        simp [this]
      · rfl
    have hcnt : (leftOf (es.modify j (fun e' => { e' with key := key, val := val })) seen).size = (leftOf es seen).size := by
      have e1 : ∀ a : Array MapEntry, (leftOf a seen).size = ((a.toList.map (·.born)).filter fun z => !seen.contains z).length := fun a => by
        unfold leftOf
        rw [← Array.length_toList, Array.toList_filter, List.filter_map, List.length_map]
        rfl
      rw [e1, e1, hborn]
    refine ⟨_, hrun, ⟨_, _, since, seen, c0, heap_setBlock_same hb _, F', by simpa using hs, by rw [DataW.put_eq, hput], (heap_setBlock_other hb _ hne).trans hr, fun x hx => ?_, hcnt, fun x hx => ?_, fun z hz => ?_, hsc, hsk⟩, ⟨rfl, rfl, rfl, by simp [setBlock], fun i _ hi => heap_setBlock_other hb _ (fun e => hi (by rw [e]))⟩⟩
    · rcases hmem x hx with rfl | hx
      · exact hold e0 he0
      · exact hold x hx
    · rcases hmem x hx with rfl | hx
      · rw [hrg1, ← hrg0]
        exact hl1 e0 he0
      · exact hl1 x hx
    · obtain ⟨x, hx, rfl⟩ := hl2 z hz
      obtain ⟨i, hi, rfl⟩ := List.mem_iff_getElem.1 hx
      by_cases e1 : j = i
      · subst e1
        have e2 : es.toList[j] = e0 := (List.getElem?_eq_some_iff.1 h2).2
        refine ⟨{ e0 with key := key, val := val }, ?_, by rw [e2, hrg0, hrg1]⟩
        rw [hlist]
        exact List.mem_of_getElem? (by rw [List.getElem?_set_self hjl])
      · refine ⟨es.toList[i], ?_, rfl⟩
        rw [hlist]
        exact List.mem_of_getElem? (i := i) (by rw [List.getElem?_set_ne e1]; exact List.getElem?_eq_getElem hi)
/-- 'm[k] = v' at a key that is there, in the round. -/
theorem wpList_restore_ranges {ops : Array Oper} {rest : List Oper} {o : Oper} {a : Act} {Q : Exit → Act → World → Prop} (hg : o.guard = none) (m x v : Operand) (t : TypeId) (hop : o.op = Op.mapUpdate t m x v)
    (k e : TypeId) (K : Keyed P k) (ht : P.underlying t = some (.map k e)) (R : Value → Option (DataW H × List MemPlace)) (b r n : Nat) (D : DataW H) (left : Lit → Bool) (cnt : Nat)
    (hm : a.eval m = .map (some b)) (h : w.ranges P k R b r n D left cnt) (hn : n < maxLen) (key val : Value) (kl : Lit) (hx : a.eval x = key) (hv : a.eval v = val) (hkey : keyOf P k key = some kl) (hat : Maps.has D kl = true)
    (d : DataW H) (ps : List MemPlace) (hval : R val = some (d, ps))
    (hK : ∀ w', w'.ranges P k R b r n (D.put kl d) left cnt → w.grownBy w' (some b) → wpList P ops Q rest (a.put o.dst undef) w') :
    wpList P ops Q (o :: rest) a w := by
  refine wpList_plain hg fun K' hK' => ?_
  obtain ⟨w', hrun, r1, r2⟩ := ranges_restore h K ht hn hkey hat hval
  unfold Oper.wp
  simp [execOp, hop, hm, hx, hv, hrun, Result.andThen]
  exact hK' _ _ (hK w' r1 r2)
end
end Go.Proofs.YtjlkoekfcdpnaaaGreatDoor

namespace Go.Proofs.YtjlkoekfcdpnaaaGreatDoor
open Go Go.RowKit
mutual
/-- r is what is left of v without some parts. -/
inductive Rest : V → V → Prop
  | mk {k h : Int} {t : ByteArray} {l l' : List V} {ks ks' : List ByteArray} {vs vs' : List V} (hl : RestL l l') (hm : RestM ks vs ks' vs') : Rest (.mk k h t l ks vs) (.mk k h t l' ks' vs')
inductive RestL : List V → List V → Prop
  | nil : RestL [] []
  | drop {x : V} {l l' : List V} (h : RestL l l') : RestL (x :: l) l'
  | keep {x x' : V} {l l' : List V} (hx : Rest x x') (h : RestL l l') : RestL (x :: l) (x' :: l')
inductive RestM : List ByteArray → List V → List ByteArray → List V → Prop
  | nil : RestM [] [] [] []
  | drop {k : ByteArray} {x : V} {ks ks' : List ByteArray} {vs vs' : List V} (h : RestM ks vs ks' vs') : RestM (k :: ks) (x :: vs) ks' vs'
  | keep {k : ByteArray} {x x' : V} {ks ks' : List ByteArray} {vs vs' : List V} (hx : Rest x x') (h : RestM ks vs ks' vs') : RestM (k :: ks) (x :: vs) (k :: ks') (x' :: vs')
end

theorem RestL.len {l l' : List V} (h : RestL l l') : l'.length ≤ l.length := by
  cases h with
  | nil => simp
  | drop h => have := RestL.len h; simp; omega
  | keep _ h => have := RestL.len h; simp; omega
theorem RestM.len {ks ks' : List ByteArray} {vs vs' : List V} (h : RestM ks vs ks' vs') : ks.length = vs.length ∧ ks'.length = vs'.length ∧ ks'.length ≤ ks.length := by
  cases h with
  | nil => simp
  | drop h => have := RestM.len h; simp; omega
  | keep _ h => have := RestM.len h; simp; omega
/-- Each element of what is left is left of an element. -/
theorem RestL.at {l l' : List V} (h : RestL l l') : ∀ i (hi : i < l'.length), ∃ j, ∃ hj : j < l.length, Rest l[j] l'[i] := by
  cases h with
  | nil => intro i hi; simp at hi
  | drop h =>
    intro i hi
    obtain ⟨j, hj, hr⟩ := RestL.at h i hi
    exact ⟨j + 1, by simpa using hj, by simpa using hr⟩
  | keep hx h =>
    intro i hi
    cases i with
    | zero => exact ⟨0, by simp, by simpa using hx⟩
    | succ i =>
      obtain ⟨j, hj, hr⟩ := RestL.at h i (by simpa using hi)
      exact ⟨j + 1, by simpa using hj, by simpa using hr⟩
theorem RestM.at {ks ks' : List ByteArray} {vs vs' : List V} (h : RestM ks vs ks' vs') : ∀ i (hi : i < ks'.length) (hi2 : i < vs'.length), ∃ j, ∃ hj : j < ks.length, ∃ hj2 : j < vs.length, ks[j] = ks'[i] ∧ Rest vs[j] vs'[i] := by
  cases h with
  | nil => intro i hi; simp at hi
  | drop h =>
    intro i hi hi2
    obtain ⟨j, hj, hj2, he, hr⟩ := RestM.at h i hi hi2
    exact ⟨j + 1, by simpa using hj, by simpa using hj2, by simpa using he, by simpa using hr⟩
  | keep hx h =>
    intro i hi hi2
    cases i with
    | zero => exact ⟨0, by simp, by simp, rfl, by simpa using hx⟩
    | succ i =>
      obtain ⟨j, hj, hj2, he, hr⟩ := RestM.at h i (by simpa using hi) (by simpa using hi2)
      exact ⟨j + 1, by simpa using hj, by simpa using hj2, by simpa using he, by simpa using hr⟩
theorem good_parts {k h : Int} {t : ByteArray} {l : List V} {ks : List ByteArray} {vs : List V} (g : Good (.mk k h t l ks vs)) : ks.length = vs.length ∧ (∀ x ∈ l, Good x) ∧ ∀ x ∈ vs, Good x := by
  have hl := g.kinds.2.2
  cases g with
  | mk shape half valid list rise vkeys vals =>
    refine ⟨hl, fun x hx => ?_, fun x hx => ?_⟩
    · obtain ⟨i, hi, rfl⟩ := List.mem_iff_getElem.1 hx
      exact list i hi
    · obtain ⟨i, hi, rfl⟩ := List.mem_iff_getElem.1 hx
      exact vals i hi
mutual
theorem rest_refl : ∀ (v : V), Good v → Rest v v
  | .mk k h t l ks vs, g => by
    obtain ⟨hl, g1, g2⟩ := good_parts g
    exact .mk (restL_refl l g1) (restM_refl ks vs hl g2)
termination_by structural v => v
theorem restL_refl : ∀ (l : List V), (∀ x ∈ l, Good x) → RestL l l
  | [], _ => .nil
  | v :: r, g => .keep (rest_refl v (g v (List.mem_cons_self ..))) (restL_refl r fun x hx => g x (List.mem_cons_of_mem _ hx))
termination_by structural l => l
theorem restM_refl : ∀ (ks : List ByteArray) (vs : List V), ks.length = vs.length → (∀ x ∈ vs, Good x) → RestM ks vs ks vs
  | [], [], _, _ => .nil
  | [], _ :: _, h, _ => by simp at h
  | _ :: _, [], h, _ => by simp at h
  | k :: ks, v :: vs, h, g => .keep (rest_refl v (g v (List.mem_cons_self ..))) (restM_refl ks vs (by simpa using h) fun x hx => g x (List.mem_cons_of_mem _ hx))
termination_by structural _ vs => vs
end


theorem restL_nil {l' : List V} (h : RestL [] l') : l' = [] := by cases h; rfl
/-- The keys of what is left stand in the same order. -/
theorem RestM.sub {ks ks' : List ByteArray} {vs vs' : List V} (h : RestM ks vs ks' vs') : ks'.Sublist ks := by
  cases h with
  | nil => exact List.Sublist.slnil
  | drop h => exact (RestM.sub h).cons _
  | keep _ h => exact (RestM.sub h).cons_cons _
end Go.Proofs.YtjlkoekfcdpnaaaGreatDoor

namespace Go.Proofs.YtjlkoekfcdpnaaaGreatDoor
open Go Go.RowKit
mutual
/-- j is v with holes in it (not v itself a hole); r is what is left. -/
inductive Hol : V → J → V → Prop
  | leaf {k h : Int} {t : ByteArray} {l : List V} {ks : List ByteArray} {vs : List V} (h5 : k ≠ 5) (h6 : k ≠ 6) (hl : l = []) (hk : ks = []) (hv : vs = []) : Hol (.mk k h t l ks vs) (toJ (.mk k h t l ks vs)) (.mk k h t l ks vs)
  | arr {h : Int} {t : ByteArray} {l l' : List V} {js : List J} (hl : HolL l js l') : Hol (.mk 5 h t l [] []) (.arr js) (.mk 5 h t l' [] [])
  | obj {h : Int} {t : ByteArray} {ks ks' : List ByteArray} {vs vs' : List V} {m : List (ByteArray × J)} (hm : HolM ks vs m ks' vs') : Hol (.mk 6 h t [] ks vs) (.obj m) (.mk 6 h t [] ks' vs')
inductive HolL : List V → List J → List V → Prop
  | nil : HolL [] [] []
  | hole {v : V} {l l' : List V} {js : List J} (h : HolL l js l') : HolL (v :: l) (.hole :: js) l'
  | keep {v r : V} {j : J} {l l' : List V} {js : List J} (hv : Hol v j r) (h : HolL l js l') : HolL (v :: l) (j :: js) (r :: l')
inductive HolM : List ByteArray → List V → List (ByteArray × J) → List ByteArray → List V → Prop
  | nil : HolM [] [] [] [] []
  | hole {k : ByteArray} {v : V} {ks ks' : List ByteArray} {vs vs' : List V} {m : List (ByteArray × J)} (h : HolM ks vs m ks' vs') : HolM (k :: ks) (v :: vs) ((k, .hole) :: m) ks' vs'
  | keep {k : ByteArray} {v r : V} {j : J} {ks ks' : List ByteArray} {vs vs' : List V} {m : List (ByteArray × J)} (hv : Hol v j r) (h : HolM ks vs m ks' vs') : HolM (k :: ks) (v :: vs) ((k, j) :: m) (k :: ks') (r :: vs')
end

theorem toJ_hole (v : V) : isHole (toJ v) = false := by
  obtain ⟨k, h, t, l, ks, vs⟩ := v
  unfold toJ
  repeat' split
  all_goals rfl
theorem Hol.not {v r : V} {j : J} (h : Hol v j r) : isHole j = false := by
  cases h with
  | leaf => exact toJ_hole _
  | arr => rfl
  | obj => rfl
mutual
theorem hol_same : ∀ (v : V), Good v → Hol v (toJ v) v
  | .mk k h t l ks vs, g => by
    obtain ⟨h5, h6, hlen⟩ := g.kinds
    obtain ⟨_, g1, g2⟩ := good_parts g
    by_cases c5 : k = 5
    · subst c5
      obtain rfl := h6.resolve_left (by omega)
      obtain rfl : vs = [] := List.eq_nil_of_length_eq_zero (by simpa using hlen.symm)
      have e : toJ (.mk 5 h t l [] []) = .arr (toJL l) := by unfold toJ; simp
      rw [e]
      exact .arr (holL_same l g1)
    · obtain rfl := h5.resolve_left c5
      by_cases c6 : k = 6
      · subst c6
        have e : toJ (.mk 6 h t [] ks vs) = .obj (toJM ks vs) := by unfold toJ; simp
        rw [e]
        exact .obj (holM_same ks vs hlen g2)
      · obtain rfl := h6.resolve_left c6
        obtain rfl : vs = [] := List.eq_nil_of_length_eq_zero (by simpa using hlen.symm)
        exact .leaf c5 c6 rfl rfl rfl
termination_by structural v => v
theorem holL_same : ∀ (l : List V), (∀ x ∈ l, Good x) → HolL l (toJL l) l
  | [], _ => by unfold toJL; exact .nil
  | v :: r, g => by
    unfold toJL
    exact .keep (hol_same v (g v (List.mem_cons_self ..))) (holL_same r fun x hx => g x (List.mem_cons_of_mem _ hx))
termination_by structural l => l
theorem holM_same : ∀ (ks : List ByteArray) (vs : List V), ks.length = vs.length → (∀ x ∈ vs, Good x) → HolM ks vs (toJM ks vs) ks vs
  | [], [], _, _ => by unfold toJM; exact .nil
  | [], _ :: _, h, _ => by simp at h
  | _ :: _, [], h, _ => by simp at h
  | k :: ks, v :: vs, h, g => by
    unfold toJM
    exact .keep (hol_same v (g v (List.mem_cons_self ..))) (holM_same ks vs (by simpa using h) fun x hx => g x (List.mem_cons_of_mem _ hx))
termination_by structural _ vs => vs
end

mutual
theorem hol_rest : ∀ (v : V) (j : J) (r : V), Hol v j r → Rest v r
  | .mk k h t l ks vs, j, r, hh => by
    cases hh with
    | leaf h5 h6 hl hk hv =>
      subst hl hk hv
      exact .mk .nil .nil
    | @arr _ _ _ l' js hl => exact .mk (holL_rest l js l' hl) .nil
    | @obj _ _ _ ks' _ vs' m hm => exact .mk .nil (holM_rest ks vs m ks' vs' hm)
termination_by structural v => v
theorem holL_rest : ∀ (l : List V) (js : List J) (l' : List V), HolL l js l' → RestL l l'
  | [], js, l', h => by cases h; exact .nil
  | v :: l, js, l', h => by
    cases h with
    | @hole _ _ _ js h => exact .drop (holL_rest l js l' h)
    | @keep _ r j _ l' js hv h => exact .keep (hol_rest v j r hv) (holL_rest l js l' h)
termination_by structural l => l
theorem holM_rest : ∀ (ks : List ByteArray) (vs : List V) (m : List (ByteArray × J)) (ks' : List ByteArray) (vs' : List V), HolM ks vs m ks' vs' → RestM ks vs ks' vs'
  | ks, [], m, ks', vs', h => by cases h; exact .nil
  | ks, v :: vs, m, ks', vs', h => by
    cases h with
    | @hole _ _ ks _ _ _ m h => exact .drop (holM_rest ks vs m ks' vs' h)
    | @keep _ _ r j ks ks' _ vs' m hv h => exact .keep (hol_rest v j r hv) (holM_rest ks vs m ks' vs' h)
termination_by structural _ vs => vs
end

/-- A place in a tree with holes: a hole, or a tree with holes. -/
def HolAt (v : V) (x : J) : Prop := x = .hole ∨ ∃ r, Hol v x r
theorem HolL.len {l l' : List V} {js : List J} (h : HolL l js l') : js.length = l.length := by
  cases h with
  | nil => rfl
  | hole h => simp [HolL.len h]
  | keep _ h => simp [HolL.len h]
theorem HolL.get {l l' : List V} {js : List J} (h : HolL l js l') : ∀ i (hi : i < l.length) (hj : i < js.length), HolAt l[i] js[i] := by
  cases h with
  | nil => intro i hi; simp at hi
  | hole h =>
    intro i hi hj
    cases i with
    | zero => exact .inl rfl
    | succ i => exact HolL.get h i (by simpa using hi) (by simpa using hj)
  | keep hv h =>
    intro i hi hj
    cases i with
    | zero => exact .inr ⟨_, hv⟩
    | succ i => exact HolL.get h i (by simpa using hi) (by simpa using hj)
theorem HolL.set {l l' : List V} {js : List J} (h : HolL l js l') : ∀ i (hi : i < l.length) (x : J), HolAt l[i] x → ∃ l'', HolL l (js.set i x) l'' := by
  cases h with
  | nil => intro i hi; simp at hi
  | @hole v l l' js h =>
    intro i hi x hx
    cases i with
    | zero =>
      rcases hx with rfl | ⟨r, hr⟩
      · exact ⟨_, .hole h⟩
      · exact ⟨_, .keep hr h⟩
    | succ i =>
      obtain ⟨l2, h2⟩ := HolL.set h i (by simpa using hi) x (by simpa using hx)
      exact ⟨_, .hole h2⟩
  | keep hv h =>
    intro i hi x hx
    cases i with
    | zero =>
      rcases hx with rfl | ⟨r, hr⟩
      · exact ⟨_, .hole h⟩
      · exact ⟨_, .keep hr h⟩
    | succ i =>
      obtain ⟨l2, h2⟩ := HolL.set h i (by simpa using hi) x (by simpa using hx)
      exact ⟨_, .keep hv h2⟩
theorem HolM.keys {ks ks' : List ByteArray} {vs vs' : List V} {m : List (ByteArray × J)} (h : HolM ks vs m ks' vs') : m.map (·.1) = ks ∧ ks.length = vs.length := by
  cases h with
  | nil => exact ⟨rfl, rfl⟩
  | hole h => have := HolM.keys h; simp [this.1, this.2]
  | keep _ h => have := HolM.keys h; simp [this.1, this.2]
theorem HolM.get {ks ks' : List ByteArray} {vs vs' : List V} {m : List (ByteArray × J)} (h : HolM ks vs m ks' vs') : ∀ i (hi : i < vs.length) (hj : i < m.length), HolAt vs[i] m[i].2 := by
  cases h with
  | nil => intro i hi; simp at hi
  | hole h =>
    intro i hi hj
    cases i with
    | zero => exact .inl rfl
    | succ i => exact HolM.get h i (by simpa using hi) (by simpa using hj)
  | keep hv h =>
    intro i hi hj
    cases i with
    | zero => exact .inr ⟨_, hv⟩
    | succ i => exact HolM.get h i (by simpa using hi) (by simpa using hj)
theorem HolM.set {ks ks' : List ByteArray} {vs vs' : List V} {m : List (ByteArray × J)} (h : HolM ks vs m ks' vs') : ∀ i (hi : i < vs.length) (hk : i < ks.length) (x : J), HolAt vs[i] x → ∃ ks'' vs'', HolM ks vs (m.set i (ks[i], x)) ks'' vs'' := by
  cases h with
  | nil => intro i hi; simp at hi
  | hole h =>
    intro i hi hk x hx
    cases i with
    | zero =>
      rcases hx with rfl | ⟨r, hr⟩
      · exact ⟨_, _, .hole h⟩
      · exact ⟨_, _, .keep hr h⟩
    | succ i =>
      obtain ⟨k2, l2, h2⟩ := HolM.set h i (by simpa using hi) (by simpa using hk) x (by simpa using hx)
      exact ⟨_, _, .hole h2⟩
  | keep hv h =>
    intro i hi hk x hx
    cases i with
    | zero =>
      rcases hx with rfl | ⟨r, hr⟩
      · exact ⟨_, _, .hole h⟩
      · exact ⟨_, _, .keep hr h⟩
    | succ i =>
      obtain ⟨k2, l2, h2⟩ := HolM.set h i (by simpa using hi) (by simpa using hk) x (by simpa using hx)
      exact ⟨_, _, .keep hv h2⟩
/-- At a key that is there, an entry laid in is an entry replaced. -/
theorem putK_set {α : Type} : ∀ {m : List (ByteArray × α)} (_ : RisesK m) {i : Nat} (hi : i < m.length) (a : α), putK m m[i].1 a = m.set i (m[i].1, a)
  | [], _, i, hi, _ => by simp at hi
  | y :: r, hr, i, hi, a => by
    have hne := rises_irrefl hr
    obtain ⟨h1, h2⟩ := List.pairwise_cons.1 hr
    obtain ⟨n1, n2⟩ := List.pairwise_cons.1 hne
    unfold putK
    rw [List.filter_cons]
    cases i with
    | zero =>
      simp only [List.getElem_cons_zero, List.set_cons_zero]
      rw [(keyL_same _ _).2 rfl]
      have e : r.filter (fun p => !(keyL p.1).sameKey (keyL y.1)) = r := List.filter_eq_self.2 fun p hp => by
        cases c : (keyL p.1).sameKey (keyL y.1)
        · rfl
        · exact absurd ((keyL_same _ _).1 c).symm (n1 p hp)
      simp only [Bool.not_true, Bool.false_eq_true, if_false, e]
      cases r with
      | nil => rfl
      | cons z s => unfold insK; rw [if_pos (h1 z (List.mem_cons_self ..))]
    | succ i =>
      have hi' : i < r.length := by simpa using hi
      simp only [List.getElem_cons_succ, List.set_cons_succ]
      have e : (keyL y.1).sameKey (keyL r[i].1) = false := by
        cases c : (keyL y.1).sameKey (keyL r[i].1)
        · rfl
        · exact absurd ((keyL_same _ _).1 c) (n1 _ (List.getElem_mem hi'))
      have hb := before_asymm (h1 _ (List.getElem_mem hi'))
      simp only [e, Bool.not_false, if_true]
      unfold insK
      rw [if_neg (by simp only; rw [hb]; simp)]
      congr 1
      exact putK_set h2 hi' a
end Go.Proofs.YtjlkoekfcdpnaaaGreatDoor
