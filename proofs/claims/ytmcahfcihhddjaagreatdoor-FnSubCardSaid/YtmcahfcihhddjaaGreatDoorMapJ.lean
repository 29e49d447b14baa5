/- Go maps that hold a tree's entries: what is read out of them. No function is walked here. -/
import Derived.Test.YtmcahfcihhddjaaGreatDoorToGo2
namespace Go.Proofs.YtmcahfcihhddjaaGreatDoor
open Go Go.RowKit Go.Maps Go.Deep Go.WideMaps

theorem entries_len (m : List (ByteArray × J)) (E : Nat → Value) : (entries m E).length = m.length := by simp [entries]
theorem entries_get (m : List (ByteArray × J)) (E : Nat → Value) (i : Nat) (hi : i < (entries m E).length) :
    (entries m E)[i] = (Lit.string (m[i]'(by rw [← entries_len m E]; exact hi)).1.data.toList, DataW.held (E i)) := by simp [entries]

/-- No key twice. -/
def Apart (m : List (ByteArray × J)) : Prop := ∀ i j (hi : i < m.length) (hj : j < m.length), m[i].1 = m[j].1 → i = j

theorem same_str (a b : List UInt8) : Lit.sameKey (.string a) (.string b) = (a == b) := rfl

theorem data_inj {a b : ByteArray} (h : a.data.toList = b.data.toList) : a = b := by
  obtain ⟨⟨x⟩⟩ := a
  obtain ⟨⟨y⟩⟩ := b
  simp at h
  rw [h]

theorem atKey_at {m : List (ByteArray × J)} {E : Nat → Value} (ha : Apart m) {i : Nat} (hi : i < m.length) (z : DataW Value) :
    (DataW.map (entries m E)).atKey (.string m[i].1.data.toList) z = .held (E i) := by
  have hf : (entries m E).find? (fun p => p.1.sameKey (.string m[i].1.data.toList)) = some (Lit.string m[i].1.data.toList, DataW.held (E i)) := by
    rw [List.find?_eq_some_iff_getElem]
    refine ⟨by simp [same_str], i, by rw [entries_len]; exact hi, entries_get m E i _, fun j hj => ?_⟩
    rw [entries_get]
    simp only [same_str, Bool.not_eq_true', beq_eq_false_iff_ne]
    intro e
    have := ha j i (by omega) hi (data_inj e)
    omega
  simp only [DataW.atKey, hf]
theorem atKey_miss {m : List (ByteArray × J)} {E : Nat → Value} {k : ByteArray} (hk : ∀ p ∈ m, p.1 ≠ k) (z : DataW Value) :
    (DataW.map (entries m E)).atKey (.string k.data.toList) z = z := by
  have hf : (entries m E).find? (fun p => p.1.sameKey (.string k.data.toList)) = none := by
    rw [List.find?_eq_none]
    intro p hp
    obtain ⟨i, hi, rfl⟩ := List.mem_iff_getElem.1 hp
    rw [entries_get]
    simp only [same_str, beq_iff_eq]
    intro e
    exact hk _ (List.getElem_mem (by rw [← entries_len m E]; exact hi)) (data_inj e)
  simp only [DataW.atKey, hf]
theorem has_at {m : List (ByteArray × J)} {E : Nat → Value} {i : Nat} (hi : i < m.length) : Maps.has (DataW.map (entries m E)) (.string m[i].1.data.toList) = true := by
  unfold Maps.has
  rw [List.any_eq_true]
  exact ⟨_, List.getElem_mem (by rw [entries_len]; exact hi), by rw [entries_get m E i]; simp [same_str]⟩
theorem has_miss {m : List (ByteArray × J)} {E : Nat → Value} {k : ByteArray} (hk : ∀ p ∈ m, p.1 ≠ k) : Maps.has (DataW.map (entries m E)) (.string k.data.toList) = false := by
  unfold Maps.has
  rw [List.any_eq_false]
  intro p hp
  obtain ⟨i, hi, rfl⟩ := List.mem_iff_getElem.1 hp
  rw [entries_get]
  simp only [same_str, beq_iff_eq]
  intro e
  exact hk _ (List.getElem_mem (by rw [← entries_len m E]; exact hi)) (data_inj e)

theorem zero_any (w : World) : (zeroValue 20).run Tryz.prog w = .ok .nilIface w := by kernel_rfl
theorem heldR_inv {v : Value} {d : DataW Value} {ps : List MemPlace} (h : heldR v = some (d, ps)) : d = .held v := by
  unfold heldR at h
  simp at h
  exact h.1.symm

theorem MapAt.get {w : World} {r : Nat} {m : List (ByteArray × J)} {E : Nat → Value} (h : MapAt w r m E) (ha : Apart m) {i : Nat} (hi : i < m.length) (hs : m[i].1.size ≤ 140737488351232) :
    (Instr.lookup 67 (.map (some r)) (.string m[i].1) false).run Tryz.prog w = .ok (E i) w := by
  obtain ⟨n, _, hown⟩ := h
  obtain ⟨v, ps, hrun, hv⟩ := hown.lookup law_str Tryz.underlying67 (zero_any w) (zd := .held .nilIface) (zp := []) rfl (keyOf_string_mk (s := m[i].1) Tryz.underlying9 (by unfold maxLen; omega))
  rw [atKey_at ha hi] at hv
  have := heldR_inv hv
  cases this
  exact hrun
theorem MapAt.getOk {w : World} {r : Nat} {m : List (ByteArray × J)} {E : Nat → Value} (h : MapAt w r m E) (ha : Apart m) {i : Nat} (hi : i < m.length) (hs : m[i].1.size ≤ 140737488351232) :
    (Instr.lookup 67 (.map (some r)) (.string m[i].1) true).run Tryz.prog w = .ok (.tuple #[E i, .bool true]) w := by
  obtain ⟨n, _, hown⟩ := h
  obtain ⟨v, ps, hrun, hv⟩ := hown.look_ok law_str Tryz.underlying67 (zero_any w) (zd := .held .nilIface) (zp := []) rfl (keyOf_string_mk (s := m[i].1) Tryz.underlying9 (by unfold maxLen; omega))
  rw [atKey_at ha hi] at hv
  rw [has_at hi] at hrun
  have := heldR_inv hv
  cases this
  exact hrun
theorem MapAt.miss {w : World} {r : Nat} {m : List (ByteArray × J)} {E : Nat → Value} (h : MapAt w r m E) {k : ByteArray} (hk : ∀ p ∈ m, p.1 ≠ k) (hs : k.size ≤ 140737488351232) :
    (Instr.lookup 67 (.map (some r)) (.string k) false).run Tryz.prog w = .ok .nilIface w := by
  obtain ⟨n, _, hown⟩ := h
  obtain ⟨v, ps, hrun, hv⟩ := hown.lookup law_str Tryz.underlying67 (zero_any w) (zd := .held .nilIface) (zp := []) rfl (keyOf_string_mk (s := k) Tryz.underlying9 (by unfold maxLen; omega))
  rw [atKey_miss hk] at hv
  have := heldR_inv hv
  cases this
  exact hrun
theorem MapAt.missOk {w : World} {r : Nat} {m : List (ByteArray × J)} {E : Nat → Value} (h : MapAt w r m E) {k : ByteArray} (hk : ∀ p ∈ m, p.1 ≠ k) (hs : k.size ≤ 140737488351232) :
    (Instr.lookup 67 (.map (some r)) (.string k) true).run Tryz.prog w = .ok (.tuple #[.nilIface, .bool false]) w := by
  obtain ⟨n, _, hown⟩ := h
  obtain ⟨v, ps, hrun, hv⟩ := hown.look_ok law_str Tryz.underlying67 (zero_any w) (zd := .held .nilIface) (zp := []) rfl (keyOf_string_mk (s := k) Tryz.underlying9 (by unfold maxLen; omega))
  rw [atKey_miss hk] at hv
  rw [has_miss hk] at hrun
  have := heldR_inv hv
  cases this
  exact hrun
theorem MapAt.len {w : World} {r : Nat} {m : List (ByteArray × J)} {E : Nat → Value} (h : MapAt w r m E) (ty : TypeId) :
    (Builtin.len_ #[67] ty #[.map (some r)]).run Tryz.prog w = .ok (.int .i64 m.length) w := by
  obtain ⟨n, _, hown⟩ := h
  have := hown.len Tryz.underlying67 ty
  rw [Maps.size_eq, entries_len] at this
  exact this

theorem less_ne {a b : ByteArray} (h : Op.bytesLess a.toList b.toList = true) : a ≠ b := by
  rintro rfl
  rw [bl_irrefl] at h
  cases h

theorem apart_toJM {ks : List ByteArray} {vs : List V} (hlen : ks.length = vs.length) (rise : ∀ i (hi : i + 1 < ks.length), Op.bytesLess ks[i].toList ks[i + 1].toList = true) : Apart (toJM ks vs) := by
  intro i j hi hj h
  rw [toJM_len _ _ hlen] at hi hj
  rw [toJM_get _ _ hlen i hi, toJM_get _ _ hlen j hj] at h
  simp only at h
  rcases Nat.lt_trichotomy i j with c | c | c
  · exact absurd h (less_ne (rise_all ks rise j hj i c))
  · exact c
  · exact absurd h.symm (less_ne (rise_all ks rise i hi j c))

end Go.Proofs.YtmcahfcihhddjaaGreatDoor
