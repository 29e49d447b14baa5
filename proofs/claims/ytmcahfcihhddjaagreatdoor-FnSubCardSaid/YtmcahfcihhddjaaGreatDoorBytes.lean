/- The order of strings, byte by byte; and that entries put in rising order stand in that order. No program in sight. -/
import Derived.Maps.OwnSet
import Derived.WalkKit
namespace Go.Proofs.YtmcahfcihhddjaaGreatDoor
open Go Go.RowKit Go.Maps

theorem u8_lt (a b : UInt8) : a < b ↔ a.toNat < b.toNat := UInt8.lt_iff_toNat_lt
theorem u8_eq (a b : UInt8) : a = b ↔ a.toNat = b.toNat := ⟨fun h => by rw [h], fun h => UInt8.toNat_inj.1 h⟩

theorem bl_cons (a b : UInt8) (x y : List UInt8) : Op.bytesLess (a :: x) (b :: y) = true ↔ a.toNat < b.toNat ∨ (a = b ∧ Op.bytesLess x y = true) := by
  simp [Op.bytesLess, u8_lt]

theorem bl_irrefl : ∀ a : List UInt8, Op.bytesLess a a = false
  | [] => rfl
  | a :: x => by
    rw [← Bool.not_eq_true, bl_cons]
    simp [bl_irrefl x]
theorem bl_asymm : ∀ a b : List UInt8, Op.bytesLess a b = true → Op.bytesLess b a = false
  | [], [], h => by simp [Op.bytesLess] at h
  | [], _ :: _, _ => rfl
  | _ :: _, [], h => by simp [Op.bytesLess] at h
  | a :: x, b :: y, h => by
    rw [bl_cons] at h
    rw [← Bool.not_eq_true, bl_cons]
    rintro (h' | ⟨rfl, h'⟩)
    · rcases h with h | ⟨rfl, _⟩ <;> omega
    · rcases h with h | ⟨_, h⟩
      · omega
      · rw [bl_asymm x y h] at h'; cases h'
theorem bl_trans : ∀ a b c : List UInt8, Op.bytesLess a b = true → Op.bytesLess b c = true → Op.bytesLess a c = true
  | _, _, [], _, h => by simp [Op.bytesLess] at h
  | _, [], _ :: _, h, _ => by simp [Op.bytesLess] at h
  | [], _ :: _, _ :: _, _, _ => rfl
  | a :: x, b :: y, c :: z, h, h' => by
    rw [bl_cons] at *
    rcases h with h | ⟨rfl, h⟩
    · rcases h' with h' | ⟨rfl, h'⟩ <;> (left; omega)
    · rcases h' with h' | ⟨rfl, h'⟩
      · left; exact h'
      · right; exact ⟨rfl, bl_trans x y z h h'⟩
theorem bl_total : ∀ a b : List UInt8, Op.bytesLess a b = false → Op.bytesLess b a = false → a = b
  | [], [], _, _ => rfl
  | [], _ :: _, h, _ => by simp [Op.bytesLess] at h
  | _ :: _, [], _, h => by simp [Op.bytesLess] at h
  | a :: x, b :: y, h, h' => by
    rw [← Bool.not_eq_true, bl_cons] at h h'
    have e : a = b := by
      rw [u8_eq]
      have h1 : ¬ a.toNat < b.toNat := fun q => h (.inl q)
      have h2 : ¬ b.toNat < a.toNat := fun q => h' (.inl q)
      omega
    subst e
    have e1 : Op.bytesLess x y = false := by rw [← Bool.not_eq_true]; exact fun q => h (.inr ⟨rfl, q⟩)
    have e2 : Op.bytesLess y x = false := by rw [← Bool.not_eq_true]; exact fun q => h' (.inr ⟨rfl, q⟩)
    rw [bl_total x y e1 e2]

theorem before_eq : ∀ a b : List UInt8, bytesBefore a b = Op.bytesLess a b
  | [], [] => rfl
  | [], _ :: _ => rfl
  | _ :: _, [] => rfl
  | a :: x, b :: y => by simp [bytesBefore, Op.bytesLess, before_eq x y]

theorem insert_last {H : Type} (k : List UInt8) (d : DataW H) : ∀ es : List (Lit × DataW H), (∀ p ∈ es, ∃ s, p.1 = .string s ∧ Op.bytesLess s k = true) → DataW.insert (.string k, d) es = es ++ [(.string k, d)]
  | [], _ => rfl
  | p :: r, h => by
    obtain ⟨s, hs, hlt⟩ := h p (by simp)
    unfold DataW.insert
    rw [hs]
    have : (Lit.string k).before (.string s) = false := by
      show bytesBefore k s = false
      rw [before_eq]; exact bl_asymm _ _ hlt
    simp [this, insert_last k d r (fun q hq => h q (by simp [hq]))]

theorem put_last {H : Type} (k : List UInt8) (d : DataW H) (es : List (Lit × DataW H)) (h : ∀ p ∈ es, ∃ s, p.1 = .string s ∧ Op.bytesLess s k = true) : (DataW.map es).put (.string k) d = .map (es ++ [(.string k, d)]) := by
  unfold DataW.put
  have hf : es.filter (fun p => !p.1.sameKey (.string k)) = es := by
    rw [List.filter_eq_self]
    intro p hp
    obtain ⟨s, hs, hlt⟩ := h p hp
    rw [hs]
    show (!(s == k)) = true
    have : s ≠ k := fun e => by rw [e, bl_irrefl] at hlt; cases hlt
    simpa using this
  show DataW.map (DataW.insert (Lit.string k, d) (es.filter (fun p => !p.1.sameKey (.string k)))) = _
  rw [hf, insert_last k d es h]

/-- From neighbours to all. -/
theorem rise_all (ks : List ByteArray) (rise : ∀ i (hi : i + 1 < ks.length), Op.bytesLess ks[i].toList ks[i + 1].toList = true) : ∀ (j : Nat) (hj : j < ks.length) (i : Nat) (hi : i < j), Op.bytesLess (ks[i]'(by omega)).toList ks[j].toList = true := by
  intro j
  induction j with
  | zero => intro _ i hi; omega
  | succ j ih =>
    intro hj i hi
    by_cases e : i = j
    · subst e; exact rise i hj
    · exact bl_trans _ _ _ (ih (by omega) i (by omega)) (rise j hj)

theorem run_makeMap_hint {P : Program} {t k e : TypeId} (ht : P.underlying t = some (.map k e)) (q : IntKind) (n : Int) (w : World) : (Instr.makeMap t (some (.int q n))).run P w = .ok (.map (some w.heap.size)) (w.alloc (.map #[] 0)) := by
  simp [Instr.makeMap, run_underlying ht, asInt, asIntOf, Result.andThen]

end Go.Proofs.YtmcahfcihhddjaaGreatDoor
