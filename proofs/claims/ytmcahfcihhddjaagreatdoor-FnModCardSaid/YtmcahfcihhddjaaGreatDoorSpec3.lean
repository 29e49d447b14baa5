/- spec.rest, whole. -/
import Derived.Test.YtmcahfcihhddjaaGreatDoorSpec2
namespace Go.Proofs.YtmcahfcihhddjaaGreatDoor
open Go Go.RowKit

theorem RestP.kind {k h k' h' : Int} (c : k ≠ 3 ∨ k' ≠ 3) (v : Value) : RestP k h k' h' v 1 := by unfold RestP; rw [if_pos c]

theorem rest_any (k h k' h' : Int) (t t' : ByteArray) (la ka va la' ka' va' : Option Addr) (nl cl nk ck nv cv nl' cl' nk' ck' nv' cv' : Nat)
    (hr : -9223372036854775808 ≤ h ∧ h ≤ 9223372036854775807) (hr' : -9223372036854775808 ≤ h' ∧ h' ≤ 9223372036854775807) (w : World) :
    Calls Tryz.prog 18 #[.agg #[.int .i64 k, .int .i64 h, .string t, .slice la nl cl, .slice ka nk ck, .slice va nv cv], .agg #[.int .i64 k', .int .i64 h', .string t', .slice la' nl' cl', .slice ka' nk' ck', .slice va' nv' cv']] w
      (HowAt w (RestP k h k' h')) := by
  by_cases c : k ≠ 3 ∨ k' ≠ 3
  · exact rest_kind k h k' h' t t' la ka va la' ka' va' nl cl nk ck nv cv nl' cl' nk' ck' nv' cv' c w
  have k3 : k = 3 := Decidable.byContradiction fun e => c (.inl e)
  have k4 : k' = 3 := Decidable.byContradiction fun e => c (.inr e)
  subst k3 k4
  have wa : ∃ x ok, (∀ w, Calls Tryz.prog 33 #[.agg #[.int .i64 3, .int .i64 h, .string t, .slice la nl cl, .slice ka nk ck, .slice va nv cv]] w (WholeAt w x ok)) ∧
      ((h.tmod 2 = 0 ∧ ok = true ∧ x = h.tdiv 2) ∨ (h.tmod 2 ≠ 0 ∧ ok = false)) := by
    by_cases e : h.tmod 2 = 0
    · exact ⟨_, true, fun w => whole_even h t la ka va nl cl nk ck nv cv e hr w, .inl ⟨e, rfl, rfl⟩⟩
    · exact ⟨_, false, fun w => whole_odd h t la ka va nl cl nk ck nv cv e w, .inr ⟨e, rfl⟩⟩
  obtain ⟨x, ok, wa, ea⟩ := wa
  have ma := Int.mul_tdiv_add_tmod h 2
  have mb := Int.mul_tdiv_add_tmod h' 2
  by_cases e' : h'.tmod 2 = 0
  · have wb := fun w => whole_even h' t' la' ka' va' nl' cl' nk' ck' nv' cv' e' hr' w
    by_cases z : h' = 0
    · subst z
      exact rest_zero h 0 x ok t t' la ka va la' ka' va' nl cl nk ck nv cv nl' cl' nk' ck' nv' cv' wa wb _ (fun v => by unfold RestP; rw [if_neg (by omega), if_pos rfl]) w
    · have zy : h'.tdiv 2 ≠ 0 := by omega
      rcases ea with ⟨e, rfl, rfl⟩ | ⟨e, rfl⟩
      · by_cases n1 : h < 0
        · exact rest_neg1 h h' _ _ t t' la ka va la' ka' va' nl cl nk ck nv cv nl' cl' nk' ck' nv' cv' zy (by omega) wa wb _
            (fun v => by unfold RestP; rw [if_neg (by omega), if_neg z, if_pos (by omega)]) w
        · by_cases n2 : h' < 0
          · exact rest_neg2 h h' _ _ t t' la ka va la' ka' va' nl cl nk ck nv cv nl' cl' nk' ck' nv' cv' (by omega) (by omega) wa wb _
              (fun v => by unfold RestP; rw [if_neg (by omega), if_neg z, if_pos (by omega)]) w
          · exact rest_fine h h' _ _ t t' la ka va la' ka' va' nl cl nk ck nv cv nl' cl' nk' ck' nv' cv' (by omega) (by omega) (by omega) wa wb _
              (by unfold RestP; rw [if_neg (by omega), if_neg z, if_neg (by omega), Int.tmod_eq_emod_of_nonneg (by omega)]; exact ⟨rfl, rfl⟩) w
      · exact rest_odd1 h h' _ _ t t' la ka va la' ka' va' nl cl nk ck nv cv nl' cl' nk' ck' nv' cv' zy wa wb _
          (fun v => by unfold RestP; rw [if_neg (by omega), if_neg z, if_pos (.inl e)]) w
  · have wb := fun w => whole_odd h' t' la' ka' va' nl' cl' nk' ck' nv' cv' e' w
    have z : h' ≠ 0 := by intro z; subst z; exact e' rfl
    exact rest_odd2 h h' x _ ok t t' la ka va la' ka' va' nl cl nk ck nv cv nl' cl' nk' ck' nv' cv' wa wb _
      (fun v => by unfold RestP; rw [if_neg (by omega), if_neg z, if_pos (.inr (.inl e'))]) w

end Go.Proofs.YtmcahfcihhddjaaGreatDoor
