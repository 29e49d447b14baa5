/- A region that draws its order, of which all operations but the last few only read: one walk, in the order of the text, by the cheap step. -/
import Derived.WalkKit
import Derived.StillTail
import Derived.BigQuiet
namespace Go.Proofs.YtmcahfcihhddjaaGreatDoor
open Go

theorem still_of_quiet {P : Program} {o : Oper} {a : Act} {w : World} {K : Act → Prop} (h : o.quiet P a (fun x => x = w) K) : o.still P a w K := by
  obtain ⟨v, h1, h2⟩ := h
  have h1 := h1 w rfl
  unfold Oper.quietAt at h1
  unfold Oper.still
  generalize (execOp a.eval o).run P w = r at *
  cases r with
  | halt x w' => simp [Oper.quietUpon] at h1
  | ok n w' =>
    cases n <;> simp only [Oper.quietUpon, Oper.stillUpon] at h1 ⊢
    all_goals first
      | (obtain ⟨e1, e2⟩ := h1; subst e1; subst e2; first | exact ⟨trivial, h2⟩ | exact ⟨rfl, h2⟩ | exact h2)
      | (obtain ⟨e1, e2⟩ := h1; subst e1; first | exact ⟨rfl, v, e2, h2⟩ | exact ⟨trivial, v, e2, h2⟩ | exact ⟨v, e2, h2⟩)
      | exact h1.elim

theorem wpStill_of_quiet {P : Program} {ops : Array Oper} {Q : Act → Prop} {w : World} : ∀ (l : List Oper) (a : Act), wpQuiet P ops (fun x => x = w) Q l a → wpStill P ops w Q l a
  | [], _, h => h
  | o :: rest, a, h => by
    unfold wpQuiet at h
    unfold wpStill
    split
    · rename_i hw
      rw [if_pos hw] at h
      exact Oper.still_mono (fun a h => wpStill_of_quiet rest a h) (still_of_quiet h)
    · rename_i hw
      rw [if_neg hw] at h
      exact wpStill_of_quiet rest _ h

theorem wp_region_tail {P : Program} {id : Nat} {Q : Exit → Act → World → Prop} {a : Act} {w : World} {l : List Oper} (n : Nat) (hm : P.follows .mixedOrders = true) (hB : Region.lexTailB .any l.toArray n = true)
    (h : wpQuiet P l.toArray (fun x => x = w.drew) (fun a' => wpList P l.toArray Q (l.drop n) a' w.drew) (l.take n) a) : (Code.region id l.toArray true).wp P Q a w :=
  wp_region_still_tail n hm hB (wpStill_of_quiet _ _ h)

end Go.Proofs.YtmcahfcihhddjaaGreatDoor
