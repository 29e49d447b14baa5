/- How the program's values read: impl.Value as a tree (V), a Go value of type any as a tree (J). No function is walked here. -/
import Derived.WalkKit
import Derived.Maps.OwnSet
import Derived.Maps.RangeWalk
import Derived.Maps.AppendAt
import Derived.Lib.Hide
import Derived.Test.YtmcahfcihhddjaaGreatDoorProg
import Derived.Test.YtmcahfcihhddjaaGreatDoorVal
namespace Go.Proofs.YtmcahfcihhddjaaGreatDoor
open Go Go.RowKit Go.Maps

def reach : Nat := 140737488351232

/-- The cells cs stand at b, o. -/
def CellsAt (w : World) (b o : Nat) (cs : List Value) : Prop := ∀ j (h : j < cs.length), w.cell? ⟨b, o + j, none⟩ = some cs[j]

theorem CellsAt.below {w w' : World} {B b o : Nat} {cs : List Value} (h : CellsAt w b o cs) (hb : Below B w w') (hlt : b < B) : CellsAt w' b o cs :=
  fun j hj => (hb.cell (p := ⟨b, o + j, none⟩) hlt).trans (h j hj)

inductive RepV (w : World) (B : Nat) : V → List Value → Prop
  | mk {k h : Int} {t : ByteArray} {l : List V} {ks : List ByteArray} {vs : List V} {la ka va : Option Addr} {lc kc vc : Nat} (C D : Nat → List Value)
    (hk : -9223372036854775808 ≤ k ∧ k ≤ 9223372036854775807) (hh : -9223372036854775808 ≤ h ∧ h ≤ 9223372036854775807)
    (ht : t.size ≤ 140737488351232) (hl : l.length * 104 ≤ 140737488351232) (hks : ks.length * 16 ≤ 140737488351232) (hvs : vs.length * 104 ≤ 140737488351232)
    (hs : ∀ s ∈ ks, s.size ≤ 140737488351232)
    (cl : 0 < l.length → ∃ b o, la = some ⟨b, o, none⟩ ∧ b < B ∧ ∀ i, i < l.length → CellsAt w b (o + i * 6) (C i))
    (rl : ∀ i (hi : i < l.length), RepV w B l[i] (C i))
    (ck : 0 < ks.length → ∃ b o, ka = some ⟨b, o, none⟩ ∧ b < B ∧ ∀ i (hi : i < ks.length), w.cell? ⟨b, o + i, none⟩ = some (.string ks[i]))
    (cv : 0 < vs.length → ∃ b o, va = some ⟨b, o, none⟩ ∧ b < B ∧ ∀ i, i < vs.length → CellsAt w b (o + i * 6) (D i))
    (rv : ∀ i (hi : i < vs.length), RepV w B vs[i] (D i)) :
    RepV w B (.mk k h t l ks vs) [.int .i64 k, .int .i64 h, .string t, .slice la l.length lc, .slice ka ks.length kc, .slice va vs.length vc]

theorem RepV.carry {w w' : World} {B B' : Nat} (hb : Below B w w') (hB : B ≤ B') {v : V} {cs : List Value} (h : RepV w B v cs) : RepV w' B' v cs := by
  induction h with
  | mk C D hk hh ht hl hks hvs hs cl _ ck cv _ ihl ihv =>
    refine .mk C D hk hh ht hl hks hvs hs ?_ ihl ?_ ?_ ihv
    · intro h0
      obtain ⟨b, o, e, hlt, hc⟩ := cl h0
      exact ⟨b, o, e, by omega, fun i hi => (hc i hi).below hb hlt⟩
    · intro h0
      obtain ⟨b, o, e, hlt, hc⟩ := ck h0
      exact ⟨b, o, e, by omega, fun i hi => (hb.cell (p := ⟨b, o + i, none⟩) hlt).trans (hc i hi)⟩
    · intro h0
      obtain ⟨b, o, e, hlt, hc⟩ := cv h0
      exact ⟨b, o, e, by omega, fun i hi => (hc i hi).below hb hlt⟩

theorem RepV.mono {w : World} {B B' : Nat} (hB : B ≤ B') {v : V} {cs : List Value} (h : RepV w B v cs) : RepV w B' v cs := h.carry (Below.refl _ _) hB

end Go.Proofs.YtmcahfcihhddjaaGreatDoor
