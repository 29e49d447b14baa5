/- utf8.ValidString, by the library's contract laid at this program; the two tables of package unicode/utf8 that it reads. -/
import Derived.Test.YtmcahfcihhddjaaGreatDoorBase
import Derived.Shelf.Unicode.ValidAny
import Derived.Ground.NamesProg
namespace Go.Proofs.YtmcahfcihhddjaaGreatDoor
open Go Go.RowKit Go.Shelf

def valid_ren : Go.Shelf.Ren := ⟨fun | 196 => 78 | 259 => 99 | n => n, fun | 0 => 0 | 3 => 3 | 4 => 4 | 5 => 5 | 9 => 9 | 12 => 12 | 46 => 140 | 53 => 121 | 119 => 136 | 138 => 138 | 139 => 139 | n => n, fun | 3 => 1 | 4 => 2 | n => n⟩
theorem valid_lays : Go.Proofs.Lays.n196 Tryz.prog valid_ren := {
  mixed := by kernel_rfl
  f196 := Tryz.func78.trans (congrArg some (by kernel_rfl))
  f259 := Tryz.func99.trans (congrArg some (by kernel_rfl))
  t0 := Tryz.underlying0
  a0 := Tryz.isAgg0
  z0 := Tryz.sizeOf0
  v0 := Tryz.zeroValue0
  t3 := Tryz.underlying3
  a3 := Tryz.isAgg3
  z3 := Tryz.sizeOf3
  v3 := Tryz.zeroValue3
  t4 := Tryz.underlying4
  a4 := Tryz.isAgg4
  z4 := Tryz.sizeOf4
  v4 := Tryz.zeroValue4
  t5 := Tryz.underlying5
  a5 := Tryz.isAgg5
  z5 := Tryz.sizeOf5
  v5 := Tryz.zeroValue5
  t9 := Tryz.underlying9
  a9 := Tryz.isAgg9
  z9 := Tryz.sizeOf9
  v9 := Tryz.zeroValue9
  t12 := Tryz.underlying12
  a12 := Tryz.isAgg12
  z12 := Tryz.sizeOf12
  v12 := Tryz.zeroValue12
  t46 := Tryz.underlying140
  a46 := Tryz.isAgg140
  z46 := Tryz.sizeOf140
  v46 := Tryz.zeroValue140
  t53 := Tryz.underlying121
  a53 := Tryz.isAgg121
  z53 := Tryz.sizeOf121
  v53 := Tryz.zeroValue121
  t119 := Tryz.underlying136
  a119 := Tryz.isAgg136
  z119 := Tryz.sizeOf136
  t138 := Tryz.underlying138
  a138 := Tryz.isAgg138
  z138 := Tryz.sizeOf138
  v138 := Tryz.zeroValue138
  t139 := Tryz.underlying139
  a139 := Tryz.isAgg139
  z139 := Tryz.sizeOf139
  v139 := Tryz.zeroValue139
  g3 := by kernel_rfl
  g4 := by kernel_rfl }

/-- The two tables of package unicode/utf8 lie in w. -/
def Tabs (w : World) : Prop := Lib.Utf8Tabs 1 2 w

theorem Tabs.carry {B : Nat} {w w' : World} (h : Tabs w) (hb : Below B w w') (h1 : 1 < B) (h2 : 2 < B) : Tabs w' := by
  refine ⟨fun c hc => (hb.cell (p := ⟨_, c, none⟩) h1).trans (h.1 c hc), fun i hi => ⟨(hb.cell (p := ⟨_, _, none⟩) h2).trans (h.2 i hi).1, (hb.cell (p := ⟨_, _, none⟩) h2).trans (h.2 i hi).2⟩⟩

theorem Tabs.setCell {w : World} (h : Tabs w) (b i : Nat) (u : Value) (h1 : 1 < b) (h2 : 2 < b) : Tabs (w.setCell ⟨b, i, none⟩ u) :=
  h.carry (B := b) (⟨rfl, rfl, rfl, by simp [World.setCell], fun k hk => Below.heap_setCell _ _ _ _ (by simp; omega)⟩) h1 h2

theorem valid_any (s : ByteArray) (w : World) (hs : s.size ≤ 9223372036854775807) (hT : Tabs w) :
    Calls Tryz.prog 78 #[.string s] w fun e w' => e = .returned (.bool (Lib.validD s.data.toList)) ∧ Below w.heap.size w w' :=
  Any.utf8_ValidString valid_lays s w hs hT

end Go.Proofs.YtmcahfcihhddjaaGreatDoor
