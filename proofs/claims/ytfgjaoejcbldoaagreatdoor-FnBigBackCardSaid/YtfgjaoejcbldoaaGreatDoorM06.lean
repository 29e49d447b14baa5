/- The library's contracts of strconv.ParseInt and strconv.Itoa laid at this program in plain words (the layings printed by the kit's lay-plain.mjs), and what they say of an integer's text. -/
import Derived.Shelf.SlGeneric
import Derived.Lib.AtoiErrMem
import Derived.Lib.AppendIntMem
import Derived.Shelf.Strconv.ErrVarParseInt
import Derived.Shelf.Strconv.Itoa3
import Derived.Ground.NamesProg
import Derived.Test.YtfgjaoejcbldoaaGreatDoorM05
import Derived.Test.YtfgjaoejcbldoaaGreatDoorM02
namespace Go.Proofs
open Go.Shelf
def Tryz.layPI_ren : Go.Shelf.Ren := ⟨fun | 174 => 138 | 247 => 165 | 245 => 148 | 287 => 179 | 279 => 169 | 280 => 170 | 281 => 171 | 282 => 172 | 321 => 186 | 322 => 187 | 316 => 182 | 171 => 20 | 205 => 183 | 243 => 28 | 246 => 73 | 283 => 105 | 284 => 106 | 285 => 107 | 286 => 108 | 129 => 143 | 317 => 142 | 318 => 144 | 319 => 145 | 320 => 146 | 337 => 166 | 338 => 167 | n => n, fun | 9 => 9 | 3 => 3 | 2 => 2 | 75 => 37 | 85 => 111 | 4 => 4 | 167 => 188 | 5 => 5 | 53 => 89 | 175 => 197 | 46 => 125 | 168 => 189 | 37 => 79 | 0 => 0 | 210 => 204 | 21 => 21 | 127 => 170 | 145 => 229 | 143 => 227 | 171 => 115 | 173 => 118 | 212 => 162 | 51 => 120 | 20 => 20 | 213 => 163 | 232 => 199 | 233 => 200 | 80 => 40 | n => n, fun | 15 => 6 | 16 => 7 | 17 => 1 | 18 => 4 | 19 => 5 | n => n⟩
theorem Tryz.layPI : Go.Proofs.LaysC.n174 Tryz.prog Tryz.layPI_ren := {
  mixed := by kernel_rfl
  f129 := Tryz.func143.trans (congrArg some (by kernel_rfl))
  f171 := Tryz.func20.trans (congrArg some (by kernel_rfl))
  f174 := Tryz.func138.trans (congrArg some (by kernel_rfl))
  f205 := Tryz.func183.trans (congrArg some (by kernel_rfl))
  f243 := Tryz.func28.trans (congrArg some (by kernel_rfl))
  f245 := Tryz.func148.trans (congrArg some (by kernel_rfl))
  f246 := Tryz.func73.trans (congrArg some (by kernel_rfl))
  f247 := Tryz.func165.trans (congrArg some (by kernel_rfl))
  f279 := Tryz.func169.trans (congrArg some (by kernel_rfl))
  f280 := Tryz.func170.trans (congrArg some (by kernel_rfl))
  f281 := Tryz.func171.trans (congrArg some (by kernel_rfl))
  f282 := Tryz.func172.trans (congrArg some (by kernel_rfl))
  f283 := Tryz.func105.trans (congrArg some (by kernel_rfl))
  f284 := Tryz.func106.trans (congrArg some (by kernel_rfl))
  f285 := Tryz.func107.trans (congrArg some (by kernel_rfl))
  f286 := Tryz.func108.trans (congrArg some (by kernel_rfl))
  f287 := Tryz.func179.trans (congrArg some (by kernel_rfl))
  f316 := Tryz.func182.trans (congrArg some (by kernel_rfl))
  f317 := Tryz.func142.trans (congrArg some (by kernel_rfl))
  f318 := Tryz.func144.trans (congrArg some (by kernel_rfl))
  f319 := Tryz.func145.trans (congrArg some (by kernel_rfl))
  f320 := Tryz.func146.trans (congrArg some (by kernel_rfl))
  f321 := Tryz.func186.trans (congrArg some (by kernel_rfl))
  f322 := Tryz.func187.trans (congrArg some (by kernel_rfl))
  f337 := Tryz.func166.trans (congrArg some (by kernel_rfl))
  f338 := Tryz.func167.trans (congrArg some (by kernel_rfl))
  t0 := Tryz.underlying0
  a0 := Tryz.isAgg0
  z0 := Tryz.sizeOf0
  v0 := Tryz.zeroValue0
  t2 := Tryz.underlying2
  a2 := Tryz.isAgg2
  z2 := Tryz.sizeOf2
  v2 := Tryz.zeroValue2
  t3 := Tryz.underlying3
  a3 := Tryz.isAgg3
  z3 := Tryz.sizeOf3
  v3 := Tryz.zeroValue3
  t4 := Tryz.underlying4
  a4 := Tryz.isAgg4
  z4 := Tryz.sizeOf4
  v4 := Tryz.zeroValue4
  t5 := Tryz.underlying5
  a5 := Tryz.isAgg5
  z5 := Tryz.sizeOf5
  v5 := Tryz.zeroValue5
  t9 := Tryz.underlying9
  a9 := Tryz.isAgg9
  z9 := Tryz.sizeOf9
  v9 := Tryz.zeroValue9
  t20 := Tryz.underlying20
  a20 := Tryz.isAgg20
  z20 := Tryz.sizeOf20
  v20 := Tryz.zeroValue20
  t21 := Tryz.underlying21
  a21 := Tryz.isAgg21
  z21 := Tryz.sizeOf21
  v21 := Tryz.zeroValue21
  t37 := Tryz.underlying79
  a37 := Tryz.isAgg79
  z37 := Tryz.sizeOf79
  v37 := Tryz.zeroValue79
  t46 := Tryz.underlying125
  a46 := Tryz.isAgg125
  z46 := Tryz.sizeOf125
  v46 := Tryz.zeroValue125
  t51 := Tryz.underlying120
  a51 := Tryz.isAgg120
  z51 := Tryz.sizeOf120
  v51 := Tryz.zeroValue120
  t53 := Tryz.underlying89
  a53 := Tryz.isAgg89
  z53 := Tryz.sizeOf89
  v53 := Tryz.zeroValue89
  t75 := Tryz.underlying37
  a75 := Tryz.isAgg37
  z75 := Tryz.sizeOf37
  v75 := Tryz.zeroValue37
  t85 := Tryz.underlying111
  a85 := Tryz.isAgg111
  z85 := Tryz.sizeOf111
  v85 := Tryz.zeroValue111
  t127 := Tryz.underlying170
  a127 := Tryz.isAgg170
  z127 := Tryz.sizeOf170
  v127 := Tryz.zeroValue170
  t143 := Tryz.underlying227
  a143 := Tryz.isAgg227
  z143 := Tryz.sizeOf227
  v143 := Tryz.zeroValue227
  t145 := Tryz.underlying229
  a145 := Tryz.isAgg229
  z145 := Tryz.sizeOf229
  v145 := Tryz.zeroValue229
  t167 := Tryz.underlying188
  a167 := Tryz.isAgg188
  z167 := Tryz.sizeOf188
  v167 := Tryz.zeroValue188
  t168 := Tryz.underlying189
  a168 := Tryz.isAgg189
  z168 := Tryz.sizeOf189
  v168 := Tryz.zeroValue189
  t171 := Tryz.underlying115
  a171 := Tryz.isAgg115
  z171 := Tryz.sizeOf115
  v171 := Tryz.zeroValue115
  t173 := Tryz.underlying118
  a173 := Tryz.isAgg118
  z173 := Tryz.sizeOf118
  v173 := Tryz.zeroValue118
  t175 := Tryz.underlying197
  a175 := Tryz.isAgg197
  z175 := Tryz.sizeOf197
  v175 := Tryz.zeroValue197
  t210 := Tryz.underlying204
  a210 := Tryz.isAgg204
  z210 := Tryz.sizeOf204
  v210 := Tryz.zeroValue204
  t212 := Tryz.underlying162
  a212 := Tryz.isAgg162
  z212 := Tryz.sizeOf162
  v212 := Tryz.zeroValue162
  t213 := Tryz.underlying163
  a213 := Tryz.isAgg163
  z213 := Tryz.sizeOf163
  t232 := Tryz.underlying199
  a232 := Tryz.isAgg199
  z232 := Tryz.sizeOf199
  v232 := Tryz.zeroValue199
  t233 := Tryz.underlying200
  a233 := Tryz.isAgg200
  z233 := Tryz.sizeOf200
  v233 := Tryz.zeroValue200
  g15 := by kernel_rfl
  g16 := by kernel_rfl
  g17 := by kernel_rfl
  g18 := by kernel_rfl
  g19 := by kernel_rfl
  t80 := Tryz.underlying40
  a80 := Tryz.isAgg40
  z80 := Tryz.sizeOf40
  v80 := Tryz.zeroValue40
  i0 := by kernel_rfl
  i2 := by kernel_rfl
  i3 := by kernel_rfl
  i4 := by kernel_rfl
  i5 := by kernel_rfl
  i9 := by kernel_rfl
  i20 := by kernel_rfl
  i21 := by kernel_rfl
  i37 := by kernel_rfl
  i46 := by kernel_rfl
  i51 := by kernel_rfl
  i53 := by kernel_rfl
  i75 := by kernel_rfl
  i80 := by kernel_rfl
  i85 := by kernel_rfl
  i127 := by kernel_rfl
  i143 := by kernel_rfl
  i145 := by kernel_rfl
  i167 := by kernel_rfl
  i168 := by kernel_rfl
  i171 := by kernel_rfl
  i173 := by kernel_rfl
  i175 := by kernel_rfl
  i210 := by kernel_rfl
  i212 := by kernel_rfl
  i232 := by kernel_rfl
  i233 := by kernel_rfl
  m15 := by kernel_rfl
  m16 := by kernel_rfl
  m17 := by kernel_rfl
  m18 := by kernel_rfl
  m19 := by kernel_rfl
  c0 := by kernel_rfl
  c2 := by kernel_rfl
  c3 := by kernel_rfl
  c4 := by kernel_rfl
  c5 := by kernel_rfl
  c9 := by kernel_rfl
  c20 := by kernel_rfl
  c21 := by kernel_rfl
  c37 := by kernel_rfl
  c46 := by kernel_rfl
  c51 := by kernel_rfl
  c53 := by kernel_rfl
  c75 := by kernel_rfl
  c80 := by kernel_rfl
  c85 := by kernel_rfl
  c127 := by kernel_rfl
  c143 := by kernel_rfl
  c145 := by kernel_rfl
  c167 := by kernel_rfl
  c168 := by kernel_rfl
  c171 := by kernel_rfl
  c173 := by kernel_rfl
  c175 := by kernel_rfl
  c210 := by kernel_rfl
  c212 := by kernel_rfl
  c213 := by kernel_rfl
  c232 := by kernel_rfl
  c233 := by kernel_rfl }
def Tryz.layIt_ren : Go.Shelf.Ren := ⟨fun | 171 => 20 | 243 => 28 | 246 => 73 | 283 => 105 | 284 => 106 | 285 => 107 | 286 => 108 | 129 => 143 | 317 => 142 | 318 => 144 | 319 => 145 | 320 => 146 | 337 => 166 | 338 => 167 | n => n, fun | 3 => 3 | 9 => 9 | 2 => 2 | 4 => 4 | 171 => 115 | 0 => 0 | 53 => 89 | 37 => 79 | 5 => 5 | 173 => 118 | 212 => 162 | 51 => 120 | 20 => 20 | 213 => 163 | 46 => 125 | 232 => 199 | 233 => 200 | n => n, fun | 17 => 1 | 18 => 4 | 19 => 5 | n => n⟩
theorem Tryz.layIt : Go.Proofs.LaysM.n171 Tryz.prog Tryz.layIt_ren := {
  mixed := by kernel_rfl
  f129 := Tryz.func143.trans (congrArg some (by kernel_rfl))
  f171 := Tryz.func20.trans (congrArg some (by kernel_rfl))
  f243 := Tryz.func28.trans (congrArg some (by kernel_rfl))
  f246 := Tryz.func73.trans (congrArg some (by kernel_rfl))
  f283 := Tryz.func105.trans (congrArg some (by kernel_rfl))
  f284 := Tryz.func106.trans (congrArg some (by kernel_rfl))
  f285 := Tryz.func107.trans (congrArg some (by kernel_rfl))
  f286 := Tryz.func108.trans (congrArg some (by kernel_rfl))
  f317 := Tryz.func142.trans (congrArg some (by kernel_rfl))
  f318 := Tryz.func144.trans (congrArg some (by kernel_rfl))
  f319 := Tryz.func145.trans (congrArg some (by kernel_rfl))
  f320 := Tryz.func146.trans (congrArg some (by kernel_rfl))
  f337 := Tryz.func166.trans (congrArg some (by kernel_rfl))
  f338 := Tryz.func167.trans (congrArg some (by kernel_rfl))
  t0 := Tryz.underlying0
  a0 := Tryz.isAgg0
  z0 := Tryz.sizeOf0
  v0 := Tryz.zeroValue0
  t2 := Tryz.underlying2
  a2 := Tryz.isAgg2
  z2 := Tryz.sizeOf2
  v2 := Tryz.zeroValue2
  t3 := Tryz.underlying3
  a3 := Tryz.isAgg3
  z3 := Tryz.sizeOf3
  v3 := Tryz.zeroValue3
  t4 := Tryz.underlying4
  a4 := Tryz.isAgg4
  z4 := Tryz.sizeOf4
  v4 := Tryz.zeroValue4
  t5 := Tryz.underlying5
  a5 := Tryz.isAgg5
  z5 := Tryz.sizeOf5
  v5 := Tryz.zeroValue5
  t9 := Tryz.underlying9
  a9 := Tryz.isAgg9
  z9 := Tryz.sizeOf9
  v9 := Tryz.zeroValue9
  t20 := Tryz.underlying20
  a20 := Tryz.isAgg20
  z20 := Tryz.sizeOf20
  v20 := Tryz.zeroValue20
  t37 := Tryz.underlying79
  a37 := Tryz.isAgg79
  z37 := Tryz.sizeOf79
  v37 := Tryz.zeroValue79
  t46 := Tryz.underlying125
  a46 := Tryz.isAgg125
  z46 := Tryz.sizeOf125
  v46 := Tryz.zeroValue125
  t51 := Tryz.underlying120
  a51 := Tryz.isAgg120
  z51 := Tryz.sizeOf120
  v51 := Tryz.zeroValue120
  t53 := Tryz.underlying89
  a53 := Tryz.isAgg89
  z53 := Tryz.sizeOf89
  v53 := Tryz.zeroValue89
  t171 := Tryz.underlying115
  a171 := Tryz.isAgg115
  z171 := Tryz.sizeOf115
  v171 := Tryz.zeroValue115
  t173 := Tryz.underlying118
  a173 := Tryz.isAgg118
  z173 := Tryz.sizeOf118
  v173 := Tryz.zeroValue118
  t212 := Tryz.underlying162
  a212 := Tryz.isAgg162
  z212 := Tryz.sizeOf162
  v212 := Tryz.zeroValue162
  t213 := Tryz.underlying163
  a213 := Tryz.isAgg163
  z213 := Tryz.sizeOf163
  t232 := Tryz.underlying199
  a232 := Tryz.isAgg199
  z232 := Tryz.sizeOf199
  v232 := Tryz.zeroValue199
  t233 := Tryz.underlying200
  a233 := Tryz.isAgg200
  z233 := Tryz.sizeOf200
  v233 := Tryz.zeroValue200
  g17 := by kernel_rfl
  g18 := by kernel_rfl
  g19 := by kernel_rfl
  i0 := by kernel_rfl
  i2 := by kernel_rfl
  i3 := by kernel_rfl
  i4 := by kernel_rfl
  i5 := by kernel_rfl
  i9 := by kernel_rfl
  i20 := by kernel_rfl
  i37 := by kernel_rfl
  i46 := by kernel_rfl
  i51 := by kernel_rfl
  i53 := by kernel_rfl
  i171 := by kernel_rfl
  i173 := by kernel_rfl
  i212 := by kernel_rfl
  i232 := by kernel_rfl
  i233 := by kernel_rfl
  m17 := by kernel_rfl
  m18 := by kernel_rfl
  m19 := by kernel_rfl }
end Go.Proofs
namespace Go.Proofs.YtfgjaoejcbldoaaGreatDoor
open Go Go.RowKit Go.Deep
/-- The library's variables that are read. -/
structure BigTabs (w : World) : Prop where
  pow : Lib.TabIs Tryz.prog w "internal/strconv.uint64pow10" .u64 Lib.pow10Tab
  rng : ∃ tp p, w.var? Tryz.prog "strconv.ErrRange" = some #[.iface tp p]
theorem var_carry {P : Program} {w w' : World} {n : String} {cs : Array Value} (h : w.var? P n = some cs) (hb : Below w.heap.size w w') : w'.var? P n = some cs := by
  unfold World.var? at h ⊢
  cases hg : P.globalNamed n with
  | none => rw [hg] at h; simp at h
  | some g =>
    rw [hg] at h
    simp only [Option.bind_some] at h ⊢
    cases hh : w.heap[g]? with
    | none => simp [hh] at h
    | some o =>
      have hlt : g < w.heap.size := (Array.getElem?_eq_some_iff.1 hh).1
      rw [hb.block g hlt]
      exact h
theorem BigTabs.carry {w w' : World} (h : BigTabs w) (hb : Below w.heap.size w w') : BigTabs w' :=
  ⟨var_carry h.pow hb, h.rng.elim fun tp h => h.elim fun p h => ⟨tp, p, var_carry h hb⟩⟩
/-- How ParseInt answers at an integer's text. -/
def ParseP (w : World) (l : List UInt8) (e : Ending) (w' : World) : Prop :=
  ((I64 (wholeN l) ∧ e = .returned (.tuple #[.int .i64 (wholeN l), .nilIface])) ∨ (¬ I64 (wholeN l) ∧ ∃ k t b, e = .returned (.tuple #[.int .i64 k, .iface t (.pointer (some ⟨b, 0, none⟩))]))) ∧ Below w.heap.size w w'
theorem parseInt_any (w : World) (l : List UInt8) (h : WholeT l) (hl : l.length ≤ 281474976710656) (hT : BigTabs w) : Calls Tryz.prog 138 #[.string (strL l), .int .i64 10, .int .i64 64] w (ParseP w l) := by
  have hp := parseInt_whole h
  have hs : (strL l).size = l.length := by simp [strL, ByteArray.size]
  have hd : (strL l).data.toList = l := rfl
  by_cases hI : I64 (wholeN l)
  · rw [if_pos (show -9223372036854775808 ≤ wholeN l ∧ wholeN l ≤ 9223372036854775807 from hI)] at hp
    refine (Any.strconv_ParseInt_10_at64_ok Tryz.layPI (strL l) (by omega) (wholeN l) (by rw [hd]; exact hp) w).mono ?_
    rintro e w' ⟨rfl, rfl | ⟨t, rfl⟩⟩
    · exact ⟨.inl ⟨hI, rfl⟩, Below.refl _ _⟩
    · exact ⟨.inl ⟨hI, rfl⟩, Lib.bytesWorld_below _ _ _⟩
  · rw [if_neg (show ¬ (-9223372036854775808 ≤ wholeN l ∧ wholeN l ≤ 9223372036854775807) from hI)] at hp
    obtain ⟨tp, p, hv⟩ := hT.rng
    refine (Any.strconv_ParseInt_10_at64_range_var Tryz.layPI (strL l) (by omega) (by rw [hd]; exact hp) tp p w hv).mono ?_
    rintro e w' ⟨b, rfl, _, _, hb⟩
    exact ⟨.inr ⟨hI, _, _, _, rfl⟩, hb⟩
theorem itoa_any (w : World) (n : Int) (h : I64 n) (hT : BigTabs w) : Calls Tryz.prog 20 #[.int .i64 n] w (StrP w (Lib.itoa n)) := by
  refine (Any.strconv_Itoa Tryz.layIt n h.1 h.2 w hT.pow).mono ?_
  rintro e w' ⟨rfl, k, os, rfl⟩
  exact ⟨rfl, Lib.below_grow _ _ (Nat.le_refl _) _ _⟩
end Go.Proofs.YtfgjaoejcbldoaaGreatDoor
