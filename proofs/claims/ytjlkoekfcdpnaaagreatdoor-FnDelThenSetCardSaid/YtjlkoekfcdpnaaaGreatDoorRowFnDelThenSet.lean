/- laws.FnDelThenSet returns true, whatever its three arguments; each argument reads behind the call as before. The row lists package-level variables; the card ties them to the program's text. -/
import Derived.Test.YtjlkoekfcdpnaaaGreatDoorM21
import Derived.Test.YtjlkoekfcdpnaaaGreatDoorM22
import Derived.Test.YtjlkoekfcdpnaaaGreatDoorM19
import Derived.Test.YtjlkoekfcdpnaaaGreatDoorTie
import Derived.Test.YtjlkoekfcdpnaaaGreatDoorCards
import Derived.WalkKit
import Derived.ProofKit
import Derived.Handy
import Derived.Lay
import Derived.SevenTiedAt
import Derived.Lib.LaidU8T
namespace Go.Proofs.YtjlkoekfcdpnaaaGreatDoor
open Go.ChangeShapes Go.WideShapes Go.ChangeAt Go.RowKit
theorem own : ownKnob Tryz.prog.godebug = none := by kernel_rfl
theorem laidOut : laidOutB Tryz.prog = true := by kernel_rfl
set_option maxRecDepth 100000 in
theorem lay_plain (w : World) : laidMetH Tryz.prog Rows.fnDelThenSetRow.laid w = laidMet Tryz.prog Rows.fnDelThenSetRow.laid w := by rw [MakeChecks.laidMetH_plain _ _ _ (by kernel_rfl)]
set_option maxRecDepth 100000 in
theorem lay_shaped (os : Os) : (World.laidAll Tryz.prog os Rows.fnDelThenSetRow.laid).Shaped Tryz.prog := World.shaped_of_ZipB (by kernel_rfl) (by kernel_rfl)
set_option maxRecDepth 100000 in
theorem lay_met (os : Os) (args : Array Value) : laidMet Tryz.prog Rows.fnDelThenSetRow.laid ((World.laidAll Tryz.prog os Rows.fnDelThenSetRow.laid).forCall (fun _ _ => 0) ⟨#[], args, []⟩).memory := laidMet_laidAll _ (by kernel_rfl) (by kernel_rfl)
theorem first_data : Rows.laid_unicode_utf8_first = Lib.firstData := by kernel_rfl
theorem accept_data : (Rows.laid_unicode_utf8_acceptRanges : DataW Unit) = Lib.acceptData := by kernel_rfl
theorem tabs_of_laid {W : World} (h : laidMetH Tryz.prog Rows.fnDelThenSetRow.laid W) : TabsB W W.heap.size := by
  rw [lay_plain] at h
  have m1 : ("unicode/utf8.first", Lib.firstData) ∈ Rows.fnDelThenSetRow.laid := by rw [← first_data]; simp [Rows.fnDelThenSetRow]
  have m2 : ("unicode/utf8.acceptRanges", Lib.acceptData) ∈ Rows.fnDelThenSetRow.laid := by rw [← accept_data]; simp [Rows.fnDelThenSetRow]
  have hT : Tabs W := utf8Tabs_of_readsT (ρ := valid_ren) (U8Types.of196 valid_lays) ⟨by kernel_rfl, by kernel_rfl, by kernel_rfl, by kernel_rfl, by kernel_rfl, by kernel_rfl, by kernel_rfl⟩ (Lib.laidMet.reads h m1) (Lib.laidMet.reads h m2)
  exact ⟨hT, World.block_lt_of_cell? W _ (hT.1 0 (by decide)), World.block_lt_of_cell? W _ (hT.2 0 (by decide)).1⟩
def zeroV : Value := .agg #[.int .i64 0, .int .i64 0, .string ByteArray.empty, .slice none 0 0, .slice none 0 0, .slice none 0 0]
set_option maxHeartbeats 1000000 in
set_option maxRecDepth 100000 in
theorem lifted (os : Os) (started : os.Started) (H : Type) (enc : TypeId × Value → H) :
    ReturnsInHanded {} Tryz.checked os 3 .any (fun w args => (Rows.fnDelThenSetSpec.pre enc Tryz.prog Tryz.f3 [] false w args ∧ laidMetH Tryz.prog Rows.fnDelThenSetRow.laid w) ∧ sizedMet enc Tryz.prog Tryz.f3 (OpenSpec.ofChange Rows.fnDelThenSetSpec) false w args)
      (Rows.fnDelThenSetSpec.post enc Tryz.prog Tryz.f3 false true false false) := by
  refine returnsInHanded_of_change_and (C := Tryz.checked) (X := fun w _ => laidMetH Tryz.prog Rows.fnDelThenSetRow.laid w) (fun _ _ _ hh h => h.of_heap hh) own started (by kernel_rfl) Tryz.func3
    (ChangeSpec.witness_shaped (enc := enc) (C := Tryz.checked) (os := os) (X := fun w _ => laidMetH Tryz.prog Rows.fnDelThenSetRow.laid w) false (World.laidAll Tryz.prog os Rows.fnDelThenSetRow.laid) #[zeroV, .slice none 0 0, zeroV] 8 (World.laidAll_os _ _ _)
      (lay_shaped os) (by kernel_rfl) (by kernel_rfl) (by kernel_rfl)
      (by rw [lay_plain]; exact lay_met os _)) ?_
  intro W base args ds gs before hval0 hW _ hwts hL _
  have hval : ∀ (j : Nat) t v, Tryz.f3.params[j]? = some t → args[j]? = some v → Value.okWide Tryz.prog W .any base t v := hval0
  have hwts' : (DataW.weightsEach Tryz.prog (Tryz.f3.params.toList ++ Rows.fnDelThenSetSpec.plain.varTypes Tryz.prog) (ds ++ gs)).all (· ≤ reachBytes) = true := hwts
  have hW' := hW
  obtain ⟨p, q, hA0, hV, rfl, _, _⟩ := hW
  have hA : DataW.TrodAll enc Tryz.prog W 0 (fun _ => true) true Tryz.f3.params.toList args.toList ds p := hA0
  rw [Tryz.params3] at hA hval hwts'
  obtain ⟨v0, v1, v2, d0, d1, d2, p0, p1, p2, rfl, rfl, rfl, h0, h1, h2⟩ := trodAll_three hA
  obtain ⟨rfl, rfl⟩ := trodVars_none hV
  obtain ⟨c0, rfl, _⟩ := okWide_struct Tryz.underlying26 (hval 0 26 v0 rfl rfl)
  obtain ⟨a1, n1, m1, rfl⟩ := okWide_slice Tryz.underlying23 (hval 1 23 v1 rfl rfl)
  obtain ⟨c2, rfl, _⟩ := okWide_struct Tryz.underlying26 (hval 2 26 v2 rfl rfl)
  clear hA0 hval0
  simp only [List.append_nil] at hW'
  have hlt : ∀ x ∈ p0 ++ p1 ++ p2, x.block < W.heap.size := fun x hx => by simpa using hW'.lt x hx
  have r0 : ∃ v, RepV W W.heap.size v c0.toList := by
    obtain ⟨fuel, hf⟩ := h0
    exact rep_of_trod fuel _ _ hf (fun m hm => by simpa using List.all_eq_true.1 hwts' m (DataW.weights_mem_each (j := 0) rfl rfl m hm))
  obtain ⟨x0, y0⟩ := r0
  have r1 := h1
  obtain ⟨fuel1, hf1⟩ := r1
  obtain ⟨l1, la1, lc1, C1, e1, s1, cl1, rl1, hc1⟩ := list_of_trod hf1 (fun m hm => by simpa using List.all_eq_true.1 hwts' m (DataW.weights_mem_each (j := 1) rfl rfl m hm))
  cases e1
  have r2 : ∃ v, RepV W W.heap.size v c2.toList := by
    obtain ⟨fuel, hf⟩ := h2
    exact rep_of_trod fuel _ _ hf (fun m hm => by simpa using List.all_eq_true.1 hwts' m (DataW.weights_mem_each (j := 2) rfl rfl m hm))
  obtain ⟨x2, y2⟩ := r2
  refine (fnDelThenSet_any W x0 c0.toList y0 l1 a1 m1 C1 s1 cl1 rl1 hc1 x2 c2.toList y2 (tabs_of_laid hL)).mono fun e W' ⟨he, hbel⟩ => ?_
  subst he
  exact ⟨_, rfl, _, _, _, [], _, [], hW', trodAll_mk1 (shut_bool Tryz.underlying4 _),
    trodAll_mk3 (Below.trod laidOut (by kernel_rfl) (of_decide_eq_true (by kernel_rfl)) h0 hbel (fun x hx => hlt x (List.mem_append.2 (.inl (List.mem_append.2 (.inl hx))))))
      (Below.trod laidOut (by kernel_rfl) (of_decide_eq_true (by kernel_rfl)) h1 hbel (fun x hx => hlt x (List.mem_append.2 (.inl (List.mem_append.2 (.inr hx))))))
      (Below.trod laidOut (by kernel_rfl) (of_decide_eq_true (by kernel_rfl)) h2 hbel (fun x hx => hlt x (List.mem_append.2 (.inr hx)))), rfl, hbel.frame _, fun h => by cases h⟩
set_option maxRecDepth 100000 in
theorem fact0 : (Rows.fnDelThenSetRow.wf (OpenSpec.ofChange Rows.fnDelThenSetSpec)) = true := by kernel_rfl
set_option maxRecDepth 100000 in
theorem fact1 : (laidOutB Tryz.prog) = true := by kernel_rfl
set_option maxRecDepth 100000 in
theorem fact2 : (mapsRowed Tryz.prog) = true := by kernel_rfl
set_option maxRecDepth 100000 in
theorem fact3 : (Tryz.f3.params.all (Tryz.prog.readableRec ·)) = true := by kernel_rfl
set_option maxRecDepth 100000 in
theorem fact4 : (namedTie Tryz.prog Rows.fnDelThenSetRow.named Rows.fnDelThenSetSpec.vars) = true := by kernel_rfl
set_option maxRecDepth 100000 in
theorem fact5 : ((Rows.fnDelThenSetRow.stops == [])) = true := by kernel_rfl
set_option maxRecDepth 100000 in
theorem fact6 : ((Tryz.prog.stops == [])) = true := by kernel_rfl
set_option maxRecDepth 100000 in
theorem fact7 : ((Rows.fnDelThenSetRow.knobs == [])) = true := by kernel_rfl
set_option maxRecDepth 100000 in
theorem fact8 : ((Tryz.prog.stopKnobs == [])) = true := by kernel_rfl
set_option maxRecDepth 100000 in
theorem fact9 : ((Rows.fnDelThenSetRow.inPlace == Tryz.prog.inPlace 3)) = true := by kernel_rfl
set_option maxRecDepth 100000 in
theorem fact10 : ((Rows.fnDelThenSetRow.unfollowed == Tryz.prog.unfollowed 3)) = true := by kernel_rfl
set_option maxRecDepth 100000 in
theorem fact11 : ((Rows.fnDelThenSetRow.recurses == Tryz.prog.recurses 3)) = true := by kernel_rfl
set_option maxRecDepth 100000 in
theorem fact12 : ((Rows.fnDelThenSetRow.named == Tryz.prog.varsNamed 3)) = true := by kernel_rfl
set_option maxRecDepth 100000 in
theorem fact13 : ((Rows.fnDelThenSetRow.maps == (Tryz.f3.params.toList ++ Rows.fnDelThenSetSpec.plain.varTypes Tryz.prog).any (Tryz.prog.mapsRec ·))) = true := by kernel_rfl
set_option maxRecDepth 100000 in
theorem fact14 : ((Rows.fnDelThenSetRow.ifaces == (Tryz.f3.params.toList ++ Rows.fnDelThenSetSpec.plain.varTypes Tryz.prog).any (Tryz.prog.ifacesRec ·))) = true := by kernel_rfl
set_option maxRecDepth 100000 in
theorem fact15 : ((Rows.fnDelThenSetRow.mapsOut == Tryz.prog.mapsAmong Tryz.f3.resultTypes.toList)) = true := by kernel_rfl
set_option maxRecDepth 100000 in
theorem fact16 : ((Rows.fnDelThenSetRow.loops == (Tryz.f3.params.toList ++ Rows.fnDelThenSetSpec.plain.varTypes Tryz.prog).any (Tryz.prog.loopsFrom ·))) = true := by kernel_rfl
set_option maxRecDepth 100000 in
theorem fact17 : ((Rows.fnDelThenSetRow.wideKeys == (Tryz.f3.params.toList ++ Rows.fnDelThenSetSpec.plain.varTypes Tryz.prog ++ Tryz.f3.resultTypes.toList).any (Tryz.prog.wideKeysFrom ·))) = true := by kernel_rfl
set_option maxRecDepth 100000 in
theorem fact18 : (Rows.fnDelThenSetSpec.vars.all (Tryz.prog.varReadable ·)) = true := by kernel_rfl
set_option maxRecDepth 100000 in
theorem fact19 : (Tryz.f3.resultTypes.all (fun t => Tryz.prog.readableRec t && decide (t < Tryz.prog.types.size))) = true := by kernel_rfl
set_option maxRecDepth 100000 in
theorem fact20 : ((Rows.fnDelThenSetRow.ifacesOut == Tryz.f3.resultTypes.toList.any (Tryz.prog.ifacesRec ·))) = true := by kernel_rfl
set_option maxRecDepth 100000 in
theorem fact21 : ((Rows.fnDelThenSetRow.loopsOut == Tryz.f3.resultTypes.toList.any (Tryz.prog.loopsFrom ·))) = true := by kernel_rfl
set_option maxRecDepth 100000 in
theorem fact22 : ((Rows.fnDelThenSetRow.plainKeys == Tryz.prog.plainKeys)) = true := by kernel_rfl
set_option maxRecDepth 100000 in
theorem fact23 : (Rows.fnDelThenSetRow.shortTexts.isNone) = true := by kernel_rfl
set_option maxRecDepth 100000 in
theorem fact24 : (Tryz.prog.stopsHeard) = true := by kernel_rfl
set_option maxRecDepth 100000 in
theorem fact25 : (Tryz.prog.mayEnter) = true := by kernel_rfl
set_option maxRecDepth 100000 in
theorem fact26 : ((Rows.fnDelThenSetRow.lifted == Tryz.prog.liftsFinal)) = true := by kernel_rfl
set_option maxRecDepth 100000 in
theorem fact27 : ((Tryz.prog.make == some Rows.fnDelThenSetRow.make)) = true := by kernel_rfl
set_option maxRecDepth 100000 in
theorem fact29 : ((Rows.fnDelThenSetRow.pinned == Rows.fnDelThenSetRow.pinnedBy)) = true := by kernel_rfl
set_option maxRecDepth 100000 in
theorem fact30 : ((Rows.fnDelThenSetRow.veiled == (Tryz.f3.params.toList ++ Rows.fnDelThenSetSpec.plain.varTypes Tryz.prog ++ Tryz.f3.resultTypes.toList).any (Tryz.prog.veiledRec ·))) = true := by kernel_rfl
set_option maxRecDepth 100000 in
theorem fact31 : (Rows.fnDelThenSetRow.veiledFits Tryz.prog Tryz.f3.params.toList (Tryz.f3.params.toList ++ Rows.fnDelThenSetSpec.plain.varTypes Tryz.prog ++ Tryz.f3.resultTypes.toList)) = true := by kernel_rfl
theorem facts : joinedFacts Tryz.prog 3 Tryz.f3 Rows.fnDelThenSetSpec Rows.fnDelThenSetRow = true := by
  unfold joinedFacts
  rw [fact0, fact1, fact2, fact3, fact4, fact5, fact6, fact7, fact8, fact9, fact10, fact11, fact12, fact13, fact14, fact15, fact16, fact17, fact18, fact19, fact20, fact21, fact22, fact23, fact24, fact25, fact26, fact27, fact29, fact30, fact31]
  simp only [Bool.true_and, Bool.and_true]
  kernel_rfl
theorem fnDelThenSet_holds : Rows.FnDelThenSetSaid :=
  OpenClaim.holds_of_wide 3 Tryz.f3 rfl rfl rfl rfl rfl rfl rfl ⟨rfl, rfl, rfl, rfl, rfl⟩ rfl rfl rfl rfl rfl (by kernel_rfl) Tryz.func3 facts
    (of_decide_eq_true (by kernel_rfl)) (by unfold Func.isWrapper; first | (rw [if_pos (by decide +kernel)]; kernel_rfl) | (rw [if_neg (by decide +kernel)]; exact ⟨rfl, rfl⟩))
    (fun os started H enc _ => lifted os started H enc)
theorem fnDelThenSet_card_holds : Rows.FnDelThenSetCardSaid :=
  Claim7.holds_tied_plain_at .later [] [.data, .data, .widerDeep, .widerDeep, .data, .data, .data, .data, .data, .data, .sentinel, .sentinel, .pinned, .pinned, .pinned] true (true, "bf946ba2821f404743a8fd79cda77c8b3ceb5bac9dd7fcc5793563702f944922") true fnDelThenSet_holds (fun _ h => by cases h) (by kernel_rfl) (fun _ h => by cases h) fnDelThenSet_row_tie rfl ⟨rfl, rfl⟩ (by kernel_rfl) rfl
    (fun f fn hf hfn => by
      obtain rfl : f = 3 := Option.some.inj ((show Tryz.prog.funcNamed "pub-strainer/laws.FnDelThenSet" = some 3 by kernel_rfl).symm.trans hf) |>.symm
      obtain rfl : fn = Tryz.f3 := (Option.some.inj (Tryz.func3.symm.trans hfn)).symm
      exact ⟨by kernel_rfl, fun j t ht => by
        rw [Tryz.params3] at ht
        have hm : t ∈ [26, 23, 26] := by simpa using Array.mem_of_getElem? ht
        have hall : ([26, 23, 26].all fun u => !Tryz.prog.wantsStandIn u) = true := by kernel_rfl
        exact (show Tryz.prog.wantsStandIn t = false by simpa using List.all_eq_true.1 hall t hm)⟩)
    (by kernel_rfl)
#print axioms fnDelThenSet_holds
#print axioms fnDelThenSet_card_holds
end Go.Proofs.YtjlkoekfcdpnaaaGreatDoor
