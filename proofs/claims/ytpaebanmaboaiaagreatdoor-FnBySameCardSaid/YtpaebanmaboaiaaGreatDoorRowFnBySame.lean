/- laws.FnBySame returns true, whatever its argument; the argument reads behind the call as before. The row lists package-level variables; the card ties them to the program's text. -/
import Derived.Test.YtpaebanmaboaiaaGreatDoorM16
import Derived.Test.YtpaebanmaboaiaaGreatDoorM17
import Derived.Test.YtpaebanmaboaiaaGreatDoorTie
import Derived.Test.YtpaebanmaboaiaaGreatDoorCards
import Derived.WalkKit
import Derived.ProofKit
import Derived.Handy
import Derived.Lay
import Derived.SevenTiedAt
import Derived.Lib.LaidU8T
namespace Go.Proofs.YtpaebanmaboaiaaGreatDoor
open Go.ChangeShapes Go.WideShapes Go.ChangeAt Go.RowKit
theorem own : ownKnob Tryz.prog.godebug = none := by kernel_rfl
theorem laidOut : laidOutB Tryz.prog = true := by kernel_rfl
set_option maxRecDepth 100000 in
theorem lay_plain (w : World) : laidMetH Tryz.prog Rows.fnBySameRow.laid w = laidMet Tryz.prog Rows.fnBySameRow.laid w := by rw [MakeChecks.laidMetH_plain _ _ _ (by kernel_rfl)]
set_option maxRecDepth 100000 in
theorem lay_shaped (os : Os) : (World.laidAll Tryz.prog os Rows.fnBySameRow.laid).Shaped Tryz.prog := World.shaped_of_ZipB (by kernel_rfl) (by kernel_rfl)
set_option maxRecDepth 100000 in
theorem lay_met (os : Os) (args : Array Value) : laidMet Tryz.prog Rows.fnBySameRow.laid ((World.laidAll Tryz.prog os Rows.fnBySameRow.laid).forCall (fun _ _ => 0) ⟨#[], args, []⟩).memory := laidMet_laidAll _ (by kernel_rfl) (by kernel_rfl)
theorem first_data : Rows.laid_unicode_utf8_first = Lib.firstData := by kernel_rfl
theorem accept_data : (Rows.laid_unicode_utf8_acceptRanges : DataW Unit) = Lib.acceptData := by kernel_rfl
theorem tabs_of_laid {W : World} (h : laidMetH Tryz.prog Rows.fnBySameRow.laid W) : TabsB W W.heap.size := by
  rw [lay_plain] at h
  have m1 : ("unicode/utf8.first", Lib.firstData) ∈ Rows.fnBySameRow.laid := by rw [← first_data]; simp [Rows.fnBySameRow]
  have m2 : ("unicode/utf8.acceptRanges", Lib.acceptData) ∈ Rows.fnBySameRow.laid := by rw [← accept_data]; simp [Rows.fnBySameRow]
  have hT : Tabs W := utf8Tabs_of_readsT (ρ := valid_ren) (U8Types.of196 valid_lays) ⟨by kernel_rfl, by kernel_rfl, by kernel_rfl, by kernel_rfl, by kernel_rfl, by kernel_rfl, by kernel_rfl⟩ (Lib.laidMet.reads h m1) (Lib.laidMet.reads h m2)
  exact ⟨hT, World.block_lt_of_cell? W _ (hT.1 0 (by decide)), World.block_lt_of_cell? W _ (hT.2 0 (by decide)).1⟩
def zeroV : Value := .agg #[.int .i64 0, .int .i64 0, .string ByteArray.empty, .slice none 0 0, .slice none 0 0, .slice none 0 0]
set_option maxHeartbeats 1000000 in
set_option maxRecDepth 100000 in
theorem lifted (os : Os) (started : os.Started) (H : Type) (enc : TypeId × Value → H) :
    ReturnsInHanded {} Tryz.checked os 3 .any (fun w args => (Rows.fnBySameSpec.pre enc Tryz.prog Tryz.f3 [] false w args ∧ laidMetH Tryz.prog Rows.fnBySameRow.laid w) ∧ sizedMet enc Tryz.prog Tryz.f3 (OpenSpec.ofChange Rows.fnBySameSpec) false w args)
      (Rows.fnBySameSpec.post enc Tryz.prog Tryz.f3 false true false false) := by
  refine returnsInHanded_of_change_and (C := Tryz.checked) (X := fun w _ => laidMetH Tryz.prog Rows.fnBySameRow.laid w) (fun _ _ _ hh h => h.of_heap hh) own started (by kernel_rfl) Tryz.func3
    (ChangeSpec.witness_shaped (enc := enc) (C := Tryz.checked) (os := os) (X := fun w _ => laidMetH Tryz.prog Rows.fnBySameRow.laid w) false (World.laidAll Tryz.prog os Rows.fnBySameRow.laid) #[zeroV] 8 (World.laidAll_os _ _ _)
      (lay_shaped os) (by kernel_rfl) (by kernel_rfl) (by kernel_rfl)
      (by rw [lay_plain]; exact lay_met os _)) ?_
  intro W base args ds gs before hval0 hW _ hwts hL _
  have hval : ∀ (j : Nat) t v, Tryz.f3.params[j]? = some t → args[j]? = some v → Value.okWide Tryz.prog W .any base t v := hval0
  have hwts' : (DataW.weightsEach Tryz.prog (Tryz.f3.params.toList ++ Rows.fnBySameSpec.plain.varTypes Tryz.prog) (ds ++ gs)).all (· ≤ reachBytes) = true := hwts
  have hW' := hW
  obtain ⟨p, q, hA0, hV, rfl, _, _⟩ := hW
  have hA : DataW.TrodAll enc Tryz.prog W 0 (fun _ => true) true Tryz.f3.params.toList args.toList ds p := hA0
  rw [Tryz.params3] at hA hval hwts'
  obtain ⟨v0, d0, rfl, rfl, h0⟩ := trodAll_one hA
  obtain ⟨rfl, rfl⟩ := trodVars_none hV
  obtain ⟨c0, rfl, _⟩ := okWide_struct Tryz.underlying26 (hval 0 26 v0 rfl rfl)
  clear hA0 hval0
  simp only [List.append_nil] at hW'
  have hlt : ∀ x ∈ p, x.block < W.heap.size := fun x hx => by simpa using hW'.lt x hx
  have r0 : ∃ v, RepV W W.heap.size v c0.toList := by
    obtain ⟨fuel, hf⟩ := h0
    exact rep_of_trod fuel _ _ hf (fun m hm => by simpa using List.all_eq_true.1 hwts' m (DataW.weights_mem_each (j := 0) rfl rfl m hm))
  obtain ⟨x0, y0⟩ := r0
  refine (fnBySame_any W x0 c0.toList y0 (tabs_of_laid hL)).mono fun e W' ⟨he, hbel⟩ => ?_
  subst he
  exact ⟨_, rfl, _, _, _, [], _, [], hW', trodAll_mk1 (shut_bool Tryz.underlying4 _),
    trodAll_mk1 (Below.trod laidOut (by kernel_rfl) (of_decide_eq_true (by kernel_rfl)) h0 hbel (fun x hx => hlt x (hx))), rfl, hbel.frame _, fun h => by cases h⟩
set_option maxRecDepth 100000 in
theorem fact0 : (Rows.fnBySameRow.wf (OpenSpec.ofChange Rows.fnBySameSpec)) = true := by kernel_rfl
set_option maxRecDepth 100000 in
theorem fact1 : (laidOutB Tryz.prog) = true := by kernel_rfl
set_option maxRecDepth 100000 in
theorem fact2 : (mapsRowed Tryz.prog) = true := by kernel_rfl
set_option maxRecDepth 100000 in
theorem fact3 : (Tryz.f3.params.all (Tryz.prog.readableRec ·)) = true := by kernel_rfl
set_option maxRecDepth 100000 in
theorem fact4 : (namedTie Tryz.prog Rows.fnBySameRow.named Rows.fnBySameSpec.vars) = true := by kernel_rfl
set_option maxRecDepth 100000 in
theorem fact5 : ((Rows.fnBySameRow.stops == [])) = true := by kernel_rfl
set_option maxRecDepth 100000 in
theorem fact6 : ((Tryz.prog.stops == [])) = true := by kernel_rfl
set_option maxRecDepth 100000 in
theorem fact7 : ((Rows.fnBySameRow.knobs == [])) = true := by kernel_rfl
set_option maxRecDepth 100000 in
theorem fact8 : ((Tryz.prog.stopKnobs == [])) = true := by kernel_rfl
set_option maxRecDepth 100000 in
theorem fact9 : ((Rows.fnBySameRow.inPlace == Tryz.prog.inPlace 3)) = true := by kernel_rfl
set_option maxRecDepth 100000 in
theorem fact10 : ((Rows.fnBySameRow.unfollowed == Tryz.prog.unfollowed 3)) = true := by kernel_rfl
set_option maxRecDepth 100000 in
theorem fact11 : ((Rows.fnBySameRow.recurses == Tryz.prog.recurses 3)) = true := by kernel_rfl
set_option maxRecDepth 100000 in
theorem fact12 : ((Rows.fnBySameRow.named == Tryz.prog.varsNamed 3)) = true := by kernel_rfl
set_option maxRecDepth 100000 in
theorem fact13 : ((Rows.fnBySameRow.maps == (Tryz.f3.params.toList ++ Rows.fnBySameSpec.plain.varTypes Tryz.prog).any (Tryz.prog.mapsRec ·))) = true := by kernel_rfl
set_option maxRecDepth 100000 in
theorem fact14 : ((Rows.fnBySameRow.ifaces == (Tryz.f3.params.toList ++ Rows.fnBySameSpec.plain.varTypes Tryz.prog).any (Tryz.prog.ifacesRec ·))) = true := by kernel_rfl
set_option maxRecDepth 100000 in
theorem fact15 : ((Rows.fnBySameRow.mapsOut == Tryz.prog.mapsAmong Tryz.f3.resultTypes.toList)) = true := by kernel_rfl
set_option maxRecDepth 100000 in
theorem fact16 : ((Rows.fnBySameRow.loops == (Tryz.f3.params.toList ++ Rows.fnBySameSpec.plain.varTypes Tryz.prog).any (Tryz.prog.loopsFrom ·))) = true := by kernel_rfl
set_option maxRecDepth 100000 in
theorem fact17 : ((Rows.fnBySameRow.wideKeys == (Tryz.f3.params.toList ++ Rows.fnBySameSpec.plain.varTypes Tryz.prog ++ Tryz.f3.resultTypes.toList).any (Tryz.prog.wideKeysFrom ·))) = true := by kernel_rfl
set_option maxRecDepth 100000 in
theorem fact18 : (Rows.fnBySameSpec.vars.all (Tryz.prog.varReadable ·)) = true := by kernel_rfl
set_option maxRecDepth 100000 in
theorem fact19 : (Tryz.f3.resultTypes.all (fun t => Tryz.prog.readableRec t && decide (t < Tryz.prog.types.size))) = true := by kernel_rfl
set_option maxRecDepth 100000 in
theorem fact20 : ((Rows.fnBySameRow.ifacesOut == Tryz.f3.resultTypes.toList.any (Tryz.prog.ifacesRec ·))) = true := by kernel_rfl
set_option maxRecDepth 100000 in
theorem fact21 : ((Rows.fnBySameRow.loopsOut == Tryz.f3.resultTypes.toList.any (Tryz.prog.loopsFrom ·))) = true := by kernel_rfl
set_option maxRecDepth 100000 in
theorem fact22 : ((Rows.fnBySameRow.plainKeys == Tryz.prog.plainKeys)) = true := by kernel_rfl
set_option maxRecDepth 100000 in
theorem fact23 : (Rows.fnBySameRow.shortTexts.isNone) = true := by kernel_rfl
set_option maxRecDepth 100000 in
theorem fact24 : (Tryz.prog.stopsHeard) = true := by kernel_rfl
set_option maxRecDepth 100000 in
theorem fact25 : (Tryz.prog.mayEnter) = true := by kernel_rfl
set_option maxRecDepth 100000 in
theorem fact26 : ((Rows.fnBySameRow.lifted == Tryz.prog.liftsFinal)) = true := by kernel_rfl
set_option maxRecDepth 100000 in
theorem fact27 : ((Tryz.prog.make == some Rows.fnBySameRow.make)) = true := by kernel_rfl
set_option maxRecDepth 100000 in
theorem fact29 : ((Rows.fnBySameRow.pinned == Rows.fnBySameRow.pinnedBy)) = true := by kernel_rfl
set_option maxRecDepth 100000 in
theorem fact30 : ((Rows.fnBySameRow.veiled == (Tryz.f3.params.toList ++ Rows.fnBySameSpec.plain.varTypes Tryz.prog ++ Tryz.f3.resultTypes.toList).any (Tryz.prog.veiledRec ·))) = true := by kernel_rfl
set_option maxRecDepth 100000 in
theorem fact31 : (Rows.fnBySameRow.veiledFits Tryz.prog Tryz.f3.params.toList (Tryz.f3.params.toList ++ Rows.fnBySameSpec.plain.varTypes Tryz.prog ++ Tryz.f3.resultTypes.toList)) = true := by kernel_rfl
theorem facts : joinedFacts Tryz.prog 3 Tryz.f3 Rows.fnBySameSpec Rows.fnBySameRow = true := by
  unfold joinedFacts
  rw [fact0, fact1, fact2, fact3, fact4, fact5, fact6, fact7, fact8, fact9, fact10, fact11, fact12, fact13, fact14, fact15, fact16, fact17, fact18, fact19, fact20, fact21, fact22, fact23, fact24, fact25, fact26, fact27, fact29, fact30, fact31]
  simp only [Bool.true_and, Bool.and_true]
  kernel_rfl
theorem fnBySame_holds : Rows.FnBySameSaid :=
  OpenClaim.holds_of_wide 3 Tryz.f3 rfl rfl rfl rfl rfl rfl rfl ⟨rfl, rfl, rfl, rfl, rfl⟩ rfl rfl rfl rfl rfl (by kernel_rfl) Tryz.func3 facts
    (of_decide_eq_true (by kernel_rfl)) (by unfold Func.isWrapper; first | (rw [if_pos (by decide +kernel)]; kernel_rfl) | (rw [if_neg (by decide +kernel)]; exact ⟨rfl, rfl⟩))
    (fun os started H enc _ => lifted os started H enc)
theorem fnBySame_card_holds : Rows.FnBySameCardSaid :=
  Claim7.holds_tied_plain_at .later [] [.data, .data, .widerDeep, .widerDeep, .data, .data, .data, .data, .data, .data, .sentinel, .sentinel, .pinned, .pinned, .pinned] true (true, "c12f81ad2f4978391279342a805179440b5636f20901f9df55210da3bfc643d4") true fnBySame_holds (fun _ h => by cases h) (by kernel_rfl) (fun _ h => by cases h) fnBySame_row_tie rfl ⟨rfl, rfl⟩ (by kernel_rfl) rfl
    (fun f fn hf hfn => by
      obtain rfl : f = 3 := Option.some.inj ((show Tryz.prog.funcNamed "pub-strainer/laws.FnBySame" = some 3 by kernel_rfl).symm.trans hf) |>.symm
      obtain rfl : fn = Tryz.f3 := (Option.some.inj (Tryz.func3.symm.trans hfn)).symm
      exact ⟨by kernel_rfl, fun j t ht => by
        rw [Tryz.params3] at ht
        have hm : t ∈ [26] := by simpa using Array.mem_of_getElem? ht
        have hall : ([26].all fun u => !Tryz.prog.wantsStandIn u) = true := by kernel_rfl
        exact (show Tryz.prog.wantsStandIn t = false by simpa using List.all_eq_true.1 hall t hm)⟩)
    (by kernel_rfl)
#print axioms fnBySame_holds
#print axioms fnBySame_card_holds
end Go.Proofs.YtpaebanmaboaiaaGreatDoor
