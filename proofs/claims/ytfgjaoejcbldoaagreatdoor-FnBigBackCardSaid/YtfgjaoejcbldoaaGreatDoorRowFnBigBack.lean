/- laws.FnBigBack answers yes for every two texts: what was added is taken away again, what was multiplied is divided again. No further condition. -/
import Derived.Test.YtfgjaoejcbldoaaGreatDoorM17
import Derived.Test.YtfgjaoejcbldoaaGreatDoorTie
import Derived.Test.YtfgjaoejcbldoaaGreatDoorCards
import Derived.WalkKit
import Derived.ProofKit
import Derived.Handy
import Derived.Lay
import Derived.SevenTiedAt
import Derived.ChangeMaps5
import Derived.Lib.LaidTab
import Derived.Stop.LaidErr
namespace Go.Proofs.YtfgjaoejcbldoaaGreatDoor
open Go.ChangeShapes Go.WideShapes Go.ChangeAt Go.RowKit
theorem own : ownKnob Tryz.prog.godebug = none := by kernel_rfl
theorem laidOut : laidOutB Tryz.prog = true := by kernel_rfl
set_option maxRecDepth 100000 in
theorem lay_plain (w : World) : laidMetH Tryz.prog Rows.fnBigBackRow.laid w = laidMet Tryz.prog Rows.fnBigBackRow.laid w := by rw [MakeChecks.laidMetH_plain _ _ _ (by kernel_rfl)]
set_option maxRecDepth 100000 in
theorem lay_shaped (os : Os) : (World.laidAll Tryz.prog os Rows.fnBigBackRow.laid).Shaped Tryz.prog := World.shaped_of_ZipB (by kernel_rfl) (by kernel_rfl)
set_option maxRecDepth 100000 in
theorem lay_met (os : Os) (args : Array Value) : laidMet Tryz.prog Rows.fnBigBackRow.laid ((World.laidAll Tryz.prog os Rows.fnBigBackRow.laid).forCall (fun _ _ => 0) ⟨#[], args, []⟩).memory := laidMet_laidAll _ (by kernel_rfl) (by kernel_rfl)
theorem pow_data : (Rows.laid_internal_strconv_uint64pow10 : DataW Unit) = Lib.tabData .u64 Lib.pow10Tab := by kernel_rfl
theorem pow_at : Tryz.prog.globalNamed "internal/strconv.uint64pow10" = some 1 := by kernel_rfl
theorem pow_type : (Tryz.prog.globals[1]?).map (·.type) = some 162 := by kernel_rfl
theorem pow_arr : Tryz.prog.underlying 162 = some (.array 20 89) := by kernel_rfl
theorem pow_elem : Tryz.prog.underlying 89 = some (.int .u64) := by kernel_rfl
theorem pow_cell : Tryz.prog.cellsOf 89 = 1 := by kernel_rfl
theorem pow_cells : Tryz.prog.cellsOf 162 = 20 := by kernel_rfl
theorem err_at : Tryz.prog.globalNamed "strconv.ErrRange" = some 7 := by kernel_rfl
theorem err_type : (Tryz.prog.globals[7]?).map (·.type) = some 37 := by kernel_rfl
theorem err_cells : Tryz.prog.cellsOf 229 = 1 := by kernel_rfl
theorem str_cells : Tryz.prog.cellsOf 9 = 1 := by kernel_rfl
theorem err_star : "*" ++ "errors.errorString" = "*errors.errorString" := by decide
theorem err_row (u : TypeId) (h : Tryz.prog.typeName? 3 u = some "*errors.errorString") : u = 227 :=
  typeName_ptr_named (nm := "errors.errorString") (by rw [err_star]; kernel_rfl) (by kernel_rfl) (by decide) u (by rw [err_star]; exact h)
theorem tabs_of_laid {W : World} (h : laidMetH Tryz.prog Rows.fnBigBackRow.laid W) : BigTabs W := by
  rw [lay_plain] at h
  have h8 := h.tail.tail.tail.tail.tail.tail.tail.tail
  have h10 := h8.tail.tail
  refine ⟨Lib.tabIs_of_head pow_at pow_type pow_arr pow_elem pow_cell pow_cells (by rw [← pow_data]; exact h8), ?_⟩
  obtain ⟨a, s, hv, _⟩ := laid_sentinel h10 err_at err_type Tryz.underlying37 err_row Tryz.underlying227 Tryz.underlying229 rfl rfl Tryz.underlying9 err_cells str_cells
  exact ⟨_, _, hv⟩
set_option maxHeartbeats 1000000 in
set_option maxRecDepth 100000 in
theorem lifted (os : Os) (started : os.Started) (H : Type) (enc : TypeId × Value → H) :
    ReturnsInHanded {} Tryz.checked os 3 .any (fun w args => (Rows.fnBigBackSpec.pre enc Tryz.prog Tryz.f3 [] false w args ∧ laidMetH Tryz.prog Rows.fnBigBackRow.laid w) ∧ sizedMet enc Tryz.prog Tryz.f3 (OpenSpec.ofChange Rows.fnBigBackSpec) false w args)
      (Rows.fnBigBackSpec.post enc Tryz.prog Tryz.f3 false true false false) := by
  refine returnsInHanded_of_change_and (C := Tryz.checked) (X := fun w _ => laidMetH Tryz.prog Rows.fnBigBackRow.laid w) (fun _ _ _ hh h => h.of_heap hh) own started (by kernel_rfl) Tryz.func3
    (ChangeSpec.witness_shaped (enc := enc) (C := Tryz.checked) (os := os) (X := fun w _ => laidMetH Tryz.prog Rows.fnBigBackRow.laid w) false (World.laidAll Tryz.prog os Rows.fnBigBackRow.laid) #[.string ⟨#[]⟩, .string ⟨#[]⟩] 8 (World.laidAll_os _ _ _)
      (lay_shaped os) (by kernel_rfl) (by kernel_rfl) (by kernel_rfl)
      (by rw [lay_plain]; exact lay_met os _)) ?_
  intro W base args ds gs before hval0 hW _ _ hL _
  have hval : ∀ (j : Nat) t v, Tryz.f3.params[j]? = some t → args[j]? = some v → Value.okWide Tryz.prog W .any base t v := hval0
  have hW' := hW
  obtain ⟨p, q, hA0, hV, rfl, _, _⟩ := hW
  have hA : DataW.TrodAll enc Tryz.prog W 0 (fun _ => true) true Tryz.f3.params.toList args.toList ds p := hA0
  rw [Tryz.params3] at hA hval
  obtain ⟨v0, v1, d0, d1, p0, p1, rfl, rfl, rfl, h0, h1⟩ := trodAll_two hA
  obtain ⟨rfl, rfl⟩ := trodVars_none hV
  obtain ⟨s0, rfl, _, _, hs0⟩ := Go.ChangeMaps.open_string Tryz.underlying9 (hval 0 9 v0 rfl rfl) h0
  obtain ⟨s1, rfl, _, _, hs1⟩ := Go.ChangeMaps.open_string Tryz.underlying9 (hval 1 9 v1 rfl rfl) h1
  clear hA0 hval0
  simp only [List.append_nil] at hW'
  have hlt : ∀ x ∈ p0 ++ p1, x.block < W.heap.size := fun x hx => by simpa using hW'.lt x hx
  refine (fnBigBack_any W s0 hs0 s1 hs1 (tabs_of_laid hL)).mono fun e W' ⟨he, hbel⟩ => ?_
  subst he
  exact ⟨_, rfl, _, _, _, [], _, [], hW', trodAll_mk1 (shut_bool Tryz.underlying4 _),
    trodAll_mk2 (Below.trod laidOut (by kernel_rfl) (of_decide_eq_true (by kernel_rfl)) h0 hbel (fun x hx => hlt x (List.mem_append.2 (.inl hx))))
      (Below.trod laidOut (by kernel_rfl) (of_decide_eq_true (by kernel_rfl)) h1 hbel (fun x hx => hlt x (List.mem_append.2 (.inr hx)))), rfl, hbel.frame _, fun h => by cases h⟩
set_option maxRecDepth 100000 in
theorem fact0 : (Rows.fnBigBackRow.wf (OpenSpec.ofChange Rows.fnBigBackSpec)) = true := by kernel_rfl
set_option maxRecDepth 100000 in
theorem fact1 : (laidOutB Tryz.prog) = true := by kernel_rfl
set_option maxRecDepth 100000 in
theorem fact2 : (mapsRowed Tryz.prog) = true := by kernel_rfl
set_option maxRecDepth 100000 in
theorem fact3 : (Tryz.f3.params.all (Tryz.prog.readableRec ·)) = true := by kernel_rfl
set_option maxRecDepth 100000 in
theorem fact4 : (namedTie Tryz.prog Rows.fnBigBackRow.named Rows.fnBigBackSpec.vars) = true := by kernel_rfl
set_option maxRecDepth 100000 in
theorem fact5 : ((Rows.fnBigBackRow.stops == [])) = true := by kernel_rfl
set_option maxRecDepth 100000 in
theorem fact6 : ((Tryz.prog.stops == [])) = true := by kernel_rfl
set_option maxRecDepth 100000 in
theorem fact7 : ((Rows.fnBigBackRow.knobs == [])) = true := by kernel_rfl
set_option maxRecDepth 100000 in
theorem fact8 : ((Tryz.prog.stopKnobs == [])) = true := by kernel_rfl
set_option maxRecDepth 100000 in
theorem fact9 : ((Rows.fnBigBackRow.inPlace == Tryz.prog.inPlace 3)) = true := by kernel_rfl
set_option maxRecDepth 100000 in
theorem fact10 : ((Rows.fnBigBackRow.unfollowed == Tryz.prog.unfollowed 3)) = true := by kernel_rfl
set_option maxRecDepth 100000 in
theorem fact11 : ((Rows.fnBigBackRow.recurses == Tryz.prog.recurses 3)) = true := by kernel_rfl
set_option maxRecDepth 100000 in
theorem fact12 : ((Rows.fnBigBackRow.named == Tryz.prog.varsNamed 3)) = true := by kernel_rfl
set_option maxRecDepth 100000 in
theorem fact13 : ((Rows.fnBigBackRow.maps == (Tryz.f3.params.toList ++ Rows.fnBigBackSpec.plain.varTypes Tryz.prog).any (Tryz.prog.mapsRec ·))) = true := by kernel_rfl
set_option maxRecDepth 100000 in
theorem fact14 : ((Rows.fnBigBackRow.ifaces == (Tryz.f3.params.toList ++ Rows.fnBigBackSpec.plain.varTypes Tryz.prog).any (Tryz.prog.ifacesRec ·))) = true := by kernel_rfl
set_option maxRecDepth 100000 in
theorem fact15 : ((Rows.fnBigBackRow.mapsOut == Tryz.prog.mapsAmong Tryz.f3.resultTypes.toList)) = true := by kernel_rfl
set_option maxRecDepth 100000 in
theorem fact16 : ((Rows.fnBigBackRow.loops == (Tryz.f3.params.toList ++ Rows.fnBigBackSpec.plain.varTypes Tryz.prog).any (Tryz.prog.loopsFrom ·))) = true := by kernel_rfl
set_option maxRecDepth 100000 in
theorem fact17 : ((Rows.fnBigBackRow.wideKeys == (Tryz.f3.params.toList ++ Rows.fnBigBackSpec.plain.varTypes Tryz.prog ++ Tryz.f3.resultTypes.toList).any (Tryz.prog.wideKeysFrom ·))) = true := by kernel_rfl
set_option maxRecDepth 100000 in
theorem fact18 : (Rows.fnBigBackSpec.vars.all (Tryz.prog.varReadable ·)) = true := by kernel_rfl
set_option maxRecDepth 100000 in
theorem fact19 : (Tryz.f3.resultTypes.all (fun t => Tryz.prog.readableRec t && decide (t < Tryz.prog.types.size))) = true := by kernel_rfl
set_option maxRecDepth 100000 in
theorem fact20 : ((Rows.fnBigBackRow.ifacesOut == Tryz.f3.resultTypes.toList.any (Tryz.prog.ifacesRec ·))) = true := by kernel_rfl
set_option maxRecDepth 100000 in
theorem fact21 : ((Rows.fnBigBackRow.loopsOut == Tryz.f3.resultTypes.toList.any (Tryz.prog.loopsFrom ·))) = true := by kernel_rfl
set_option maxRecDepth 100000 in
theorem fact22 : ((Rows.fnBigBackRow.plainKeys == Tryz.prog.plainKeys)) = true := by kernel_rfl
set_option maxRecDepth 100000 in
theorem fact23 : (Rows.fnBigBackRow.shortTexts.isNone) = true := by kernel_rfl
set_option maxRecDepth 100000 in
theorem fact24 : (Tryz.prog.stopsHeard) = true := by kernel_rfl
set_option maxRecDepth 100000 in
theorem fact25 : (Tryz.prog.mayEnter) = true := by kernel_rfl
set_option maxRecDepth 100000 in
theorem fact26 : ((Rows.fnBigBackRow.lifted == Tryz.prog.liftsFinal)) = true := by kernel_rfl
set_option maxRecDepth 100000 in
theorem fact27 : ((Tryz.prog.make == some Rows.fnBigBackRow.make)) = true := by kernel_rfl
set_option maxRecDepth 100000 in
theorem fact29 : ((Rows.fnBigBackRow.pinned == Rows.fnBigBackRow.pinnedBy)) = true := by kernel_rfl
set_option maxRecDepth 100000 in
theorem fact30 : ((Rows.fnBigBackRow.veiled == (Tryz.f3.params.toList ++ Rows.fnBigBackSpec.plain.varTypes Tryz.prog ++ Tryz.f3.resultTypes.toList).any (Tryz.prog.veiledRec ·))) = true := by kernel_rfl
set_option maxRecDepth 100000 in
theorem fact31 : (Rows.fnBigBackRow.veiledFits Tryz.prog Tryz.f3.params.toList (Tryz.f3.params.toList ++ Rows.fnBigBackSpec.plain.varTypes Tryz.prog ++ Tryz.f3.resultTypes.toList)) = true := by kernel_rfl
theorem facts : joinedFacts Tryz.prog 3 Tryz.f3 Rows.fnBigBackSpec Rows.fnBigBackRow = true := by
  unfold joinedFacts
  rw [fact0, fact1, fact2, fact3, fact4, fact5, fact6, fact7, fact8, fact9, fact10, fact11, fact12, fact13, fact14, fact15, fact16, fact17, fact18, fact19, fact20, fact21, fact22, fact23, fact24, fact25, fact26, fact27, fact29, fact30, fact31]
  simp only [Bool.true_and, Bool.and_true]
  kernel_rfl
theorem fnBigBack_holds : Rows.FnBigBackSaid :=
  OpenClaim.holds_of_wide 3 Tryz.f3 rfl rfl rfl rfl rfl rfl rfl ⟨rfl, rfl, rfl, rfl, rfl⟩ rfl rfl rfl rfl rfl (by kernel_rfl) Tryz.func3 facts
    (of_decide_eq_true (by kernel_rfl)) (by unfold Func.isWrapper; first | (rw [if_pos (by decide +kernel)]; kernel_rfl) | (rw [if_neg (by decide +kernel)]; exact ⟨rfl, rfl⟩))
    (fun os started H enc _ => lifted os started H enc)
theorem fnBigBack_card_holds : Rows.FnBigBackCardSaid :=
  Claim7.holds_tied_plain_at .later [] [.data, .data, .widerDeep, .widerDeep, .data, .data, .data, .data, .data, .data, .sentinel, .sentinel, .pinned, .pinned, .pinned] true (true, "1336285b90ee3a577a8082facb8a6cbf0a11ef34599943bfe7522a7825069025") true fnBigBack_holds (fun _ h => by cases h) (by kernel_rfl) (fun _ h => by cases h) fnBigBack_row_tie rfl ⟨rfl, rfl⟩ (by kernel_rfl) rfl
    (fun f fn hf hfn => by
      obtain rfl : f = 3 := Option.some.inj ((show Tryz.prog.funcNamed "pub-strainer/laws.FnBigBack" = some 3 by kernel_rfl).symm.trans hf) |>.symm
      obtain rfl : fn = Tryz.f3 := (Option.some.inj (Tryz.func3.symm.trans hfn)).symm
      exact ⟨by kernel_rfl, fun j t ht => by
        rw [Tryz.params3] at ht
        have hm : t ∈ [9, 9] := by simpa using Array.mem_of_getElem? ht
        have hall : ([9, 9].all fun u => !Tryz.prog.wantsStandIn u) = true := by kernel_rfl
        exact (show Tryz.prog.wantsStandIn t = false by simpa using List.all_eq_true.1 hall t hm)⟩)
    (by kernel_rfl)
#print axioms fnBigBack_holds
#print axioms fnBigBack_card_holds
end Go.Proofs.YtfgjaoejcbldoaaGreatDoor
