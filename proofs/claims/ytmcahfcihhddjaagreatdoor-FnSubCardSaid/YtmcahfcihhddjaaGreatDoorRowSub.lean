/- laws.FnSub returns true, whatever its two arguments; each argument reads behind the call as before. The row lists package-level variables; the card ties them to the program's text. -/
import Derived.Test.YtmcahfcihhddjaaGreatDoorFnSub
import Derived.Test.YtmcahfcihhddjaaGreatDoorRep
import Derived.Test.YtmcahfcihhddjaaGreatDoorTie
import Derived.Test.YtmcahfcihhddjaaGreatDoorCards
import Derived.WalkKit
import Derived.ProofKit
import Derived.Handy
import Derived.Lay
import Derived.SevenTiedAt
import Derived.Lib.LaidU8T
namespace Go.Proofs.YtmcahfcihhddjaaGreatDoor
open Go.ChangeShapes Go.WideShapes Go.ChangeAt Go.RowKit

theorem own : ownKnob Tryz.prog.godebug = none := by kernel_rfl
theorem laidOut : laidOutB Tryz.prog = true := by kernel_rfl
set_option maxRecDepth 100000 in
theorem lay_plain (w : World) : laidMetH Tryz.prog Rows.fnSubRow.laid w = laidMet Tryz.prog Rows.fnSubRow.laid w := by rw [MakeChecks.laidMetH_plain _ _ _ (by kernel_rfl)]
set_option maxRecDepth 100000 in
theorem lay_shaped (os : Os) : (World.laidAll Tryz.prog os Rows.fnSubRow.laid).Shaped Tryz.prog := World.shaped_of_ZipB (by kernel_rfl) (by kernel_rfl)
set_option maxRecDepth 100000 in
theorem lay_met (os : Os) (args : Array Value) : laidMet Tryz.prog Rows.fnSubRow.laid ((World.laidAll Tryz.prog os Rows.fnSubRow.laid).forCall (fun _ _ => 0) ⟨#[], args, []⟩).memory := laidMet_laidAll _ (by kernel_rfl) (by kernel_rfl)

theorem first_data : Rows.laid_unicode_utf8_first = Lib.firstData := by kernel_rfl
theorem accept_data : (Rows.laid_unicode_utf8_acceptRanges : DataW Unit) = Lib.acceptData := by kernel_rfl

theorem tabs_of_laid {W : World} (h : laidMetH Tryz.prog Rows.fnSubRow.laid W) : TabsB W W.heap.size := by
  rw [lay_plain] at h
  have m1 : ("unicode/utf8.first", Lib.firstData) ∈ Rows.fnSubRow.laid := by rw [← first_data]; simp [Rows.fnSubRow]
  have m2 : ("unicode/utf8.acceptRanges", Lib.acceptData) ∈ Rows.fnSubRow.laid := by rw [← accept_data]; simp [Rows.fnSubRow]
  have hT : Tabs W := utf8Tabs_of_readsT (ρ := valid_ren) (U8Types.of196 valid_lays) ⟨by kernel_rfl, by kernel_rfl, by kernel_rfl, by kernel_rfl, by kernel_rfl, by kernel_rfl, by kernel_rfl⟩ (Lib.laidMet.reads h m1) (Lib.laidMet.reads h m2)
  exact ⟨hT, World.block_lt_of_cell? W _ (hT.1 0 (by decide)), World.block_lt_of_cell? W _ (hT.2 0 (by decide)).1⟩

def zeroV : Value := .agg #[.int .i64 0, .int .i64 0, .string ByteArray.empty, .slice none 0 0, .slice none 0 0, .slice none 0 0]

set_option maxHeartbeats 1000000 in
set_option maxRecDepth 100000 in
theorem lifted (os : Os) (started : os.Started) (H : Type) (enc : TypeId × Value → H) :
    ReturnsInHanded {} Tryz.checked os 4 .any (fun w args => (Rows.fnSubSpec.pre enc Tryz.prog Tryz.f4 [] false w args ∧ laidMetH Tryz.prog Rows.fnSubRow.laid w) ∧ sizedMet enc Tryz.prog Tryz.f4 (OpenSpec.ofChange Rows.fnSubSpec) false w args)
      (Rows.fnSubSpec.post enc Tryz.prog Tryz.f4 false true false false) := by
  refine returnsInHanded_of_change_and (C := Tryz.checked) (X := fun w _ => laidMetH Tryz.prog Rows.fnSubRow.laid w) (fun _ _ _ hh h => h.of_heap hh) own started (by kernel_rfl) Tryz.func4
    (ChangeSpec.witness_shaped (enc := enc) (C := Tryz.checked) (os := os) (X := fun w _ => laidMetH Tryz.prog Rows.fnSubRow.laid w) false (World.laidAll Tryz.prog os Rows.fnSubRow.laid) #[zeroV, zeroV] 8 (World.laidAll_os _ _ _)
      (lay_shaped os) (by kernel_rfl) (by kernel_rfl) (by kernel_rfl)
      (by rw [lay_plain]; exact lay_met os _)) ?_
  intro W base args ds gs before hval0 hW _ hwts hL _
  have hval : ∀ (j : Nat) t v, Tryz.f4.params[j]? = some t → args[j]? = some v → Value.okWide Tryz.prog W .any base t v := hval0
  have hwts' : (DataW.weightsEach Tryz.prog (Tryz.f4.params.toList ++ Rows.fnSubSpec.plain.varTypes Tryz.prog) (ds ++ gs)).all (· ≤ reachBytes) = true := hwts
  have hW' := hW
  obtain ⟨p, q, hA0, hV, rfl, _, _⟩ := hW
  have hA : DataW.TrodAll enc Tryz.prog W 0 (fun _ => true) true Tryz.f4.params.toList args.toList ds p := hA0
  rw [Tryz.params4] at hA hval hwts'
  obtain ⟨v0, v1, d0, d1, p0, p1, rfl, rfl, rfl, h0, h1⟩ := trodAll_two hA
  obtain ⟨rfl, rfl⟩ := trodVars_none hV
  obtain ⟨c0, rfl, _⟩ := okWide_struct Tryz.underlying26 (hval 0 26 v0 rfl rfl)
  obtain ⟨c1, rfl, _⟩ := okWide_struct Tryz.underlying26 (hval 1 26 v1 rfl rfl)
  clear hA0 hval0
  simp only [List.append_nil] at hW'
  have hlt : ∀ x ∈ p0 ++ p1, x.block < W.heap.size := fun x hx => by simpa using hW'.lt x hx
  have r0 : ∃ v, RepV W W.heap.size v c0.toList := by
    obtain ⟨fuel, hf⟩ := h0
    exact rep_of_trod fuel _ _ hf (fun m hm => by simpa using List.all_eq_true.1 hwts' m (DataW.weights_mem_each (j := 0) rfl rfl m hm))
  have r1 : ∃ v, RepV W W.heap.size v c1.toList := by
    obtain ⟨fuel, hf⟩ := h1
    exact rep_of_trod fuel _ _ hf (fun m hm => by simpa using List.all_eq_true.1 hwts' m (DataW.weights_mem_each (j := 1) rfl rfl m hm))
  obtain ⟨a, ha⟩ := r0
  obtain ⟨b, hb⟩ := r1
  refine (fnSub_any W a b c0.toList c1.toList ha hb (tabs_of_laid hL)).mono fun e W' ⟨he, hbel⟩ => ?_
  subst he
  exact ⟨_, rfl, _, _, _, [], _, [], hW', trodAll_mk1 (shut_bool Tryz.underlying4 _),
    trodAll_mk2 (Below.trod laidOut (by kernel_rfl) (of_decide_eq_true (by kernel_rfl)) h0 hbel (fun x hx => hlt x (List.mem_append.2 (.inl hx))))
      (Below.trod laidOut (by kernel_rfl) (of_decide_eq_true (by kernel_rfl)) h1 hbel (fun x hx => hlt x (List.mem_append.2 (.inr hx)))), rfl, hbel.frame _, fun h => by cases h⟩

theorem fnSub_holds : Rows.FnSubSaid :=
  OpenClaim.holds_of_wide 4 Tryz.f4 rfl rfl rfl rfl rfl rfl rfl ⟨rfl, rfl, rfl, rfl, rfl⟩ rfl rfl rfl rfl rfl (by kernel_rfl) Tryz.func4 (by kernel_rfl)
    (of_decide_eq_true (by kernel_rfl)) (by unfold Func.isWrapper; first | (rw [if_pos (by decide +kernel)]; kernel_rfl) | (rw [if_neg (by decide +kernel)]; exact ⟨rfl, rfl⟩))
    (fun os started H enc _ => lifted os started H enc)

theorem fnSub_card_holds : Rows.FnSubCardSaid :=
  Claim7.holds_tied_plain_at .later [] [.data, .data, .widerDeep, .widerDeep, .data, .data, .data, .data, .data, .data, .sentinel, .sentinel, .pinned, .pinned, .pinned] true (true, "105e0482214b1c4ffd49785d3bff2194d050e159b378db63125b2dafdb3f49a7") true fnSub_holds (fun _ h => by cases h) (by kernel_rfl) (fun _ h => by cases h) fnSub_row_tie rfl ⟨rfl, rfl⟩ (by kernel_rfl) rfl
    (fun f fn hf hfn => by
      obtain rfl : f = 4 := Option.some.inj ((show Tryz.prog.funcNamed "pub-strainer/laws.FnSub" = some 4 by kernel_rfl).symm.trans hf) |>.symm
      obtain rfl : fn = Tryz.f4 := (Option.some.inj (Tryz.func4.symm.trans hfn)).symm
      exact ⟨by kernel_rfl, fun j t ht => by
        rw [Tryz.params4] at ht
        have hm : t ∈ [26, 26] := by simpa using Array.mem_of_getElem? ht
        have hall : ([26, 26].all fun u => !Tryz.prog.wantsStandIn u) = true := by kernel_rfl
        exact (show Tryz.prog.wantsStandIn t = false by simpa using List.all_eq_true.1 hall t hm)⟩)
    (by kernel_rfl)
#print axioms fnSub_holds
#print axioms fnSub_card_holds
end Go.Proofs.YtmcahfcihhddjaaGreatDoor
