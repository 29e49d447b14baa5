/- laws.FnGetPath returns true, whatever its two arguments; each argument reads behind the call as before. The row lists package-level variables; the card ties them to the program's text. -/
import Derived.Test.YtiphcojcdegnkaaGreatDoorM18
import Derived.Test.YtiphcojcdegnkaaGreatDoorM19
import Derived.Test.YtiphcojcdegnkaaGreatDoorTie
import Derived.Test.YtiphcojcdegnkaaGreatDoorCards
import Derived.WalkKit
import Derived.ProofKit
import Derived.Handy
import Derived.Lay
import Derived.SevenTiedAt
import Derived.Lib.LaidU8T
namespace Go.Proofs.YtiphcojcdegnkaaGreatDoor
open Go.ChangeShapes Go.WideShapes Go.ChangeAt Go.RowKit

theorem own : ownKnob Tryz.prog.godebug = none := by kernel_rfl
theorem laidOut : laidOutB Tryz.prog = true := by kernel_rfl
set_option maxRecDepth 100000 in
theorem lay_plain (w : World) : laidMetH Tryz.prog Rows.fnGetPathRow.laid w = laidMet Tryz.prog Rows.fnGetPathRow.laid w := by rw [MakeChecks.laidMetH_plain _ _ _ (by kernel_rfl)]
set_option maxRecDepth 100000 in
theorem lay_shaped (os : Os) : (World.laidAll Tryz.prog os Rows.fnGetPathRow.laid).Shaped Tryz.prog := World.shaped_of_ZipB (by kernel_rfl) (by kernel_rfl)
set_option maxRecDepth 100000 in
theorem lay_met (os : Os) (args : Array Value) : laidMet Tryz.prog Rows.fnGetPathRow.laid ((World.laidAll Tryz.prog os Rows.fnGetPathRow.laid).forCall (fun _ _ => 0) ⟨#[], args, []⟩).memory := laidMet_laidAll _ (by kernel_rfl) (by kernel_rfl)

theorem first_data : Rows.laid_unicode_utf8_first = Lib.firstData := by kernel_rfl
theorem accept_data : (Rows.laid_unicode_utf8_acceptRanges : DataW Unit) = Lib.acceptData := by kernel_rfl

theorem tabs_of_laid {W : World} (h : laidMetH Tryz.prog Rows.fnGetPathRow.laid W) : TabsB W W.heap.size := by
  rw [lay_plain] at h
  have m1 : ("unicode/utf8.first", Lib.firstData) ∈ Rows.fnGetPathRow.laid := by rw [← first_data]; simp [Rows.fnGetPathRow]
  have m2 : ("unicode/utf8.acceptRanges", Lib.acceptData) ∈ Rows.fnGetPathRow.laid := by rw [← accept_data]; simp [Rows.fnGetPathRow]
  have hT : Tabs W := utf8Tabs_of_readsT (ρ := valid_ren) (U8Types.of196 valid_lays) ⟨by kernel_rfl, by kernel_rfl, by kernel_rfl, by kernel_rfl, by kernel_rfl, by kernel_rfl, by kernel_rfl⟩ (Lib.laidMet.reads h m1) (Lib.laidMet.reads h m2)
  exact ⟨hT, World.block_lt_of_cell? W _ (hT.1 0 (by decide)), World.block_lt_of_cell? W _ (hT.2 0 (by decide)).1⟩

def zeroV : Value := .agg #[.int .i64 0, .int .i64 0, .string ByteArray.empty, .slice none 0 0, .slice none 0 0, .slice none 0 0]

set_option maxHeartbeats 1000000 in
set_option maxRecDepth 100000 in
theorem lifted (os : Os) (started : os.Started) (H : Type) (enc : TypeId × Value → H) :
    ReturnsInHanded {} Tryz.checked os 3 .any (fun w args => (Rows.fnGetPathSpec.pre enc Tryz.prog Tryz.f3 [] false w args ∧ laidMetH Tryz.prog Rows.fnGetPathRow.laid w) ∧ sizedMet enc Tryz.prog Tryz.f3 (OpenSpec.ofChange Rows.fnGetPathSpec) false w args)
      (Rows.fnGetPathSpec.post enc Tryz.prog Tryz.f3 false true false false) := by
  refine returnsInHanded_of_change_and (C := Tryz.checked) (X := fun w _ => laidMetH Tryz.prog Rows.fnGetPathRow.laid w) (fun _ _ _ hh h => h.of_heap hh) own started (by kernel_rfl) Tryz.func3
    (ChangeSpec.witness_shaped (enc := enc) (C := Tryz.checked) (os := os) (X := fun w _ => laidMetH Tryz.prog Rows.fnGetPathRow.laid w) false (World.laidAll Tryz.prog os Rows.fnGetPathRow.laid) #[zeroV, .slice none 0 0] 8 (World.laidAll_os _ _ _)
      (lay_shaped os) (by kernel_rfl) (by kernel_rfl) (by kernel_rfl)
      (by rw [lay_plain]; exact lay_met os _)) ?_
  intro W base args ds gs before hval0 hW _ hwts hL _
  have hval : ∀ (j : Nat) t v, Tryz.f3.params[j]? = some t → args[j]? = some v → Value.okWide Tryz.prog W .any base t v := hval0
  have hwts' : (DataW.weightsEach Tryz.prog (Tryz.f3.params.toList ++ Rows.fnGetPathSpec.plain.varTypes Tryz.prog) (ds ++ gs)).all (· ≤ reachBytes) = true := hwts
  have hW' := hW
  obtain ⟨p, q, hA0, hV, rfl, _, _⟩ := hW
  have hA : DataW.TrodAll enc Tryz.prog W 0 (fun _ => true) true Tryz.f3.params.toList args.toList ds p := hA0
  rw [Tryz.params3] at hA hval hwts'
  obtain ⟨v0, v1, d0, d1, p0, p1, rfl, rfl, rfl, h0, h1⟩ := trodAll_two hA
  obtain ⟨rfl, rfl⟩ := trodVars_none hV
  obtain ⟨c0, rfl, _⟩ := okWide_struct Tryz.underlying26 (hval 0 26 v0 rfl rfl)
  obtain ⟨a1, n1, m1, rfl⟩ := okWide_slice Tryz.underlying23 (hval 1 23 v1 rfl rfl)
  clear hA0 hval0
  simp only [List.append_nil] at hW'
  have hlt : ∀ x ∈ p0 ++ p1, x.block < W.heap.size := fun x hx => by simpa using hW'.lt x hx
  have r0 : ∃ v, RepV W W.heap.size v c0.toList := by
    obtain ⟨fuel, hf⟩ := h0
    exact rep_of_trod fuel _ _ hf (fun m hm => by simpa using List.all_eq_true.1 hwts' m (DataW.weights_mem_each (j := 0) rfl rfl m hm))
  obtain ⟨x0, y0⟩ := r0
  have r1 := h1
  obtain ⟨fuel1, hf1⟩ := r1
  obtain ⟨l1, la1, lc1, C1, e1, s1, cl1, rl1, hc1⟩ := list_of_trod hf1 (fun m hm => by simpa using List.all_eq_true.1 hwts' m (DataW.weights_mem_each (j := 1) rfl rfl m hm))
  cases e1
  refine (fnGetPath_any W x0 c0.toList y0 l1 a1 m1 C1 s1 cl1 rl1 hc1 (tabs_of_laid hL)).mono fun e W' ⟨he, hbel⟩ => ?_
  subst he
  exact ⟨_, rfl, _, _, _, [], _, [], hW', trodAll_mk1 (shut_bool Tryz.underlying4 _),
    trodAll_mk2 (Below.trod laidOut (by kernel_rfl) (of_decide_eq_true (by kernel_rfl)) h0 hbel (fun x hx => hlt x (List.mem_append.2 (.inl hx))))
      (Below.trod laidOut (by kernel_rfl) (of_decide_eq_true (by kernel_rfl)) h1 hbel (fun x hx => hlt x (List.mem_append.2 (.inr hx)))), rfl, hbel.frame _, fun h => by cases h⟩

theorem fnGetPath_holds : Rows.FnGetPathSaid :=
  OpenClaim.holds_of_wide 3 Tryz.f3 rfl rfl rfl rfl rfl rfl rfl ⟨rfl, rfl, rfl, rfl, rfl⟩ rfl rfl rfl rfl rfl (by kernel_rfl) Tryz.func3 (by kernel_rfl)
    (of_decide_eq_true (by kernel_rfl)) (by unfold Func.isWrapper; first | (rw [if_pos (by decide +kernel)]; kernel_rfl) | (rw [if_neg (by decide +kernel)]; exact ⟨rfl, rfl⟩))
    (fun os started H enc _ => lifted os started H enc)

theorem fnGetPath_card_holds : Rows.FnGetPathCardSaid :=
  Claim7.holds_tied_plain_at .later [] [.data, .data, .widerDeep, .widerDeep, .data, .data, .data, .data, .data, .data, .sentinel, .sentinel, .pinned, .pinned, .pinned] true (true, "88f1ed9787af5a9fe8a1b574d36adf472cd1e7081131c554f6a1871867a7c06d") true fnGetPath_holds (fun _ h => by cases h) (by kernel_rfl) (fun _ h => by cases h) fnGetPath_row_tie rfl ⟨rfl, rfl⟩ (by kernel_rfl) rfl
    (fun f fn hf hfn => by
      obtain rfl : f = 3 := Option.some.inj ((show Tryz.prog.funcNamed "pub-strainer/laws.FnGetPath" = some 3 by kernel_rfl).symm.trans hf) |>.symm
      obtain rfl : fn = Tryz.f3 := (Option.some.inj (Tryz.func3.symm.trans hfn)).symm
      exact ⟨by kernel_rfl, fun j t ht => by
        rw [Tryz.params3] at ht
        have hm : t ∈ [26, 23] := by simpa using Array.mem_of_getElem? ht
        have hall : ([26, 23].all fun u => !Tryz.prog.wantsStandIn u) = true := by kernel_rfl
        exact (show Tryz.prog.wantsStandIn t = false by simpa using List.all_eq_true.1 hall t hm)⟩)
    (by kernel_rfl)
#print axioms fnGetPath_holds
#print axioms fnGetPath_card_holds
end Go.Proofs.YtiphcojcdegnkaaGreatDoor
