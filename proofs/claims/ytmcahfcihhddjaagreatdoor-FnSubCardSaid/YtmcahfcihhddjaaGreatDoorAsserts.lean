/- Type assertions at this program's types. -/
import Derived.Test.YtmcahfcihhddjaaGreatDoorWld
import Derived.Test.YtmcahfcihhddjaaGreatDoorProg
import Derived.WalkLawsBesides
import Derived.KernelRfl
namespace Go.Proofs.YtmcahfcihhddjaaGreatDoor
open Go Go.RowKit

theorem run_assert {P : Program} {T xT : TypeId} {d : TypeDesc} {z : Value} (hd : P.underlying T = some d) (hni : ∀ ms, d ≠ .interface ms) (hz : ∀ w : World, (zeroValue T).run P w = .ok z w) (t : TypeId) (v : Value) (w : World) :
    (Instr.typeAssert (.iface t v) xT T true).run P w = .ok (if t = T then .tuple #[v, .bool true] else .tuple #[z, .bool false]) w := by
  unfold Instr.typeAssert
  by_cases h : t = T
  · subst h
    cases d <;> first | (exact absurd rfl (hni _)) | simp [run_underlying hd, Result.andThen]
  · cases d <;> first | (exact absurd rfl (hni _)) | simp [run_underlying hd, Result.andThen, h, hz]

theorem run_assert_nil {P : Program} {T xT : TypeId} {d : TypeDesc} {z : Value} (hd : P.underlying T = some d) (hni : ∀ ms, d ≠ .interface ms) (hz : ∀ w : World, (zeroValue T).run P w = .ok z w) (w : World) :
    (Instr.typeAssert .nilIface xT T true).run P w = .ok (.tuple #[z, .bool false]) w := by
  unfold Instr.typeAssert
  cases d <;> first | (exact absurd rfl (hni _)) | simp [run_underlying hd, Result.andThen, hz]

theorem part_some (p : String → Bool) (l : List String) (hne : l ≠ []) : (l.partition p).1 ≠ [] ∨ (l.partition p).2 ≠ [] := by
  cases l with
  | nil => exact absurd rfl hne
  | cons a r =>
    rw [List.partition_eq_filter_filter]
    by_cases hc : p a = true
    · refine .inl fun (e : List.filter p (a :: r) = []) => ?_
      have := List.mem_filter.2 ⟨List.mem_cons_self (a := a) (l := r), hc⟩
      rw [e] at this
      cases this
    · refine .inr fun (e : List.filter (Bool.not ∘ p) (a :: r) = []) => ?_
      have := List.mem_filter.2 ⟨List.mem_cons_self (a := a) (l := r), (by simpa using hc : (Bool.not ∘ p) a = true)⟩
      rw [e] at this
      cases this

open Go.Instr in
theorem missing_some (want : Array (String × TypeId)) (h : want.toList ≠ []) : ∃ m, missingMethod want #[] = some m := by
  unfold missingMethod
  have e : (want.toList.filter fun x => match x with | (name, sig) => !(#[] : Array Method).any fun m => m.name == name && m.sig == sig) = want.toList := by
    rw [List.filter_eq_self]
    intro p _
    simp
  simp only [e]
  generalize hl : want.toList.map (·.1) = l
  have hne : l ≠ [] := by rw [← hl]; simpa using h
  generalize hp : l.partition _ = q
  have hq : q.1 ≠ [] ∨ q.2 ≠ [] := by rw [← hp]; exact part_some _ l hne
  obtain ⟨u, x⟩ := q
  cases x with
  | cons a r => exact ⟨_, rfl⟩
  | nil =>
    cases u with
    | nil => exact absurd rfl (hq.resolve_right (fun n => n rfl))
    | cons a r => exact ⟨_, rfl⟩

theorem run_assert_iface {P : Program} {T xT t : TypeId} {want : Array (String × TypeId)} (hd : P.underlying T = some (.interface want)) (hw : want.toList ≠ []) (hz : ∀ w : World, (zeroValue T).run P w = .ok .nilIface w) (hi : (P.info? t).map (·.methods) = some #[]) (v : Value) (w : World) :
    (Instr.typeAssert (.iface t v) xT T true).run P w = .ok (.tuple #[.nilIface, .bool false]) w := by
  obtain ⟨i, hi, hm⟩ := Option.map_eq_some_iff.1 hi
  obtain ⟨m, hmm⟩ := missing_some want hw
  unfold Instr.typeAssert
  simp [run_underlying hd, run_typeInfo _ hi, Result.andThen, hm, hmm, hz]

theorem assert_jsonNumber (t : TypeId) (v : Value) (w : World) : (Instr.typeAssert (.iface t v) 20 116 true).run Tryz.prog w = .ok (if t = 116 then .tuple #[v, .bool true] else .tuple #[.string ByteArray.empty, .bool false]) w :=
  run_assert Tryz.underlying116 (fun _ h => by cases h) (fun _ => by kernel_rfl) t v w
theorem assert_jsonNumber_nil (w : World) : (Instr.typeAssert .nilIface 20 116 true).run Tryz.prog w = .ok (.tuple #[.string ByteArray.empty, .bool false]) w :=
  run_assert_nil Tryz.underlying116 (fun _ h => by cases h) (fun _ => by kernel_rfl) w
theorem assert_int (t : TypeId) (v : Value) (w : World) : (Instr.typeAssert (.iface t v) 20 3 true).run Tryz.prog w = .ok (if t = 3 then .tuple #[v, .bool true] else .tuple #[.int .i64 0, .bool false]) w :=
  run_assert Tryz.underlying3 (fun _ h => by cases h) (fun _ => by kernel_rfl) t v w
theorem assert_int_nil (w : World) : (Instr.typeAssert .nilIface 20 3 true).run Tryz.prog w = .ok (.tuple #[.int .i64 0, .bool false]) w :=
  run_assert_nil Tryz.underlying3 (fun _ h => by cases h) (fun _ => by kernel_rfl) w
theorem assert_float64 (t : TypeId) (v : Value) (w : World) : (Instr.typeAssert (.iface t v) 20 63 true).run Tryz.prog w = .ok (if t = 63 then .tuple #[v, .bool true] else .tuple #[.float .f64 0, .bool false]) w :=
  run_assert Tryz.underlying63 (fun _ h => by cases h) (fun _ => by kernel_rfl) t v w
theorem assert_float64_nil (w : World) : (Instr.typeAssert .nilIface 20 63 true).run Tryz.prog w = .ok (.tuple #[.float .f64 0, .bool false]) w :=
  run_assert_nil Tryz.underlying63 (fun _ h => by cases h) (fun _ => by kernel_rfl) w
theorem assert_pbigInt (t : TypeId) (v : Value) (w : World) : (Instr.typeAssert (.iface t v) 20 94 true).run Tryz.prog w = .ok (if t = 94 then .tuple #[v, .bool true] else .tuple #[.pointer none, .bool false]) w :=
  run_assert Tryz.underlying94 (fun _ h => by cases h) (fun _ => by kernel_rfl) t v w
theorem assert_pbigInt_nil (w : World) : (Instr.typeAssert .nilIface 20 94 true).run Tryz.prog w = .ok (.tuple #[.pointer none, .bool false]) w :=
  run_assert_nil Tryz.underlying94 (fun _ h => by cases h) (fun _ => by kernel_rfl) w
theorem assert_string (t : TypeId) (v : Value) (w : World) : (Instr.typeAssert (.iface t v) 20 9 true).run Tryz.prog w = .ok (if t = 9 then .tuple #[v, .bool true] else .tuple #[.string ByteArray.empty, .bool false]) w :=
  run_assert Tryz.underlying9 (fun _ h => by cases h) (fun _ => by kernel_rfl) t v w
theorem assert_string_nil (w : World) : (Instr.typeAssert .nilIface 20 9 true).run Tryz.prog w = .ok (.tuple #[.string ByteArray.empty, .bool false]) w :=
  run_assert_nil Tryz.underlying9 (fun _ h => by cases h) (fun _ => by kernel_rfl) w
theorem assert_sl (t : TypeId) (v : Value) (w : World) : (Instr.typeAssert (.iface t v) 20 64 true).run Tryz.prog w = .ok (if t = 64 then .tuple #[v, .bool true] else .tuple #[.slice none 0 0, .bool false]) w :=
  run_assert Tryz.underlying64 (fun _ h => by cases h) (fun _ => by kernel_rfl) t v w
theorem assert_sl_nil (w : World) : (Instr.typeAssert .nilIface 20 64 true).run Tryz.prog w = .ok (.tuple #[.slice none 0 0, .bool false]) w :=
  run_assert_nil Tryz.underlying64 (fun _ h => by cases h) (fun _ => by kernel_rfl) w
theorem assert_m (t : TypeId) (v : Value) (w : World) : (Instr.typeAssert (.iface t v) 20 67 true).run Tryz.prog w = .ok (if t = 67 then .tuple #[v, .bool true] else .tuple #[.map none, .bool false]) w :=
  run_assert Tryz.underlying67 (fun _ h => by cases h) (fun _ => by kernel_rfl) t v w
theorem assert_m_nil (w : World) : (Instr.typeAssert .nilIface 20 67 true).run Tryz.prog w = .ok (.tuple #[.map none, .bool false]) w :=
  run_assert_nil Tryz.underlying67 (fun _ h => by cases h) (fun _ => by kernel_rfl) w
theorem assert_bool (t : TypeId) (v : Value) (w : World) : (Instr.typeAssert (.iface t v) 20 4 true).run Tryz.prog w = .ok (if t = 4 then .tuple #[v, .bool true] else .tuple #[.bool false, .bool false]) w :=
  run_assert Tryz.underlying4 (fun _ h => by cases h) (fun _ => by kernel_rfl) t v w
theorem assert_bool_nil (w : World) : (Instr.typeAssert .nilIface 20 4 true).run Tryz.prog w = .ok (.tuple #[.bool false, .bool false]) w :=
  run_assert_nil Tryz.underlying4 (fun _ h => by cases h) (fun _ => by kernel_rfl) w

end Go.Proofs.YtmcahfcihhddjaaGreatDoor
