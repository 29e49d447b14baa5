/- The package's errors, as values. -/
import Derived.Test.YtmcahfcihhddjaaGreatDoorBin
namespace Go.Proofs.YtmcahfcihhddjaaGreatDoor
open Go Go.RowKit

/-- A value that is one of the package's errors. -/
inductive ErrV : Value → Prop
  | zeroModuloError (a : Addr) : ErrV (.iface 86 (.pointer (some a)))
  | binopTypeError (a : Addr) : ErrV (.iface 102 (.pointer (some a)))
  | func0TypeError (a : Addr) : ErrV (.iface 163 (.pointer (some a)))

theorem ErrV.form {v : Value} (h : ErrV v) : ∃ t a, v = .iface t (.pointer (some a)) := by
  cases h <;> exact ⟨_, _, rfl⟩

/-- An error, in new memory alone. -/
def RetErr (w : World) : Ending → World → Prop := Ret fun v w' => ErrV v ∧ Below w.heap.size w w'

end Go.Proofs.YtmcahfcihhddjaaGreatDoor
