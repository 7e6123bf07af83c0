/-
  errors.New and the method Error of what it makes.
-/
import Derived.Test.Qxb6613022aRows
import Derived.Test.Qxb6613022aPlain
import Derived.WalkKit
import Derived.ProofKit
namespace Go.Proofs.Qxb6613022a
open Go.ChangeShapes Go.WideShapes Go.ChangeAt Go.RowKit
set_option maxHeartbeats 400000 in
theorem errNew (s : ByteArray) (w : World) :
    Calls Try.prog 17 #[.string s] w fun e w' => e = .returned (.iface 42 (.pointer (some ⟨w.heap.size, 0, none⟩))) ∧ w' = w.alloc (.cells #[.string s] 44) := by
  go_enter Try.func17, Try.ntmps17
  go_wp2
  go_ret
  exact ⟨rfl, rfl⟩
set_option maxHeartbeats 400000 in
theorem errText (g : Nat) (s : ByteArray) (w : World) (hg : w.cell? ⟨g, 0, none⟩ = some (.string s)) :
    Calls Try.prog 41 #[.pointer (some ⟨g, 0, none⟩)] w fun e w' => e = .returned (.string s) ∧ w' = w := by
  go_enter Try.func41, Try.ntmps41
  go_wp2
  go_ret
  exact ⟨rfl, rfl⟩
end Go.Proofs.Qxb6613022a
