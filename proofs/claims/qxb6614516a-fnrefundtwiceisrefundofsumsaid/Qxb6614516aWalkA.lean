import Derived.Test.Qxb6614516aEq
import Derived.WalkSmall
namespace Go.Proofs.Qxb6614516a
open Go.ChangeShapes Go.WideShapes Go.ChangeAt Go.RowKit
set_option linter.unusedVariables false

set_option maxHeartbeats 400000 in
theorem twice_nil (a0 a1 a2 a4 a5 : Int) (w : World) :
    Calls Try.prog 3 #[.int .i64 a0, .int .i64 a1, .int .i64 a2, .pointer none, .int .i64 a4, .int .i64 a5] w fun e w' => e = .returned (.bool true) ∧ Below w.heap.size w w' := by
  have hw := wrap_assoc a1 a4 a5
  go_enter Try.func3, Try.ntmps3
  go_wp2
  go_end0
  go_wp2
  go_end0
  go_wp2
  go_end0
  clear hw
  generalize wrap64 (wrap64 (a1 + a4) + a5) = z
  have hneq := neq27 a0 z a2 none (.inl rfl)
  go_wp2
  go_quiet (fail)
  go_wp2
  go_ret
  exact ⟨rfl, below_drewN (((Below.refl _ _).alloc (by simp) _).alloc (by simp) _) _⟩

set_option maxHeartbeats 400000 in
theorem twice_some (a0 a1 a2 a4 a5 t : Int) (b off : Nat) (w : World) (hc : w.cell? ⟨b, off, none⟩ = some (.int .i64 t)) :
    Calls Try.prog 3 #[.int .i64 a0, .int .i64 a1, .int .i64 a2, .pointer (some ⟨b, off, none⟩), .int .i64 a4, .int .i64 a5] w fun e w' => e = .returned (.bool true) ∧ Below w.heap.size w w' := by
  have hw := wrap_assoc a1 a4 a5
  go_enter Try.func3, Try.ntmps3
  go_wp2
  go_end0
  go_wp2
  go_end0
  go_wp2
  go_end0
  clear hw
  generalize wrap64 (wrap64 (a1 + a4) + a5) = z
  have hneq := neq27 a0 z a2 (some ⟨w.heap.size, 0, none⟩) (.inr ⟨_, _, rfl⟩)
  have hneq' := neq_ptr (some ⟨w.heap.size, 0, none⟩) (.inr ⟨_, _, rfl⟩)
  go_wp2
  go_quiet (fail)
  go_wp2
  go_ret
  exact ⟨rfl, below_drewN ((((Below.refl _ _).alloc (by simp) _).alloc (by simp) _).alloc (by simp; omega) _) _⟩
end Go.Proofs.Qxb6614516a
