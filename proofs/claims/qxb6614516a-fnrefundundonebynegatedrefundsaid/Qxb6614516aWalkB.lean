import Derived.Test.Qxb6614516aEq
namespace Go.Proofs.Qxb6614516a
open Go.ChangeShapes Go.WideShapes Go.ChangeAt Go.RowKit
set_option linter.unusedVariables false

theorem wrap_undo (c x : Int) (h1 : -9223372036854775808 ≤ c) (h2 : c ≤ 9223372036854775807) : wrap64 (wrap64 (c + x) + wrap64 (-x)) = c := by
  unfold wrap64; omega

set_option maxHeartbeats 400000 in
theorem undone_nil (a0 a1 a2 a4 : Int) (w : World) (hw : wrap64 (wrap64 (a1 + a4) + wrap64 (-a4)) = a1) :
    Calls Try.prog 4 #[.int .i64 a0, .int .i64 a1, .int .i64 a2, .pointer none, .int .i64 a4] w fun e w' => e = .returned (.bool true) ∧ Below w.heap.size w w' := by
  go_enter Try.func4, Try.ntmps4
  go_wp2
  go_end0
  generalize wrap64 (a1 + a4) = z at hw ⊢
  have hneq := neq27 a0 z a2 none (.inl rfl)
  have hneq' := neq27 a0 a1 a2 none (.inl rfl)
  go_wp2
  go_end0
  clear hw
  go_wp2
  go_ret
  exact ⟨rfl, ((((Below.refl _ _).alloc (by simp) _).alloc (by simp) _).alloc (by simp; omega) _).alloc (by simp; omega) _⟩

set_option maxHeartbeats 400000 in
theorem undone_some (a0 a1 a2 a4 t : Int) (b off : Nat) (w : World) (hw : wrap64 (wrap64 (a1 + a4) + wrap64 (-a4)) = a1) (hc : w.cell? ⟨b, off, none⟩ = some (.int .i64 t)) :
    Calls Try.prog 4 #[.int .i64 a0, .int .i64 a1, .int .i64 a2, .pointer (some ⟨b, off, none⟩), .int .i64 a4] w fun e w' => e = .returned (.bool true) ∧ Below w.heap.size w w' := by
  go_enter Try.func4, Try.ntmps4
  go_wp2
  go_end0
  generalize wrap64 (a1 + a4) = z at hw ⊢
  have hneq := neq27 a0 z a2 (some ⟨w.heap.size, 0, none⟩) (.inr ⟨_, _, rfl⟩)
  have hneq' := neq27 a0 a1 a2 (some ⟨w.heap.size, 0, none⟩) (.inr ⟨_, _, rfl⟩)
  go_wp2
  go_end0
  clear hw
  go_wp2
  go_ret
  exact ⟨rfl, (((((Below.refl _ _).alloc (by simp) _).alloc (by simp) _).alloc (by simp; omega) _).alloc (by simp; omega) _).alloc (by simp; omega) _⟩
end Go.Proofs.Qxb6614516a
