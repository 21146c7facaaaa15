import Derived.Test.Qxb6614516aRows
import Derived.WalkKit
import Derived.ProofKit
import Derived.OpenShut
import Derived.Below
import Derived.RegionTactic
import Derived.ChangeAlike
import Derived.Deep.QuietTactic
import Derived.BigQuiet
import Derived.Laws.Pointers
import Derived.Laws.StructEq
namespace Go.Proofs.Qxb6614516a
open Go.ChangeShapes Go.WideShapes Go.ChangeAt Go.RowKit
set_option linter.unusedVariables false

theorem wrap_assoc (c x y : Int) : wrap64 (c + wrap64 (x + y)) = wrap64 (wrap64 (c + x) + y) := by
  unfold wrap64; omega
/-- A pointer to an Amount is equal to itself. -/
theorem eq_ptr (d : Nat) (p : Option Addr) (hp : p = none ∨ ∃ b off, p = some ⟨b, off, none⟩) (w : World) : (Op.equalIn (d + 1) 25 (.pointer p) (.pointer p)).run Try.prog w = .ok true w := by
  rcases hp with rfl | ⟨b, off, rfl⟩
  · simp [Op.equalIn, run_underlying Try.underlying25]
  · simp [Op.equalIn, run_underlying Try.underlying25, sameAddr]
theorem neq_ptr (p : Option Addr) (hp : p = none ∨ ∃ b off, p = some ⟨b, off, none⟩) (w : World) : (binOp .neq 25 (.pointer p) (.pointer p)).run Try.prog w = .ok (.bool false) w := by
  simp only [binOp]
  have := eq_ptr 9999 p hp w
  simp [Op.equal, Op.maxDepth, this]
theorem fields27 : (Try.prog.fieldsOf 27).toList.map (fun f => (f.name, f.type, f.offset)) = [("CreditLimit", 24, 0), ("CashBalance", 24, 1), ("ExecutionLimit", 24, 2), ("NotificationThreshold", 25, 3)] := by kernel_rfl
theorem st27 : Try.prog.underlying 27 = some (.struct (Try.prog.fieldsOf 27)) := by kernel_rfl
theorem held27 : Try.prog.stoodInHeld 27 = false := by kernel_rfl
theorem fields27' : ∃ f0 f1 f2 f3, (Try.prog.fieldsOf 27).toList = [f0, f1, f2, f3] ∧ (f0.name ≠ "_" ∧ f0.type = 24 ∧ f0.offset = 0) ∧ (f1.name ≠ "_" ∧ f1.type = 24 ∧ f1.offset = 1) ∧ (f2.name ≠ "_" ∧ f2.type = 24 ∧ f2.offset = 2) ∧ (f3.name ≠ "_" ∧ f3.type = 25 ∧ f3.offset = 3) := by
  have h := fields27
  simp only [List.map_eq_cons_iff, List.map_eq_nil_iff] at h
  obtain ⟨f0, r0, e0, h0, f1, r1, e1, h1, f2, r2, e2, h2, f3, r3, e3, h3, e4⟩ := h
  subst e4; subst e3; subst e2; subst e1
  simp only [Prod.mk.injEq] at h0 h1 h2 h3
  exact ⟨f0, f1, f2, f3, e0, ⟨by rw [h0.1]; decide, h0.2⟩, ⟨by rw [h1.1]; decide, h1.2⟩, ⟨by rw [h2.1]; decide, h2.2⟩, ⟨by rw [h3.1]; decide, h3.2⟩⟩
theorem part0 (x0 x1 x2 x3 : Value) (w : World) : (part 24 #[x0, x1, x2, x3] 0).run Try.prog w = .ok x0 w := by kernel_rfl
theorem part1 (x0 x1 x2 x3 : Value) (w : World) : (part 24 #[x0, x1, x2, x3] 1).run Try.prog w = .ok x1 w := by kernel_rfl
theorem part2 (x0 x1 x2 x3 : Value) (w : World) : (part 24 #[x0, x1, x2, x3] 2).run Try.prog w = .ok x2 w := by kernel_rfl
theorem part3 (x0 x1 x2 x3 : Value) (w : World) : (part 25 #[x0, x1, x2, x3] 3).run Try.prog w = .ok x3 w := by kernel_rfl
theorem neq27 (a z c : Int) (p : Option Addr) (hp : p = none ∨ ∃ b off, p = some ⟨b, off, none⟩) (w : World) :
    (binOp .neq 27 (.agg #[.int .i64 a, .int .i64 z, .int .i64 c, .pointer p]) (.agg #[.int .i64 a, .int .i64 z, .int .i64 c, .pointer p])).run Try.prog w = .ok (.bool false) w := by
  rw [run_neq_struct, run_equalIn_struct w 9999 27 _ _ st27 held27]
  obtain ⟨f0, f1, f2, f3, hl, ⟨n0, t0, o0⟩, ⟨n1, t1, o1⟩, ⟨n2, t2, o2⟩, ⟨n3, t3, o3⟩⟩ := fields27'
  rw [hl]
  simp only [Op.eqFields, n0, n1, n2, n3, t0, t1, t2, t3, o0, o1, o2, o3, ne_eq, not_false_eq_true, if_true, Sem.run_bind, part0, part1, part2, part3, Result.andThen_ok, run_equalIn_int w 9998 24 .i64 .i64 _ _ Try.underlying24, beq_self_eq_true, Bool.not_true, Bool.false_eq_true, if_false, eq_ptr 9998 p hp, Sem.run_pure]
end Go.Proofs.Qxb6614516a
