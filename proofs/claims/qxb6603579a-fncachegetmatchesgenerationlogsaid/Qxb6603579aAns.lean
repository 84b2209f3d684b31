/- WORK: zzB1answer. -/
import Derived.Test.Qxb6603579aMem
namespace Go.Proofs.Qxb6603579a
open Go.RowKit
set_option linter.unusedVariables false

set_option maxHeartbeats 1600000 in
theorem answer_true (w : World) (s : ByteArray) (ok : Bool) : Calls Try.prog 12 #[vf s, .bool ok, .string s, .bool ok] w fun e w' => e = .returned (.bool true) ∧ Below w.heap.size w w' := by
  have hss : (s.toList == s.toList) = true := by simp
  have q22 : ∀ w, (binOp .eql 22 (.slice none 0 0) (.slice none 0 0)).run Try.prog w = .ok (.bool true) w := fun w => by kernel_rfl
  have q34 : ∀ w, (binOp .eql 34 (.pointer none) (.pointer none)).run Try.prog w = .ok (.bool true) w := fun w => by kernel_rfl
  have q30 : ∀ w, (binOp .eql 30 (.agg #[.int .u8 0, .int .u8 0, .int .u8 0, .int .u8 0, .int .u8 0, .int .u8 0, .int .u8 0, .int .u8 0, .int .u8 0, .int .u8 0, .int .u8 0, .int .u8 0, .int .u8 0, .int .u8 0, .int .u8 0, .int .u8 0]) (.agg #[.int .u8 0, .int .u8 0, .int .u8 0, .int .u8 0, .int .u8 0, .int .u8 0, .int .u8 0, .int .u8 0, .int .u8 0, .int .u8 0, .int .u8 0, .int .u8 0, .int .u8 0, .int .u8 0, .int .u8 0, .int .u8 0])).run Try.prog w = .ok (.bool true) w := fun w => by kernel_rfl
  cases ok
  all_goals
    go_enter Try.func12, Try.ntmps12
    go_wp2
    go_ret
    exact ⟨rfl, (((Below.refl _ w).alloc (Nat.le_refl _) _).alloc (by simp) _).alloc (by simp; omega) _⟩
end Go.Proofs.Qxb6603579a
