import Derived.Test.Qxb6600897aProg
import Derived.KernelRfl
import Derived.WalkKit
import Derived.WalkSpells
import Derived.Below
namespace Go.Proofs.Qxb6600897a.W
open Go.RowKit
set_option linter.unusedVariables false

/-- addBytesB1: some number from 0 to 2^21; nothing turns. -/
theorem addBytes_any (t n : Int) (w : World) :
    Calls Try.prog 9 #[.int .i64 t, .int .i64 n] w fun e w' => ∃ r : Int, 0 ≤ r ∧ r ≤ 2097152 ∧ e = .returned (.int .i64 r) ∧ w' = w := by
  by_cases h1 : t < 0
  · go_enter Try.func9, Try.ntmps9
    go_wp2
    go_ret
    exact ⟨_, by omega, by omega, rfl, rfl⟩
  have d1 : decide (t < 0) = false := decide_eq_false h1
  by_cases h2 : n < 0
  · go_enter Try.func9, Try.ntmps9
    go_wp2
    go_ret
    exact ⟨_, by omega, by omega, rfl, rfl⟩
  have d2 : decide (n < 0) = false := decide_eq_false h2
  by_cases h3 : 1048576 < t
  · go_enter Try.func9, Try.ntmps9
    go_wp2
    go_ret
    exact ⟨_, by omega, by omega, rfl, rfl⟩
  have d3 : decide (1048576 < t) = false := decide_eq_false h3
  by_cases h4 : 1048576 < n
  · go_enter Try.func9, Try.ntmps9
    go_wp2
    go_ret
    exact ⟨_, by omega, by omega, rfl, rfl⟩
  · go_enter Try.func9, Try.ntmps9
    go_wp2
    go_ret
    exact ⟨_, by omega, by omega, rfl, rfl⟩

end Go.Proofs.Qxb6600897a.W
