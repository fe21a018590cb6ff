import Derived.Test.Qxb6602557aW4
namespace Go.Proofs.Qxb6602557a.W
open Go.RowKit
set_option linter.unusedVariables false

def Yes (w : World) (e : Ending) (w' : World) : Prop := e = .returned (.bool true) ∧ Below w.heap.size w w'

set_option maxRecDepth 100000 in
/-- zzSameU32 on two slices of the same numbers. -/
theorem same_any (a1 a2 : Option Addr) (n c1 c2 : Nat) (Z : Nat → Int) (w : World) (hn : n ≤ 1048576) (h1 : U32s w a1 n Z) (h2 : U32s w a2 n Z) :
    Calls Try.prog 24 #[.slice a1 n c1, .slice a2 n c2] w (Yes w) := by
  have hnn : ((n : Int) != (n : Int)) = false := by simp
  go_enter Try.func24, Try.ntmps24
  go_wp2
  go_loopw [5] (fun i wr => ∃ k : Nat, k ≤ n ∧ i = .int .i64 k ∧ Below w.heap.size w wr) (fun i _ => n - (intOf i).toNat)
  case atStart => exact ⟨0, Nat.zero_le _, rfl, Below.refl _ _⟩
  case round =>
    obtain ⟨k, hk, rfl, hbel⟩ := hrel
    by_cases hlt : k < n
    · rcases h1 with rfl | ⟨b1, o1, rfl, l1, g1⟩
      · omega
      rcases h2 with rfl | ⟨b2, o2, rfl, l2, g2⟩
      · omega
      have e1 := (hbel.cell (p := ⟨b1, o1 + k, none⟩) l1).trans (g1 k hlt)
      have e2 := (hbel.cell (p := ⟨b2, o2 + k, none⟩) l2).trans (g2 k hlt)
      have hlt' : (k : Int) < (n : Int) := by omega
      clear g1 g2
      go_wp2
      go_quiet (fail)
      go_wp2
      go_roundw
      case rel => exact ⟨k + 1, by omega, by go_num, below_drewN hbel _⟩
      case measure => simp [intOf]; omega
    · go_wp2
      go_ret
      exact ⟨rfl, hbel⟩

end Go.Proofs.Qxb6602557a.W
