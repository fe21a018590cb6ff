import Derived.Test.Qxb6602557aProg
import Derived.KernelRfl
import Derived.WalkKit
import Derived.WalkSpells
import Derived.WalkLawsBesides
import Derived.Below
import Derived.Deep.OwnRows
import Derived.Laws.CopyOwn
import Derived.Lib.SliceRun
import Derived.Deep.QuietTactic
import Derived.BigQuiet
import Derived.RegionTactic
import Derived.BigRegion
import Derived.OpenShut
namespace Go.Proofs.Qxb6602557a.W
open Go.RowKit
set_option linter.unusedVariables false

def SomeBool (w : World) (e : Ending) (w' : World) : Prop := ∃ r : Bool, e = .returned (.bool r) ∧ w' = w

theorem zzBytes_any (bits : Int) (a1 : Option Addr) (n1 c1 : Nat) (a2 : Option Addr) (n2 c2 : Nat) (a3 : Option Addr) (n3 c3 : Nat) (a4 : Option Addr) (n4 c4 : Nat) (n a b : Int) (w : World) :
    Calls Try.prog 27 #[.int .i64 bits, .slice a1 n1 c1, .slice a2 n2 c2, .slice a3 n3 c3, .slice a4 n4 c4, .int .i64 n, .int .i64 a, .int .i64 b] w (SomeBool w) := by
  go_enter Try.func27, Try.ntmps27
  go_wp2
  all_goals (go_ret; exact ⟨_, rfl, rfl⟩)

/-- A record's place, 0 in a free entry. -/
def refF (m l : Int) : Int := bits BinOp.or IntKind.u64 (IntKind.u64.wrap (IntKind.u64.wrap (bits BinOp.and IntKind.u32 m 255) * 4294967296)) (IntKind.u64.wrap l)
/-- A member's position. -/
def topF (h m : Int) : Int := bits BinOp.or IntKind.u64 (IntKind.u64.wrap (IntKind.u64.wrap h * 4294967296)) (IntKind.u64.wrap (bits BinOp.andNot IntKind.u32 m 255))
/-- Its home. -/
def homeN (b : Nat) (p : Int) : Nat := (p / 2 ^ (64 - b)).toNat

theorem topF_range (h m : Int) : 0 ≤ topF h m ∧ topF h m < 18446744073709551616 := by
  have := bounds_u64 (wf_bits BinOp.or IntKind.u64 (IntKind.u64.wrap (IntKind.u64.wrap h * 4294967296)) (IntKind.u64.wrap (bits BinOp.andNot IntKind.u32 m 255)))
  unfold topF
  omega

theorem homeN_lt {b : Nat} {p : Int} (h0 : 0 ≤ p) (h1 : p < 18446744073709551616) (hb : b ≤ 64) : homeN b p < 2 ^ b := by
  unfold homeN
  obtain ⟨q, rfl⟩ := Int.eq_ofNat_of_zero_le h0
  have e : ((q : Int) / 2 ^ (64 - b)) = ((q / 2 ^ (64 - b) : Nat) : Int) := by simp
  rw [e, Int.toNat_natCast]
  have e2 : 2 ^ b * 2 ^ (64 - b) = 18446744073709551616 := by rw [← Nat.pow_add, show b + (64 - b) = 64 by omega]
  exact Nat.div_lt_of_lt_mul (by rw [Nat.mul_comm, e2]; omega)

theorem ref_any (h m l : Int) (w : World) :
    Calls Try.prog 39 #[.agg #[.int .u32 h, .int .u32 m, .int .u32 l]] w fun e w' => e = .returned (.int .u64 (refF m l)) ∧ Below w.heap.size w w' := by
  go_enter Try.func39, Try.ntmps39
  go_wp2
  go_ret
  exact ⟨rfl, (Below.refl _ _).alloc (Nat.le_refl _) _⟩

theorem top_any (h m l : Int) (w : World) :
    Calls Try.prog 42 #[.agg #[.int .u32 h, .int .u32 m, .int .u32 l]] w fun e w' => e = .returned (.int .u64 (topF h m)) ∧ Below w.heap.size w w' := by
  go_enter Try.func42, Try.ntmps42
  go_wp2
  go_ret
  exact ⟨rfl, (Below.refl _ _).alloc (Nat.le_refl _) _⟩

theorem pos_any (h m l : Int) (w : World) :
    Calls Try.prog 41 #[.agg #[.int .u32 h, .int .u32 m, .int .u32 l]] w fun e w' => e = .returned (.int .u64 (topF h m)) ∧ Below w.heap.size w w' := by
  go_enter Try.func41, Try.ntmps41
  go_wp2_with fail
  refine (top_any _ _ _ _).mono ?_
  rintro e w1 ⟨rfl, hb⟩
  go_wp2
  go_ret
  exact ⟨rfl, ((Below.refl _ _).alloc (Nat.le_refl _) _).trans (hb.mono (by simp))⟩

theorem homeN_cast {b : Nat} {p : Int} (h0 : 0 ≤ p) (h1 : p < 18446744073709551616) (hb : b ≤ 61) : wrap64 (p / 2 ^ (64 - b)) = ((homeN b p : Nat) : Int) := by
  have hl := homeN_lt h0 h1 (b := b) (by omega)
  have hp : 2 ^ b ≤ 2 ^ 61 := Nat.pow_le_pow_right (by decide) hb
  have hnn : 0 ≤ p / 2 ^ (64 - b) := Int.ediv_nonneg h0 (Int.pow_nonneg (by decide))
  have e2 : ((homeN b p : Nat) : Int) = p / 2 ^ (64 - b) := by
    unfold homeN
    exact Int.toNat_of_nonneg hnn
  rw [← e2]
  exact IntWalk.wrap64_in _ ⟨by omega, by omega⟩

theorem home_any (r b : Nat) (p : Int) (w : World) (hb : b ≤ 61) (h0 : 0 ≤ p) (h1 : p < 18446744073709551616) (hc : w.cell? ⟨r, 0, none⟩ = some (.int .i64 (b : Int))) :
    Calls Try.prog 40 #[.pointer (some ⟨r, 0, none⟩), .int .u64 p] w fun e w' => e = .returned (.int .i64 (homeN b p : Nat)) ∧ w' = w := by
  have HC : Hid (wrap64 (p / 2 ^ (64 - b)) = ((homeN b p : Nat) : Int)) := homeN_cast h0 h1 hb
  go_enter Try.func40, Try.ntmps40
  go_wp2
  go_ret
  exact ⟨congrArg (fun z => Ending.returned (Value.int .i64 z)) HC.out, rfl⟩
end Go.Proofs.Qxb6602557a.W
