import Derived.Test.Qxb6600897aW1
namespace Go.Proofs.Qxb6600897a.W
open Go.RowKit
set_option linter.unusedVariables false

/-- A slice of n strings as the walks see it: empty (whatever its address), or the strings S 0 .. S (n - 1) behind a plain address. -/
def Strs (w : World) (a : Option Addr) (n : Nat) (S : Nat → ByteArray) : Prop :=
  n = 0 ∨ ∃ b off, a = some ⟨b, off, none⟩ ∧ b < w.heap.size ∧ ∀ i, i < n → w.cell? ⟨b, off + i, none⟩ = some (.string (S i))
/-- A slice of n ints, likewise. -/
def Ints (w : World) (a : Option Addr) (n : Nat) (Z : Nat → Int) : Prop :=
  n = 0 ∨ ∃ b off, a = some ⟨b, off, none⟩ ∧ b < w.heap.size ∧ ∀ i, i < n → w.cell? ⟨b, off + i, none⟩ = some (.int .i64 (Z i))

theorem Strs.below {w w' : World} {a : Option Addr} {n : Nat} {S : Nat → ByteArray} (h : Strs w a n S) (hb : Below w.heap.size w w') : Strs w' a n S := by
  rcases h with h | ⟨b, off, ha, hl, hc⟩
  · exact .inl h
  · exact .inr ⟨b, off, ha, Nat.lt_of_lt_of_le hl hb.size, fun i hi => (hb.cell (p := ⟨b, off + i, none⟩) hl).trans (hc i hi)⟩
theorem Ints.below {w w' : World} {a : Option Addr} {n : Nat} {S : Nat → Int} (h : Ints w a n S) (hb : Below w.heap.size w w') : Ints w' a n S := by
  rcases h with h | ⟨b, off, ha, hl, hc⟩
  · exact .inl h
  · exact .inr ⟨b, off, ha, Nat.lt_of_lt_of_le hl hb.size, fun i hi => (hb.cell (p := ⟨b, off + i, none⟩) hl).trans (hc i hi)⟩

/-- strsBytesB1: some number from 0 to 2^21; nothing turns. -/
theorem strsBytes_any (a : Option Addr) (n c : Nat) (S : Nat → ByteArray) (w : World) (hn : n ≤ 1048576) (h : Strs w a n S) :
    Calls Try.prog 11 #[.slice a n c] w fun e w' => ∃ r : Int, 0 ≤ r ∧ r ≤ 2097152 ∧ e = .returned (.int .i64 r) ∧ w' = w := by
  rcases h with rfl | ⟨b, off, rfl, hl, hc⟩
  · go_enter Try.func11, Try.ntmps11
    go_wp2
    refine wp_loop_rounds 1 ?_
    rw [rounds_succ]
    go_wp2
    go_ret
    exact ⟨_, by omega, by omega, rfl, rfl⟩
  · go_enter Try.func11, Try.ntmps11
    go_wp2
    go_loop [3, 4] (fun t i => ∃ k : Nat, k ≤ n ∧ i = .int .i64 k ∧ ∃ r : Int, 0 ≤ r ∧ r ≤ 2097152 ∧ t = .int .i64 r) (fun _ i => n - (intOf i).toNat)
    case atStart => exact ⟨0, Nat.zero_le _, rfl, 0, by omega, by omega, rfl⟩
    case round =>
      obtain ⟨k, hk, rfl, r, hr0, hr1, rfl⟩ := hrel
      by_cases hlt : k < n
      · have hcx := hc k hlt
        go_wp2_with fail
        refine (addBytes_any _ _ _).mono ?_
        rintro e w' ⟨r1, h10, h11, rfl, rfl⟩
        go_wp2_with fail
        refine (addBytes_any _ _ _).mono ?_
        rintro e w' ⟨r2, h20, h21, rfl, rfl⟩
        go_wp2
        · go_ret
          exact ⟨_, h20, h21, rfl, rfl⟩
        · go_round
          case rel => exact ⟨k + 1, by omega, by go_num, r2, h20, h21, rfl⟩
          case measure => simp [intOf]; omega
      · go_wp2
        go_ret
        exact ⟨_, hr0, hr1, rfl, rfl⟩

end Go.Proofs.Qxb6600897a.W
