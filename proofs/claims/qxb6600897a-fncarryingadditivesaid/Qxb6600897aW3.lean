import Derived.Test.Qxb6600897aW2
namespace Go.Proofs.Qxb6600897a.W
open Go.RowKit
set_option linter.unusedVariables false

/-- countsBytesB1: some number from 0 to 2^21; nothing turns. -/
theorem countsBytes_any (ns0 key0 : ByteArray) (a : Option Addr) (n c : Nat) (S : Nat → ByteArray) (a' : Option Addr) (n' c' : Nat) (w : World) (hn : n ≤ 1048576) (hn' : n' ≤ 1048576) (h : Strs w a n S) :
    Calls Try.prog 10 #[.string ns0, .string key0, .slice a n c, .slice a' n' c'] w fun e w' => ∃ r : Int, 0 ≤ r ∧ r ≤ 2097152 ∧ e = .returned (.int .i64 r) ∧ w' = w := by
  go_enter Try.func10, Try.ntmps10
  go_wp2_with fail
  · go_ret
    exact ⟨_, by omega, by omega, rfl, rfl⟩
  · refine (addBytes_any _ _ _).mono ?_
    rintro e w' ⟨r1, h10, h11, rfl, rfl⟩
    go_wp2_with fail
    refine (addBytes_any _ _ _).mono ?_
    rintro e w' ⟨r2, h20, h21, rfl, rfl⟩
    go_wp2_with fail
    refine (strsBytes_any _ _ _ S _ hn h).mono ?_
    rintro e w' ⟨r3, h30, h31, rfl, rfl⟩
    go_wp2_with fail
    refine (addBytes_any _ _ _).mono ?_
    rintro e w' ⟨r4, h40, h41, rfl, rfl⟩
    go_wp2_with fail
    refine (addBytes_any _ _ _).mono ?_
    rintro e w' ⟨r5, h50, h51, rfl, rfl⟩
    go_wp2
    go_ret
    exact ⟨_, h50, h51, rfl, rfl⟩

/-- Some bool comes back; nothing turns. -/
def SomeBool (w : World) (e : Ending) (w' : World) : Prop := ∃ r : Bool, e = .returned (.bool r) ∧ w' = w

set_option maxHeartbeats 1000000 in
/-- zzBytes: it answers; nothing turns. -/
theorem zzBytes_any (ns0 key0 : ByteArray) (any0 : Int) (a3 : Option Addr) (n3 c3 : Nat) (S3 : Nat → ByteArray) (a4 : Option Addr) (n4 c4 : Nat) (ns key : ByteArray)
    (a7 : Option Addr) (n7 c7 : Nat) (S7 : Nat → ByteArray) (a8 : Option Addr) (n8 c8 : Nat) (S8 : Nat → ByteArray) (w : World)
    (h3 : Strs w a3 n3 S3) (h7 : Strs w a7 n7 S7) (h8 : Strs w a8 n8 S8) :
    Calls Try.prog 8 #[.string ns0, .string key0, .int .i64 any0, .slice a3 n3 c3, .slice a4 n4 c4, .string ns, .string key, .slice a7 n7 c7, .slice a8 n8 c8] w (SomeBool w) := by
  go_enter Try.func8, Try.ntmps8
  go_wp2
  all_goals try (go_ret; exact ⟨_, rfl, rfl⟩)
  go_loop [19, 20] (fun t i => ∃ k : Nat, k ≤ n3 ∧ i = .int .i64 k ∧ ∃ r : Int, 0 ≤ r ∧ r ≤ 1048576 ∧ t = .int .i64 r) (fun _ i => n3 - (intOf i).toNat)
  case atStart => exact ⟨0, Nat.zero_le _, rfl, _, by omega, by omega, rfl⟩
  case round =>
    obtain ⟨k, hk, rfl, r, hr0, hr1, rfl⟩ := hrel
    by_cases hlt : k < n3
    · rcases h3 with rfl | ⟨b, off, rfl, hl, hc⟩
      · omega
      have hcx := hc k hlt
      go_wp2
      all_goals try (go_ret; exact ⟨_, rfl, rfl⟩)
      go_round
      case rel => exact ⟨k + 1, by omega, by go_num, _, by omega, by omega, rfl⟩
      case measure => simp [intOf]; omega
    · clear h3
      go_wp2
      all_goals try (go_ret; exact ⟨_, rfl, rfl⟩)
      go_loop [19, 21] (fun t i => ∃ k : Nat, k ≤ n7 ∧ i = .int .i64 k ∧ ∃ r : Int, 0 ≤ r ∧ r ≤ 1048576 ∧ t = .int .i64 r) (fun _ i => n7 - (intOf i).toNat)
      case atStart => exact ⟨0, Nat.zero_le _, rfl, _, by omega, by omega, rfl⟩
      case round =>
        obtain ⟨k', hk', rfl, r', hr0', hr1', rfl⟩ := hrel
        by_cases hlt' : k' < n7
        · rcases h7 with rfl | ⟨b, off, rfl, hl, hc⟩
          · omega
          have hcx := hc k' hlt'
          go_wp2
          all_goals try (go_ret; exact ⟨_, rfl, rfl⟩)
          go_round
          case rel => exact ⟨k' + 1, by omega, by go_num, _, by omega, by omega, rfl⟩
          case measure => simp [intOf]; omega
        · clear h7
          go_wp2
          all_goals try (go_ret; exact ⟨_, rfl, rfl⟩)
          go_loop [19, 22] (fun t i => ∃ k : Nat, k ≤ n8 ∧ i = .int .i64 k ∧ ∃ r : Int, 0 ≤ r ∧ r ≤ 1048576 ∧ t = .int .i64 r) (fun _ i => n8 - (intOf i).toNat)
          case atStart => exact ⟨0, Nat.zero_le _, rfl, _, by omega, by omega, rfl⟩
          case round =>
            obtain ⟨k'', hk'', rfl, r'', hr0'', hr1'', rfl⟩ := hrel
            by_cases hlt'' : k'' < n8
            · rcases h8 with rfl | ⟨b, off, rfl, hl, hc⟩
              · omega
              have hcx := hc k'' hlt''
              go_wp2
              all_goals try (go_ret; exact ⟨_, rfl, rfl⟩)
              go_round
              case rel => exact ⟨k'' + 1, by omega, by go_num, _, by omega, by omega, rfl⟩
              case measure => simp [intOf]; omega
            · clear h8
              go_wp2
              go_ret
              exact ⟨_, rfl, rfl⟩

end Go.Proofs.Qxb6600897a.W
