import Derived.Test.Qxb6602959aProg
import Derived.KernelRfl
import Derived.WalkKit
import Derived.WalkSpells
import Derived.WalkLawsBesides
import Derived.Below
import Derived.Deep.OwnRows
import Derived.Lib.SliceRun
import Derived.Deep.QuietTactic
import Derived.BigQuiet
import Derived.RegionTactic
import Derived.BigRegion
namespace Go.Proofs.Qxb6602959a.W
open Go.RowKit
set_option linter.unusedVariables false

theorem hide' {p : Prop} (h : p) : Hid p := h
def SomeBool (w : World) (e : Ending) (w' : World) : Prop := ∃ r : Bool, e = .returned (.bool r) ∧ w' = w
def SomeInt (w : World) (e : Ending) (w' : World) : Prop := ∃ r : Int, e = .returned (.int .i64 r) ∧ w' = w

/-- A step of the way; a node. -/
structure St where
  k : ByteArray
  i : Int
  n : Int
structure Nd where
  p : Int
  k : ByteArray
  i : Int

/-- A slice of n steps as the walks see it. -/
def Steps (w : World) (a : Option Addr) (n : Nat) (S : Nat → St) : Prop :=
  n = 0 ∨ ∃ b off, a = some ⟨b, off, none⟩ ∧ b < w.heap.size ∧ ∀ i, i < n → w.cell? ⟨b, off + i * 3, none⟩ = some (.string (S i).k) ∧ w.cell? ⟨b, off + i * 3 + 1, none⟩ = some (.int .i64 (S i).i) ∧ w.cell? ⟨b, off + i * 3 + 2, none⟩ = some (.int .i32 (S i).n)
def Nodes (w : World) (a : Option Addr) (n : Nat) (S : Nat → Nd) : Prop :=
  n = 0 ∨ ∃ b off, a = some ⟨b, off, none⟩ ∧ b < w.heap.size ∧ ∀ i, i < n → w.cell? ⟨b, off + i * 3, none⟩ = some (.int .i32 (S i).p) ∧ w.cell? ⟨b, off + i * 3 + 1, none⟩ = some (.string (S i).k) ∧ w.cell? ⟨b, off + i * 3 + 2, none⟩ = some (.int .i64 (S i).i)
theorem Steps.below {w w' : World} {a : Option Addr} {n : Nat} {S : Nat → St} (h : Steps w a n S) (hb : Below w.heap.size w w') : Steps w' a n S := by
  rcases h with h | ⟨b, off, ha, hl, hc⟩
  · exact .inl h
  · exact .inr ⟨b, off, ha, Nat.lt_of_lt_of_le hl hb.size, fun i hi => ⟨(hb.cell (p := ⟨b, off + i * 3, none⟩) hl).trans (hc i hi).1, (hb.cell (p := ⟨b, off + i * 3 + 1, none⟩) hl).trans (hc i hi).2.1, (hb.cell (p := ⟨b, off + i * 3 + 2, none⟩) hl).trans (hc i hi).2.2⟩⟩
theorem Nodes.below {w w' : World} {a : Option Addr} {n : Nat} {S : Nat → Nd} (h : Nodes w a n S) (hb : Below w.heap.size w w') : Nodes w' a n S := by
  rcases h with h | ⟨b, off, ha, hl, hc⟩
  · exact .inl h
  · exact .inr ⟨b, off, ha, Nat.lt_of_lt_of_le hl hb.size, fun i hi => ⟨(hb.cell (p := ⟨b, off + i * 3, none⟩) hl).trans (hc i hi).1, (hb.cell (p := ⟨b, off + i * 3 + 1, none⟩) hl).trans (hc i hi).2.1, (hb.cell (p := ⟨b, off + i * 3 + 2, none⟩) hl).trans (hc i hi).2.2⟩⟩

set_option maxRecDepth 100000 in
set_option maxHeartbeats 1000000 in
theorem zzBytes_any (a0 : Option Addr) (n0 c0 : Nat) (S : Nat → St) (a1 : Option Addr) (n1 c1 : Nat) (T : Nat → Nd) (w : World) (h0 : Steps w a0 n0 S) (h1 : Nodes w a1 n1 T) :
    Calls Try.prog 4 #[.slice a0 n0 c0, .slice a1 n1 c1] w (SomeBool w) := by
  go_enter Try.func4, Try.ntmps4
  go_wp2
  all_goals try (go_ret; exact ⟨_, rfl, rfl⟩)
  go_loop [5, 6] (fun t i => ∃ k : Nat, k ≤ n0 ∧ i = .int .i64 k ∧ ∃ r : Int, 0 ≤ r ∧ r ≤ 1048576 ∧ t = .int .i64 r) (fun _ i => n0 - (intOf i).toNat)
  case atStart => exact ⟨0, Nat.zero_le _, rfl, _, by omega, by omega, rfl⟩
  case round =>
    obtain ⟨k, hk, rfl, r, hr0, hr1, rfl⟩ := hrel
    by_cases hlt : k < n0
    · rcases h0 with rfl | ⟨b, off, rfl, hl, hc⟩
      · omega
      have hcx := (hc k hlt).1
      clear hc
      go_wp2
      all_goals try (go_ret; exact ⟨_, rfl, rfl⟩)
      go_round
      case rel => exact ⟨k + 1, by omega, by go_num, _, by omega, by omega, rfl⟩
      case measure => simp [intOf]; omega
    · clear h0
      go_wp2
      all_goals try (go_ret; exact ⟨_, rfl, rfl⟩)
      go_loop [5, 7] (fun t i => ∃ k : Nat, k ≤ n1 ∧ i = .int .i64 k ∧ ∃ r : Int, 0 ≤ r ∧ r ≤ 1048576 ∧ t = .int .i64 r) (fun _ i => n1 - (intOf i).toNat)
      case atStart => exact ⟨0, Nat.zero_le _, rfl, _, by omega, by omega, rfl⟩
      case round =>
        obtain ⟨k', hk', rfl, r', hr0', hr1', rfl⟩ := hrel
        by_cases hlt' : k' < n1
        · rcases h1 with rfl | ⟨b, off, rfl, hl, hc⟩
          · omega
          have hcx := (hc k' hlt').2.1
          clear hc
          go_wp2
          all_goals try (go_ret; exact ⟨_, rfl, rfl⟩)
          go_round
          case rel => exact ⟨k' + 1, by omega, by go_num, _, by omega, by omega, rfl⟩
          case measure => simp [intOf]; omega
        · clear h1
          go_wp2
          go_ret
          exact ⟨_, rfl, rfl⟩

set_option maxRecDepth 100000 in
set_option maxHeartbeats 1000000 in
theorem pathsBytes_any (a0 : Option Addr) (n0 c0 : Nat) (S : Nat → St) (a1 : Option Addr) (n1 c1 : Nat) (T : Nat → Nd) (w : World) (hn0 : n0 ≤ 65536) (hn1 : n1 ≤ 65536) (h0 : Steps w a0 n0 S) (h1 : Nodes w a1 n1 T) :
    Calls Try.prog 5 #[.slice a0 n0 c0, .slice a1 n1 c1] w (SomeInt w) := by
  go_enter Try.func5, Try.ntmps5
  go_wp2
  go_loop [5, 6] (fun t i => ∃ k : Nat, k ≤ n0 ∧ i = .int .i64 k ∧ ∃ r : Int, t = .int .i64 r) (fun _ i => n0 - (intOf i).toNat)
  case atStart => exact ⟨0, Nat.zero_le _, rfl, _, rfl⟩
  case round =>
    obtain ⟨k, hk, rfl, r, rfl⟩ := hrel
    by_cases hlt : k < n0
    · rcases h0 with rfl | ⟨b, off, rfl, hl, hc⟩
      · omega
      have hcx := (hc k hlt).1
      clear hc
      go_wp2
      go_round
      case rel => exact ⟨k + 1, by omega, by go_num, _, rfl⟩
      case measure => simp [intOf]; omega
    · clear h0
      go_wp2
      go_loop [5, 7] (fun t i => ∃ k : Nat, k ≤ n1 ∧ i = .int .i64 k ∧ ∃ r : Int, t = .int .i64 r) (fun _ i => n1 - (intOf i).toNat)
      case atStart => exact ⟨0, Nat.zero_le _, rfl, _, rfl⟩
      case round =>
        obtain ⟨k', hk', rfl, r', rfl⟩ := hrel
        by_cases hlt' : k' < n1
        · rcases h1 with rfl | ⟨b, off, rfl, hl, hc⟩
          · omega
          have hcx := (hc k' hlt').2.1
          clear hc
          go_wp2
          go_round
          case rel => exact ⟨k' + 1, by omega, by go_num, _, rfl⟩
          case measure => simp [intOf]; omega
        · clear h1
          go_wp2
          go_ret
          exact ⟨_, rfl, rfl⟩

/-- What zzMadePrefix tells: m steps at the head have a node made. -/
def Made (S : Nat → St) (n m : Nat) : Prop := m ≤ n ∧ (∀ i, i < m → 0 ≤ (S i).n) ∧ (m = n ∨ (S m).n < 0)
def MadeIs (w : World) (S : Nat → St) (n : Nat) (e : Ending) (w' : World) : Prop := ∃ m : Nat, e = .returned (.int .i64 m) ∧ Made S n m ∧ w' = w

theorem Made.unique {S : Nat → St} {n m m' : Nat} (h : Made S n m) (h' : Made S n m') : m = m' := by
  obtain ⟨a1, a2, a3⟩ := h
  obtain ⟨b1, b2, b3⟩ := h'
  rcases Nat.lt_trichotomy m m' with hl | he | hl
  · rcases a3 with h | h
    · omega
    · have := b2 m hl; omega
  · exact he
  · rcases b3 with h | h
    · omega
    · have := a2 m' hl; omega

set_option maxRecDepth 100000 in
set_option maxHeartbeats 1000000 in
theorem made_any (a0 : Option Addr) (n0 c0 : Nat) (S : Nat → St) (w : World) (hn0 : n0 ≤ 65536) (h0 : Steps w a0 n0 S) : Calls Try.prog 7 #[.slice a0 n0 c0] w (MadeIs w S n0) := by
  go_enter Try.func7, Try.ntmps7
  go_wp2
  go_loop [3] (fun i => ∃ k : Nat, k ≤ n0 ∧ i = .int .i64 k ∧ ∀ j, j < k → 0 ≤ (S j).n) (fun i => n0 - (intOf i).toNat)
  case atStart => exact ⟨0, Nat.zero_le _, rfl, fun j hj => absurd hj (by omega)⟩
  case round =>
    obtain ⟨k, hk, rfl, hall⟩ := hrel
    have HA := hide' hall
    clear hall
    by_cases hlt : k < n0
    · rcases h0 with rfl | ⟨b, off, rfl, hl, hc⟩
      · omega
      have hcx := (hc k hlt).2.2
      have hlt' : (k : Int) < (n0 : Int) := by omega
      clear hc
      by_cases hneg : 0 ≤ (S k).n
      · go_wp2
        go_round
        case rel => exact ⟨k + 1, by omega, by go_num, fun j hj => if h : j < k then HA.out j h else by rw [show j = k by omega]; exact hneg⟩
        case measure => simp [intOf]; omega
      · have hd : decide (0 ≤ (S k).n) = false := decide_eq_false hneg
        go_wp2
        go_ret
        exact ⟨k, rfl, ⟨hk, HA.out, .inr (by omega)⟩, rfl⟩
    · have hd : decide ((k : Int) < (n0 : Int)) = false := decide_eq_false (by omega)
      clear h0
      go_wp2
      go_ret
      exact ⟨k, rfl, ⟨hk, HA.out, .inl (by omega)⟩, rfl⟩

end Go.Proofs.Qxb6602959a.W
