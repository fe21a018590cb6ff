import Derived.Test.Qxb6600897aW3
import Derived.Deep.OwnRows
import Derived.Lib.SliceRun
namespace Go.Proofs.Qxb6600897a.W
open Go.RowKit
set_option linter.unusedVariables false

theorem Try.info9 : (Try.prog.info? 9).map (fun i => (i.zero, i.size, i.bytes)) = some (some (.string ByteArray.empty), 1, 16) := by kernel_rfl
theorem Try.info3 : (Try.prog.info? 3).map (fun i => (i.zero, i.size, i.bytes)) = some (some (.int .i64 0), 1, 8) := by kernel_rfl

/-- What cloneStrsB1 leaves: nil for nil; else a new row with the same strings. -/
def Cloned (w : World) (a : Option Addr) (n : Nat) (f : Nat → Value) (t : TypeId) (e : Ending) (w' : World) : Prop :=
  (a = none ∧ e = .returned (.slice none 0 0) ∧ w' = w) ∨
  (a ≠ none ∧ e = .returned (.slice (some ⟨w.heap.size, 0, none⟩) n n) ∧ w'.rowIs w.heap.size t n f ∧ Below w.heap.size w w')

theorem cloneStrs_nil (w : World) (f : Nat → Value) (t : TypeId) : Calls Try.prog 12 #[.slice none 0 0] w (Cloned w none 0 f t) := by
  have q22 : ∀ (w : World) (a : Option Addr) (n c n' c' : Nat), (binOp .eql 22 (.slice a n c) (.slice none n' c')).run Try.prog w = .ok (.bool a.isNone) w := fun w a n c n' c' => Lib.run_eql_slice_nil w _ _ a n c n' c' Try.underlying22
  go_enter Try.func12, Try.ntmps12
  go_wp2
  go_ret
  exact .inl ⟨rfl, rfl, rfl⟩

theorem cloneStrs_some (x : Addr) (n c : Nat) (S : Nat → ByteArray) (w : World) (hn : n ≤ 1048576) (h : Strs w (some x) n S) :
    Calls Try.prog 12 #[.slice (some x) n c] w (Cloned w (some x) n (fun i => .string (S i)) 9) := by
  have hmk := run_make_row' (P := Try.prog) 22 9 _ _ Try.underlying22 Try.info9 rfl .i64 .i64 n (by omega) (by omega)
  have q22 : ∀ (w : World) (a : Option Addr) (n c n' c' : Nat), (binOp .eql 22 (.slice a n c) (.slice none n' c')).run Try.prog w = .ok (.bool a.isNone) w := fun w a n c n' c' => Lib.run_eql_slice_nil w _ _ a n c n' c' Try.underlying22
  go_enter Try.func12, Try.ntmps12
  go_wp2
  go_loopw [4] (fun i wr => ∃ k : Nat, k ≤ n ∧ i = .int .i64 k ∧ wr.rowIs w.heap.size 9 n (fun i => if i < k then .string (S i) else .string ByteArray.empty) ∧ Below w.heap.size w wr)
    (fun i _ => n - (intOf i).toNat)
  case atStart => exact ⟨0, Nat.zero_le _, rfl, by simpa using World.rowIs_made w (.string ByteArray.empty) n 9, (Below.refl _ _).alloc (Nat.le_refl _) _⟩
  case round =>
    obtain ⟨k, hk, rfl, hrow, hbel⟩ := hrel
    by_cases hlt : k < n
    · rcases h with rfl | ⟨b, off, hx, hl, hc⟩
      · omega
      obtain rfl : x = ⟨b, off, none⟩ := Option.some.inj hx
      clear hx
      have hcx : wr.cell? ⟨b, off + k, none⟩ = some (.string (S k)) := (hbel.cell (p := ⟨b, off + k, none⟩) hl).trans (hc k hlt)
      have hcy := hrow.cell hlt
      have hfy := hrow.frozen k
      have R1 : (wr.setCell ⟨w.heap.size, k, none⟩ (.string (S k))).rowIs w.heap.size 9 n (fun i => if i < k + 1 then .string (S i) else .string ByteArray.empty) :=
        (hrow.set k (.string (S k))).congr (fun j hj => by
          by_cases e : j = k
          · subst e; simp
          · rw [if_neg e]; by_cases e1 : j < k
            · rw [if_pos e1, if_pos (by omega)]
            · rw [if_neg e1, if_neg (by omega)])
      have R2 : Below w.heap.size w (wr.setCell ⟨w.heap.size, k, none⟩ (.string (S k))) := hbel.setCell (Nat.le_refl _) _
      clear hrow hc
      go_wp2
      go_roundw
      case rel => exact ⟨k + 1, by omega, by go_num, R1, R2⟩
      case measure => simp [intOf]; omega
    · have : k = n := by omega
      subst this
      have R1 : wr.rowIs w.heap.size 9 k (fun i => .string (S i)) := hrow.congr (fun j hj => by simp [hj])
      clear hrow
      go_wp2
      go_ret
      exact .inr ⟨by simp, rfl, R1, hbel⟩

theorem cloneInts_nil (w : World) (f : Nat → Value) (t : TypeId) : Calls Try.prog 13 #[.slice none 0 0] w (Cloned w none 0 f t) := by
  have q23 : ∀ (w : World) (a : Option Addr) (n c n' c' : Nat), (binOp .eql 23 (.slice a n c) (.slice none n' c')).run Try.prog w = .ok (.bool a.isNone) w := fun w a n c n' c' => Lib.run_eql_slice_nil w _ _ a n c n' c' Try.underlying23
  go_enter Try.func13, Try.ntmps13
  go_wp2
  go_ret
  exact .inl ⟨rfl, rfl, rfl⟩

theorem cloneInts_some (x : Addr) (n c : Nat) (S : Nat → Int) (w : World) (hn : n ≤ 1048576) (h : Ints w (some x) n S) :
    Calls Try.prog 13 #[.slice (some x) n c] w (Cloned w (some x) n (fun i => .int .i64 (S i)) 3) := by
  have hmk := run_make_row' (P := Try.prog) 23 3 _ _ Try.underlying23 Try.info3 rfl .i64 .i64 n (by omega) (by omega)
  have q23 : ∀ (w : World) (a : Option Addr) (n c n' c' : Nat), (binOp .eql 23 (.slice a n c) (.slice none n' c')).run Try.prog w = .ok (.bool a.isNone) w := fun w a n c n' c' => Lib.run_eql_slice_nil w _ _ a n c n' c' Try.underlying23
  go_enter Try.func13, Try.ntmps13
  go_wp2
  go_loopw [4] (fun i wr => ∃ k : Nat, k ≤ n ∧ i = .int .i64 k ∧ wr.rowIs w.heap.size 3 n (fun i => if i < k then (.int .i64 (S i)) else .int .i64 0) ∧ Below w.heap.size w wr)
    (fun i _ => n - (intOf i).toNat)
  case atStart => exact ⟨0, Nat.zero_le _, rfl, by simpa using World.rowIs_made w (.int .i64 0) n 3, (Below.refl _ _).alloc (Nat.le_refl _) _⟩
  case round =>
    obtain ⟨k, hk, rfl, hrow, hbel⟩ := hrel
    by_cases hlt : k < n
    · rcases h with rfl | ⟨b, off, hx, hl, hc⟩
      · omega
      obtain rfl : x = ⟨b, off, none⟩ := Option.some.inj hx
      clear hx
      have hcx : wr.cell? ⟨b, off + k, none⟩ = some (.int .i64 (S k)) := (hbel.cell (p := ⟨b, off + k, none⟩) hl).trans (hc k hlt)
      have hcy := hrow.cell hlt
      have hfy := hrow.frozen k
      have R1 : (wr.setCell ⟨w.heap.size, k, none⟩ (.int .i64 (S k))).rowIs w.heap.size 3 n (fun i => if i < k + 1 then (.int .i64 (S i)) else .int .i64 0) :=
        (hrow.set k (.int .i64 (S k))).congr (fun j hj => by
          by_cases e : j = k
          · subst e; simp
          · rw [if_neg e]; by_cases e1 : j < k
            · rw [if_pos e1, if_pos (by omega)]
            · rw [if_neg e1, if_neg (by omega)])
      have R2 : Below w.heap.size w (wr.setCell ⟨w.heap.size, k, none⟩ (.int .i64 (S k))) := hbel.setCell (Nat.le_refl _) _
      clear hrow hc
      go_wp2
      go_roundw
      case rel => exact ⟨k + 1, by omega, by go_num, R1, R2⟩
      case measure => simp [intOf]; omega
    · have : k = n := by omega
      subst this
      have R1 : wr.rowIs w.heap.size 3 k (fun i => (.int .i64 (S i))) := hrow.congr (fun j hj => by simp [hj])
      clear hrow
      go_wp2
      go_ret
      exact .inr ⟨by simp, rfl, R1, hbel⟩

end Go.Proofs.Qxb6600897a.W
