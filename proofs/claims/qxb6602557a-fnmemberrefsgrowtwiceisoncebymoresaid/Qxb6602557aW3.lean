import Derived.Test.Qxb6602557aW2
namespace Go.Proofs.Qxb6602557a.W
open Go.RowKit
set_option linter.unusedVariables false

/-- The first k of n entries are there, the rest is free. -/
def entsTo (Z1 Z2 Z3 Z4 : Nat → Int) (n k : Nat) : List Ent := (List.range n).map (fun i => if i < k then ⟨Z1 i, Z2 i, Z3 i, Z4 i⟩ else zeroEnt)
theorem entsTo_length (Z1 Z2 Z3 Z4 : Nat → Int) (n k : Nat) : (entsTo Z1 Z2 Z3 Z4 n k).length = n := by simp [entsTo]
theorem entsTo_zero (Z1 Z2 Z3 Z4 : Nat → Int) (n : Nat) : entsTo Z1 Z2 Z3 Z4 n 0 = List.replicate n zeroEnt := by
  apply List.ext_getElem
  · simp [entsTo]
  · intro i h1 h2; simp [entsTo]
theorem entsTo_set (Z1 Z2 Z3 Z4 : Nat → Int) (n k : Nat) : (entsTo Z1 Z2 Z3 Z4 n k).set k ⟨Z1 k, Z2 k, Z3 k, Z4 k⟩ = entsTo Z1 Z2 Z3 Z4 n (k + 1) := by
  apply List.ext_getElem
  · simp [entsTo]
  · intro i h1 h2
    rw [List.getElem_set]
    by_cases e : k = i
    · subst e; simp [entsTo]
    · rw [if_neg e]
      simp only [entsTo, List.getElem_map, List.getElem_range]
      by_cases e1 : i < k
      · rw [if_pos e1, if_pos (by omega)]
      · rw [if_neg e1, if_neg (by omega)]

theorem Refs.anyCells {w : World} {R g cap : Nat} {bits n : Int} {es : List Ent} (h : Refs w R bits n (.slice (some ⟨g, 0, none⟩) es.length cap) es) (i : Nat) (hi : i < es.length) :
    ∃ z0 z1 z2 z3 : Int, w.cell? ⟨g, i * 4, none⟩ = some (.int .u32 z0) ∧ w.cell? ⟨g, i * 4 + 1, none⟩ = some (.int .u32 z1) ∧ w.cell? ⟨g, i * 4 + 2, none⟩ = some (.int .u32 z2) ∧ w.cell? ⟨g, i * 4 + 3, none⟩ = some (.int .u32 z3) :=
  ⟨_, _, _, _, h.cell i hi⟩

/-- What ZZNewMemberRefs leaves. -/
def New (w : World) (bits m : Int) (es : List Ent) (e : Ending) (w' : World) : Prop :=
  ∃ v, e = .returned (.pointer (some ⟨w.heap.size, 0, none⟩)) ∧ Refs w' w.heap.size bits m v es ∧ Below w.heap.size w w'

theorem Refs.ofNil (w : World) (bits n : Int) : Refs (w.alloc (.cells #[.int .i64 bits, .slice none 0 0, .int .i64 n] 71)) w.heap.size bits n (.slice none 0 0) [] :=
  ⟨Deep.blk_alloc_new _ _, by rfl, .inl ⟨rfl, rfl⟩⟩

theorem new_nil (bits : Int) (a2 : Option Addr) (c2 : Nat) (a3 : Option Addr) (c3 : Nat) (a4 : Option Addr) (c4 : Nat) (m : Int) (w : World) :
    Calls Try.prog 21 #[.int .i64 bits, .slice none 0 0, .slice a2 0 c2, .slice a3 0 c3, .slice a4 0 c4, .int .i64 m] w (New w bits m []) := by
  go_enter Try.func21, Try.ntmps21
  go_wp2
  go_ret
  exact ⟨_, rfl, Refs.ofNil _ _ _, (Below.refl _ _).alloc (Nat.le_refl _) _⟩

set_option maxRecDepth 100000 in
set_option maxHeartbeats 1000000 in
theorem new_some (bits : Int) (x : Addr) (n c : Nat) (a2 : Option Addr) (c2 : Nat) (a3 : Option Addr) (c3 : Nat) (a4 : Option Addr) (c4 : Nat) (Z1 Z2 Z3 Z4 : Nat → Int) (m : Int) (w : World) (hn : n ≤ 65536)
    (h1 : U32s w (some x) n Z1) (h2 : U32s w a2 n Z2) (h3 : U32s w a3 n Z3) (h4 : U32s w a4 n Z4) :
    Calls Try.prog 21 #[.int .i64 bits, .slice (some x) n c, .slice a2 n c2, .slice a3 n c3, .slice a4 n c4, .int .i64 m] w (New w bits m (entsTo Z1 Z2 Z3 Z4 n n)) := by
  have hmk := make77 n (by omega)
  go_enter Try.func21, Try.ntmps21
  go_wp2
  go_loopw [14] (fun i wr => ∃ k : Nat, k ≤ n ∧ i = .int .i64 k ∧ Refs wr w.heap.size bits m (.slice (some ⟨w.heap.size + 1, 0, none⟩) n n) (entsTo Z1 Z2 Z3 Z4 n k) ∧ Below w.heap.size w wr) (fun i _ => n - (intOf i).toNat)
  case atStart => exact ⟨0, Nat.zero_le _, rfl, by rw [entsTo_zero]; exact Refs.made w bits m n (by omega), ((Below.refl _ _).alloc (Nat.le_refl _) _).alloc (by simp) _⟩
  case round =>
    obtain ⟨k, hk, rfl, hrefs, hbel⟩ := hrel
    by_cases hlt : k < n
    · rcases h1 with rfl | ⟨b1, o1, hx, l1, g1⟩
      · omega
      obtain rfl : x = ⟨b1, o1, none⟩ := Option.some.inj hx
      rcases h2 with rfl | ⟨b2, o2, rfl, l2, g2⟩
      · omega
      rcases h3 with rfl | ⟨b3, o3, rfl, l3, g3⟩
      · omega
      rcases h4 with rfl | ⟨b4, o4, rfl, l4, g4⟩
      · omega
      have e1 := (hbel.cell (p := ⟨b1, o1 + k, none⟩) l1).trans (g1 k hlt)
      have e2 := (hbel.cell (p := ⟨b2, o2 + k, none⟩) l2).trans (g2 k hlt)
      have e3 := (hbel.cell (p := ⟨b3, o3 + k, none⟩) l3).trans (g3 k hlt)
      have e4 := (hbel.cell (p := ⟨b4, o4 + k, none⟩) l4).trans (g4 k hlt)
      have hr := hrefs.row
      have m1 : b1 < wr.heap.size := by omega
      have m2 : b2 < wr.heap.size := by omega
      have m3 : b3 < wr.heap.size := by omega
      have m4 : b4 < wr.heap.size := by omega
      have q0 : w.heap.size < wr.heap.size := by omega
      have q1 : w.heap.size + 1 < wr.heap.size := by omega
      have cs := hrefs.cell1
      have hL := entsTo_length Z1 Z2 Z3 Z4 n k
      have hrefs' : Refs wr w.heap.size bits m (.slice (some ⟨w.heap.size + 1, 0, none⟩) (entsTo Z1 Z2 Z3 Z4 n k).length n) (entsTo Z1 Z2 Z3 Z4 n k) := by rw [hL]; exact hrefs
      obtain ⟨z0, z1, z2, z3, c0, c1, c2, c3⟩ := hrefs'.anyCells k (by omega)
      have f0 := hrefs'.frozenRow (k * 4)
      have f1 := hrefs'.frozenRow (k * 4 + 1)
      have f2 := hrefs'.frozenRow (k * 4 + 2)
      have f3 := hrefs'.frozenRow (k * 4 + 3)
      have R := ((hrefs'.put k ⟨Z1 k, Z2 k, Z3 k, Z4 k⟩).alloc (.cells #[.int .u32 (Z1 k), .int .u32 (Z2 k), .int .u32 (Z3 k), .int .u32 (Z4 k)] 77)).drew
      rw [entsTo_set, hL] at R
      have R2 := ((put4_below hbel (Nat.le_succ _) k ⟨Z1 k, Z2 k, Z3 k, Z4 k⟩).alloc (by rw [put4_size]; omega) (.cells #[.int .u32 (Z1 k), .int .u32 (Z2 k), .int .u32 (Z3 k), .int .u32 (Z4 k)] 77)).drew
      clear hrefs hrefs' g1 g2 g3 g4 hr hL
      go_wp2
      go_region
      go_wp2
      go_roundw
      case rel => exact ⟨k + 1, by omega, by go_num, R, R2⟩
      case measure => simp [intOf]; omega
    · have : n = k := by omega
      subst this
      go_wp2
      go_ret
      exact ⟨_, rfl, hrefs, hbel⟩

end Go.Proofs.Qxb6602557a.W
