import Derived.Test.Qxb6602557aW1
import Derived.Test.Qxb6602557aP
namespace Go.Proofs.Qxb6602557a.W
open Go.RowKit
set_option linter.unusedVariables false

/-- A slice of n uint32 as the walks see it. -/
def U32s (w : World) (a : Option Addr) (n : Nat) (Z : Nat → Int) : Prop :=
  n = 0 ∨ ∃ b off, a = some ⟨b, off, none⟩ ∧ b < w.heap.size ∧ ∀ i, i < n → w.cell? ⟨b, off + i, none⟩ = some (.int .u32 (Z i))
theorem U32s.below {w w' : World} {a : Option Addr} {n : Nat} {S : Nat → Int} (h : U32s w a n S) (hb : Below w.heap.size w w') : U32s w' a n S := by
  rcases h with h | ⟨b, off, ha, hl, hc⟩
  · exact .inl h
  · exact .inr ⟨b, off, ha, Nat.lt_of_lt_of_le hl hb.size, fun i hi => (hb.cell (p := ⟨b, off + i, none⟩) hl).trans (hc i hi)⟩

structure Ent where
  hi : Int
  mid : Int
  lo : Int
  set : Int
def Ent.cells (e : Ent) : List Value := [.int .u32 e.hi, .int .u32 e.mid, .int .u32 e.lo, .int .u32 e.set]
def flat : List Ent → List Value
  | [] => []
  | e :: es => e.cells ++ flat es
def zeroEnt : Ent := ⟨0, 0, 0, 0⟩

theorem flat_length : ∀ es : List Ent, (flat es).length = es.length * 4
  | [] => rfl
  | e :: es => by simp [flat, Ent.cells, flat_length es]; omega
theorem flat_append : ∀ es fs : List Ent, flat (es ++ fs) = flat es ++ flat fs
  | [], _ => rfl
  | e :: es, fs => by simp [flat, flat_append es fs]
theorem flat_get : ∀ (es : List Ent) (i j : Nat) (hj : j < 4), (flat es)[i * 4 + j]? = (es[i]?).map (fun e => e.cells.getD j undef)
  | [], i, j, hj => by simp [flat]
  | e :: es, 0, j, hj => by
    have : j = 0 ∨ j = 1 ∨ j = 2 ∨ j = 3 := by omega
    rcases this with rfl | rfl | rfl | rfl <;> simp [flat, Ent.cells]
  | e :: es, i + 1, j, hj => by
    have h := flat_get es i j hj
    have e1 : (i + 1) * 4 + j = (i * 4 + j) + 4 := by omega
    rw [e1]
    show (flat es)[i * 4 + j]? = _
    rw [h]
    simp
theorem flat_set : ∀ (es : List Ent) (i : Nat) (e : Ent), flat (es.set i e) = ((((flat es).set (i * 4) (.int .u32 e.hi)).set (i * 4 + 1) (.int .u32 e.mid)).set (i * 4 + 2) (.int .u32 e.lo)).set (i * 4 + 3) (.int .u32 e.set)
  | [], i, e => by simp [flat]
  | e0 :: es, 0, e => by simp [flat, Ent.cells]
  | e0 :: es, i + 1, e => by
    have h := flat_set es i e
    show e0.cells ++ flat (es.set i e) = _
    rw [h]
    have q0 : (i + 1) * 4 = i * 4 + 1 + 1 + 1 + 1 := by omega
    rw [q0]
    simp only [flat, Ent.cells, List.cons_append, List.nil_append]
    have q1 : i * 4 + 1 + 1 + 1 + 1 + 1 = (i * 4 + 1) + 1 + 1 + 1 + 1 := by omega
    have q2 : i * 4 + 1 + 1 + 1 + 1 + 2 = (i * 4 + 2) + 1 + 1 + 1 + 1 := by omega
    have q3 : i * 4 + 1 + 1 + 1 + 1 + 3 = (i * 4 + 3) + 1 + 1 + 1 + 1 := by omega
    simp only [q1, q2, q3, List.set_cons_succ]
theorem flat_zero (n : Nat) : flat (List.replicate n zeroEnt) = List.replicate (n * 4) (.int .u32 0) := by
  induction n with
  | zero => rfl
  | succ n ih =>
    rw [List.replicate_succ]
    show zeroEnt.cells ++ flat (List.replicate n zeroEnt) = _
    rw [ih, show (n + 1) * 4 = n * 4 + 1 + 1 + 1 + 1 by omega]
    simp [List.replicate_succ, Ent.cells, zeroEnt]
theorem made4 (n : Nat) : (madeCells #[.int .u32 0, .int .u32 0, .int .u32 0, .int .u32 0] (n * 4)).toList = flat (List.replicate n zeroEnt) := by
  rw [flat_zero]
  apply List.ext_getElem
  · simp [madeCells]
  · intro i h1 h2
    have h3 : i % 4 = 0 ∨ i % 4 = 1 ∨ i % 4 = 2 ∨ i % 4 = 3 := by omega
    simp [madeCells]
    rcases h3 with h | h | h | h <;> simp [h]

theorem Try.info77 : (Try.prog.info? 77).map (fun i => (i.zero, i.size, i.bytes)) = some (some (.agg #[.int .u32 0, .int .u32 0, .int .u32 0, .int .u32 0]), 4, 16) := by kernel_rfl
theorem Try.info24 : (Try.prog.info? 24).map (fun i => (i.zero, i.size, i.bytes)) = some (some (.int .u32 0), 1, 4) := by kernel_rfl

/-- 'make([]memberRef, n)' in whatever world. -/
theorem make77 (n : Nat) (hn : n ≤ 1048576) (w : World) : (Instr.makeSlice 69 (.int .i64 (n : Int)) (.int .i64 (n : Int))).run Try.prog w =
    .ok (.slice (some ⟨w.heap.size, 0, none⟩) n n) (w.alloc (.cells (madeCells #[.int .u32 0, .int .u32 0, .int .u32 0, .int .u32 0] (n * 4)) 77)) := by
  obtain ⟨i, hi, hz, hs, hb⟩ := info_parts Try.info77
  have hr := run_make (P := Try.prog) w 69 77 i _ Try.underlying69 hi hz .i64 .i64 n n (by omega) (Int.le_refl _) (by rw [hb]; omega) (by omega)
  simp only [Int.toNat_natCast, hs] at hr
  exact hr

/-- A table of references at block R: its struct, and the entries that it owns. -/
structure Refs (w : World) (R : Nat) (bits n : Int) (v : Value) (es : List Ent) : Prop where
  st : w.heap[R]? = some (.cells #[.int .i64 bits, v, .int .i64 n] 71 (0, 0))
  own : w.ownsRow (R + 1) 77 4 v es.length (flat es)

def put4 (w : World) (g i : Nat) (e : Ent) : World :=
  (((w.setCell ⟨g, i * 4, none⟩ (.int .u32 e.hi)).setCell ⟨g, i * 4 + 1, none⟩ (.int .u32 e.mid)).setCell ⟨g, i * 4 + 2, none⟩ (.int .u32 e.lo)).setCell ⟨g, i * 4 + 3, none⟩ (.int .u32 e.set)

theorem put4_block (w : World) (g i : Nat) (e : Ent) (k : Nat) (hk : k ≠ g) : (put4 w g i e).heap[k]? = w.heap[k]? := by
  unfold put4
  rw [Below.heap_setCell _ _ _ _ hk, Below.heap_setCell _ _ _ _ hk, Below.heap_setCell _ _ _ _ hk, Below.heap_setCell _ _ _ _ hk]
theorem put4_size (w : World) (g i : Nat) (e : Ent) : (put4 w g i e).heap.size = w.heap.size := by
  simp [put4, World.setCell]
theorem put4_below {B : Nat} {w0 w : World} (h : Below B w0 w) {g : Nat} (hg : B ≤ g) (i : Nat) (e : Ent) : Below B w0 (put4 w g i e) :=
  (((h.setCell hg _).setCell hg _).setCell hg _).setCell hg _
theorem put4_own {w : World} {base n g cap : Nat} {es : List Ent} (h : w.ownsRow base 77 4 (.slice (some ⟨g, 0, none⟩) n cap) n (flat es)) (i : Nat) (e : Ent) :
    (put4 w g i e).ownsRow base 77 4 (.slice (some ⟨g, 0, none⟩) n cap) n (flat (es.set i e)) := by
  rw [flat_set]
  exact ((((h.stored _ _).1.stored _ _).1.stored _ _).1.stored _ _).1

theorem Refs.lt {w : World} {R : Nat} {bits n : Int} {v : Value} {es : List Ent} (h : Refs w R bits n v es) : R < w.heap.size := (Array.getElem?_eq_some_iff.1 h.st).1
theorem Refs.cell0 {w : World} {R : Nat} {bits n : Int} {v : Value} {es : List Ent} (h : Refs w R bits n v es) : w.cell? ⟨R, 0, none⟩ = some (.int .i64 bits) := by simp [World.cell?, h.st]
theorem Refs.cell1 {w : World} {R : Nat} {bits n : Int} {v : Value} {es : List Ent} (h : Refs w R bits n v es) : w.cell? ⟨R, 1, none⟩ = some v := by simp [World.cell?, h.st]
theorem Refs.cell2 {w : World} {R : Nat} {bits n : Int} {v : Value} {es : List Ent} (h : Refs w R bits n v es) : w.cell? ⟨R, 2, none⟩ = some (.int .i64 n) := by simp [World.cell?, h.st]
theorem Refs.frozen {w : World} {R : Nat} {bits n : Int} {v : Value} {es : List Ent} (h : Refs w R bits n v es) (j : Nat) : w.frozen? ⟨R, j, none⟩ = false := by simp [World.frozen?, h.st]
theorem Refs.row {w : World} {R g L cap : Nat} {bits n : Int} {es : List Ent} (h : Refs w R bits n (.slice (some ⟨g, 0, none⟩) L cap) es) : R < g ∧ g < w.heap.size ∧ L = es.length := by
  have h1 := h.own.lt g rfl
  refine ⟨by omega, h1.2, ?_⟩
  rcases h.own.2 with ⟨h', _⟩ | ⟨g', cap', cur, h', _⟩
  · simp at h'
  · simp only [Value.slice.injEq] at h'
    exact h'.2.1
theorem Refs.cell {w : World} {R g cap : Nat} {bits n : Int} {es : List Ent} (h : Refs w R bits n (.slice (some ⟨g, 0, none⟩) es.length cap) es) (i : Nat) (hi : i < es.length) :
    w.cell? ⟨g, i * 4, none⟩ = some (.int .u32 (es[i]).hi) ∧ w.cell? ⟨g, i * 4 + 1, none⟩ = some (.int .u32 (es[i]).mid) ∧ w.cell? ⟨g, i * 4 + 2, none⟩ = some (.int .u32 (es[i]).lo) ∧ w.cell? ⟨g, i * 4 + 3, none⟩ = some (.int .u32 (es[i]).set) := by
  have h0 := flat_get es i 0 (by omega)
  have h1 := flat_get es i 1 (by omega)
  have h2 := flat_get es i 2 (by omega)
  have h3 := flat_get es i 3 (by omega)
  rw [Nat.add_zero] at h0
  rw [h.own.cellAt _ (by omega), h.own.cellAt _ (by omega), h.own.cellAt _ (by omega), h.own.cellAt _ (by omega), h0, h1, h2, h3, List.getElem?_eq_getElem hi]
  simp [Ent.cells]
theorem Refs.frozenRow {w : World} {R g cap : Nat} {bits n : Int} {es : List Ent} (h : Refs w R bits n (.slice (some ⟨g, 0, none⟩) es.length cap) es) (j : Nat) : w.frozen? ⟨g, j, none⟩ = false := h.own.frozenAt j

/-- An entry is stored, a block is laid, an order is drawn. -/
theorem Refs.put {w : World} {R g cap : Nat} {bits n : Int} {es : List Ent} (h : Refs w R bits n (.slice (some ⟨g, 0, none⟩) es.length cap) es) (i : Nat) (e : Ent) :
    Refs (put4 w g i e) R bits n (.slice (some ⟨g, 0, none⟩) es.length cap) (es.set i e) := by
  have hr := h.row
  refine ⟨?_, ?_⟩
  · rw [put4_block _ _ _ _ _ (by omega)]; exact h.st
  · have := put4_own h.own i e
    rw [List.length_set]
    exact this
theorem Refs.alloc {w : World} {R : Nat} {bits n : Int} {v : Value} {es : List Ent} (h : Refs w R bits n v es) (o : Obj) : Refs (w.alloc o) R bits n v es :=
  ⟨by rw [Below.heap_alloc _ _ _ h.lt]; exact h.st, h.own.alloc o⟩
theorem Refs.drew {w : World} {R : Nat} {bits n : Int} {v : Value} {es : List Ent} (h : Refs w R bits n v es) : Refs w.drew R bits n v es := ⟨h.st, h.own⟩
/-- It stays what it is while what was there is kept. -/
theorem Refs.below {w w' : World} {R : Nat} {bits n : Int} {v : Value} {es : List Ent} (h : Refs w R bits n v es) (hb : Below w.heap.size w w') : Refs w' R bits n v es := by
  refine ⟨(hb.block R h.lt).trans h.st, ?_⟩
  refine ⟨h.own.1, ?_⟩
  rcases h.own.2 with h' | ⟨g, cap, cur, hv, hg, hh, r⟩
  · exact .inl h'
  · exact .inr ⟨g, cap, cur, hv, hg, (hb.block g (Array.getElem?_eq_some_iff.1 hh).1).trans hh, r⟩
/-- A table just made. -/
theorem Refs.made (w : World) (bits n : Int) (L : Nat) (hL : L ≤ 1048576) :
    Refs ((w.alloc (.cells #[.int .i64 bits, .slice (some ⟨w.heap.size + 1, 0, none⟩) L L, .int .i64 n] 71)).alloc (.cells (madeCells #[.int .u32 0, .int .u32 0, .int .u32 0, .int .u32 0] (L * 4)) 77)) w.heap.size bits n
      (.slice (some ⟨w.heap.size + 1, 0, none⟩) L L) (List.replicate L zeroEnt) := by
  refine ⟨?_, ?_, .inr ⟨w.heap.size + 1, L, madeCells #[.int .u32 0, .int .u32 0, .int .u32 0, .int .u32 0] (L * 4), ?_, Nat.le_refl _, ?_, ?_, ?_, ?_, ?_⟩⟩
  · rw [Below.heap_alloc _ _ _ (by simp)]
    exact Deep.blk_alloc_new _ _
  · rw [flat_length]
  · rw [List.length_replicate]
  · have := Deep.blk_alloc_new (w.alloc (.cells #[.int .i64 bits, .slice (some ⟨w.heap.size + 1, 0, none⟩) L L, .int .i64 n] 71)) (.cells (madeCells #[.int .u32 0, .int .u32 0, .int .u32 0, .int .u32 0] (L * 4)) 77)
    rw [Deep.nblk_alloc] at this
    exact this
  · simp
  · unfold maxLen; omega
  · simp [madeCells]
  · rw [made4, List.take_of_length_le]
    rw [flat_length]
    exact Nat.le_refl _

end Go.Proofs.Qxb6602557a.W
