import Derived.Test.Qxb6602557aW5
import Derived.Laws.BitsAllLaws
namespace Go.Proofs.Qxb6602557a.W
open Go.RowKit
set_option linter.unusedVariables false

def used (e : Ent) : Bool := refF e.mid e.lo != 0
def home (b : Nat) (e : Ent) : Nat := homeN b (topF e.hi e.mid)

/-- What grow leaves. -/
def Grew (w : World) (R b0 n k : Nat) (es : List Ent) (e : Ending) (w' : World) : Prop :=
  ∃ b v, e = .returned (.tuple #[]) ∧ P.Least b0 (4 * (n + k)) b ∧ Refs w' R (b : Int) (n : Int) v (P.grown used home zeroEnt b0 b es) ∧ Below R w w'

theorem Refs.shape {w : World} {R : Nat} {bits n : Int} {v : Value} {es : List Ent} (h : Refs w R bits n v es) : ∃ av cap, v = .slice av es.length cap ∧ (es.length = 0 ∨ ∃ g, av = some ⟨g, 0, none⟩) := by
  rcases h.own.2 with ⟨hv, h0⟩ | ⟨g, cap, cur, hv, _⟩
  · exact ⟨none, 0, by rw [h0]; exact hv, .inl h0⟩
  · exact ⟨_, cap, hv, .inr ⟨g, rfl⟩⟩

/-- The new table while the old one's entries go over: its struct at R, its row among the blocks that are new since wq, all else as it was in wq. -/
structure Mid (wq : World) (R : Nat) (b n : Int) (v : Value) (out : List Ent) (wr : World) : Prop where
  st : wr.heap[R]? = some (.cells #[.int .i64 b, v, .int .i64 n] 71 (0, 0))
  own : wr.ownsRow wq.heap.size 77 4 v out.length (flat out)
  grow : wq.grownBy wr (some R)
  old : R < wq.heap.size

theorem grownBy_trans {a b c : World} {r : Option Nat} (h : a.grownBy b r) (k : b.grownBy c r) : a.grownBy c r :=
  ⟨k.os.trans h.os, k.tape.trans h.tape, k.output.trans h.output, Nat.le_trans h.size k.size, fun i hi hr => (k.block i (Nat.lt_of_lt_of_le hi h.size) hr).trans (h.block i hi hr)⟩
theorem grownBy_of_below {a b : World} (h : Below a.heap.size a b) (r : Option Nat) : a.grownBy b r :=
  ⟨h.os, h.tape, h.output, h.size, fun i hi _ => h.block i hi⟩

theorem ownsRow_below {w w' : World} {base n : Nat} {v : Value} {xs : List Value} (h : w.ownsRow base 77 4 v n xs) (hb : Below w.heap.size w w') : w'.ownsRow base 77 4 v n xs := by
  refine ⟨h.1, ?_⟩
  rcases h.2 with h' | ⟨g, cap, cur, hv, hg, hh, r⟩
  · exact .inl h'
  · exact .inr ⟨g, cap, cur, hv, hg, (hb.block g (Array.getElem?_eq_some_iff.1 hh).1).trans hh, r⟩

theorem Mid.lt {wq : World} {R : Nat} {b n : Int} {v : Value} {out : List Ent} {wr : World} (h : Mid wq R b n v out wr) : R < wr.heap.size := (Array.getElem?_eq_some_iff.1 h.st).1
theorem Mid.below {wq : World} {R : Nat} {b n : Int} {v : Value} {out : List Ent} {wr w' : World} (h : Mid wq R b n v out wr) (hb : Below wr.heap.size wr w') : Mid wq R b n v out w' :=
  ⟨(hb.block R h.lt).trans h.st, ownsRow_below h.own hb, grownBy_trans h.grow (grownBy_of_below hb _), h.old⟩
theorem Mid.cell0 {wq : World} {R : Nat} {b n : Int} {v : Value} {out : List Ent} {wr : World} (h : Mid wq R b n v out wr) : wr.cell? ⟨R, 0, none⟩ = some (.int .i64 b) := by simp [World.cell?, h.st]
theorem Mid.cell1 {wq : World} {R : Nat} {b n : Int} {v : Value} {out : List Ent} {wr : World} (h : Mid wq R b n v out wr) : wr.cell? ⟨R, 1, none⟩ = some v := by simp [World.cell?, h.st]
theorem Mid.frozen {wq : World} {R : Nat} {b n : Int} {v : Value} {out : List Ent} {wr : World} (h : Mid wq R b n v out wr) (j : Nat) : wr.frozen? ⟨R, j, none⟩ = false := by simp [World.frozen?, h.st]
theorem Mid.shape {wq : World} {R : Nat} {b n : Int} {v : Value} {out : List Ent} {wr : World} (h : Mid wq R b n v out wr) (h0 : 0 < out.length) : ∃ g cap, v = .slice (some ⟨g, 0, none⟩) out.length cap ∧ wq.heap.size ≤ g ∧ g < wr.heap.size := by
  rcases h.own.2 with ⟨_, h'⟩ | ⟨g, cap, cur, hv, hg, hh, _⟩
  · omega
  · exact ⟨g, cap, hv, hg, (Array.getElem?_eq_some_iff.1 hh).1⟩
theorem Mid.anyCells {wq : World} {R g cap : Nat} {b n : Int} {out : List Ent} {wr : World} (h : Mid wq R b n (.slice (some ⟨g, 0, none⟩) out.length cap) out wr) (i : Nat) (hi : i < out.length) :
    ∃ z0 z1 z2 z3 : Int, wr.cell? ⟨g, i * 4, none⟩ = some (.int .u32 z0) ∧ wr.cell? ⟨g, i * 4 + 1, none⟩ = some (.int .u32 z1) ∧ wr.cell? ⟨g, i * 4 + 2, none⟩ = some (.int .u32 z2) ∧ wr.cell? ⟨g, i * 4 + 3, none⟩ = some (.int .u32 z3) := by
  have h0 := flat_get out i 0 (by omega)
  have h1 := flat_get out i 1 (by omega)
  have h2 := flat_get out i 2 (by omega)
  have h3 := flat_get out i 3 (by omega)
  rw [Nat.add_zero] at h0
  refine ⟨(out[i]).hi, (out[i]).mid, (out[i]).lo, (out[i]).set, ?_⟩
  rw [h.own.cellAt _ (by omega), h.own.cellAt _ (by omega), h.own.cellAt _ (by omega), h.own.cellAt _ (by omega), h0, h1, h2, h3, List.getElem?_eq_getElem hi]
  simp [Ent.cells]
theorem Mid.frozenRow {wq : World} {R g cap : Nat} {b n : Int} {out : List Ent} {wr : World} (h : Mid wq R b n (.slice (some ⟨g, 0, none⟩) out.length cap) out wr) (j : Nat) : wr.frozen? ⟨g, j, none⟩ = false := h.own.frozenAt j
theorem grownBy_put4 {a w : World} {R g : Nat} (h : a.grownBy w (some R)) (hg : a.heap.size ≤ g) (i : Nat) (e : Ent) : a.grownBy (put4 w g i e) (some R) :=
  ⟨h.os, h.tape, h.output, by rw [put4_size]; exact h.size, fun k hk hr => by rw [put4_block _ _ _ _ _ (by omega)]; exact h.block k hk hr⟩
theorem Mid.put {wq : World} {R g cap : Nat} {b n : Int} {out : List Ent} {wr : World} (h : Mid wq R b n (.slice (some ⟨g, 0, none⟩) out.length cap) out wr) (hg : wq.heap.size ≤ g) (i : Nat) (e : Ent) :
    Mid wq R b n (.slice (some ⟨g, 0, none⟩) out.length cap) (out.set i e) (put4 wr g i e) := by
  have := h.old
  refine ⟨?_, ?_, grownBy_put4 h.grow hg i e, h.old⟩
  · rw [put4_block _ _ _ _ _ (by omega)]; exact h.st
  · rw [List.length_set]; exact put4_own h.own i e
theorem Mid.drew {wq : World} {R : Nat} {b n : Int} {v : Value} {out : List Ent} {wr : World} (h : Mid wq R b n v out wr) : Mid wq R b n v out wr.drew := ⟨h.st, h.own, ⟨h.grow.os, h.grow.tape, h.grow.output, h.grow.size, h.grow.block⟩, h.old⟩
/-- Just made. -/
theorem Mid.start {wq : World} {R b0 N : Nat} {b n : Int} {v : Value} {es : List Ent} (h : Refs wq R (b0 : Int) n v es) (hN : N ≤ 1048576) :
    Mid wq R b n (.slice (some ⟨wq.heap.size, 0, none⟩) N N) (List.replicate N zeroEnt)
      (((wq.setCell ⟨R, 0, none⟩ (.int .i64 b)).setCell ⟨R, 1, none⟩ (.slice (some ⟨wq.heap.size, 0, none⟩) N N)).alloc (.cells (madeCells #[.int .u32 0, .int .u32 0, .int .u32 0, .int .u32 0] (N * 4)) 77)).drew := by
  have hlt := h.lt
  have hs : ((wq.setCell ⟨R, 0, none⟩ (.int .i64 b)).setCell ⟨R, 1, none⟩ (.slice (some ⟨wq.heap.size, 0, none⟩) N N)).heap.size = wq.heap.size := by simp [World.setCell]
  refine Mid.drew ⟨?_, ⟨?_, .inr ⟨wq.heap.size, N, madeCells #[.int .u32 0, .int .u32 0, .int .u32 0, .int .u32 0] (N * 4), ?_, Nat.le_refl _, ?_, ?_, ?_, ?_, ?_⟩⟩, ⟨rfl, rfl, rfl, ?_, ?_⟩, hlt⟩
  · rw [Below.heap_alloc _ _ _ (by rw [hs]; exact hlt)]
    simp [World.setCell, Array.getElem?_modify, h.st]
  · rw [flat_length]
  · rw [List.length_replicate]
  · have := Deep.blk_alloc_new ((wq.setCell ⟨R, 0, none⟩ (.int .i64 b)).setCell ⟨R, 1, none⟩ (.slice (some ⟨wq.heap.size, 0, none⟩) N N)) (.cells (madeCells #[.int .u32 0, .int .u32 0, .int .u32 0, .int .u32 0] (N * 4)) 77)
    rw [hs] at this
    exact this
  · simp
  · unfold maxLen; omega
  · simp [madeCells]
  · rw [made4, List.take_of_length_le]
    rw [flat_length]
    exact Nat.le_refl _
  · rw [Deep.nblk_alloc, hs]; omega
  · intro k hk hr
    have hkR : k ≠ R := fun e => hr (by rw [e])
    rw [Below.heap_alloc _ _ _ (by rw [hs]; exact hk), Below.heap_setCell _ _ _ _ hkR, Below.heap_setCell _ _ _ _ hkR]
/-- At the end. -/
theorem Mid.done {w wq : World} {R : Nat} {b n : Int} {v : Value} {out : List Ent} {wr : World} (h : Mid wq R b n v out wr) (hb : Below w.heap.size w wq) (hR : R < w.heap.size) : Refs wr R b n v out ∧ Below R w wr := by
  have := h.old
  refine ⟨⟨h.st, h.own.1, ?_⟩, ?_⟩
  · rcases h.own.2 with h' | ⟨g, cap, cur, hv, hg, r⟩
    · exact .inl h'
    · exact .inr ⟨g, cap, cur, hv, by omega, r⟩
  · exact (hb.mono (by omega)).trans ⟨h.grow.os, h.grow.tape, h.grow.output, h.grow.size, fun k hk => h.grow.block k (by omega) (fun e => by simp at e; omega)⟩

theorem shl3 {b : Nat} (hb : b ≤ 61) : wrap64 (3 * 2 ^ b) = ((3 * 2 ^ b : Nat) : Int) := by
  have h := P.pow_mono hb
  have e : ((3 * 2 ^ b : Nat) : Int) = 3 * 2 ^ b := by simp
  rw [← e]
  exact IntWalk.wrap64_in _ ⟨by omega, by omega⟩
theorem shl1 {b : Nat} (hb : b ≤ 61) : wrap64 (2 ^ b) = ((2 ^ b : Nat) : Int) := by
  have h := P.pow_mono hb
  have e : ((2 ^ b : Nat) : Int) = 2 ^ b := by simp
  rw [← e]
  generalize 2 ^ b = N at h
  exact IntWalk.wrap64_in _ ⟨by omega, by omega⟩

/-- How far the old entries have gone over. -/
def At (b N : Nat) (es : List Ent) (j : Nat) : List Ent × Nat := (es.take j).foldl (P.step used (home b)) (List.replicate N zeroEnt, 0)
theorem At_zero (b N : Nat) (es : List Ent) : At b N es 0 = (List.replicate N zeroEnt, 0) := rfl
theorem At_succ (b N : Nat) (es : List Ent) (j : Nat) (hj : j < es.length) : At b N es (j + 1) = P.step used (home b) (At b N es j) (entAt es j) := by
  unfold At
  have e : entAt es j = es[j] := by simp [entAt, List.getD, hj]
  rw [List.take_succ_eq_append_getElem hj, List.foldl_append, List.foldl_cons, List.foldl_nil, e]
theorem refF_zero : refF 0 0 = 0 := by
  have h1 : bits BinOp.and IntKind.u32 0 255 = 0 := u32_and 0 255 (by omega) (by omega) (by omega) (by omega)
  have h2 : IntKind.u64.wrap 0 = 0 := by simp [IntKind.wrap, IntKind.signed]
  have h3 : bits BinOp.or IntKind.u64 0 0 = 0 := u64_or 0 0 (by omega) (by omega) (by omega) (by omega)
  unfold refF
  rw [h1, h2, Int.zero_mul, h2]
  exact h3
theorem zero_unused : used zeroEnt = false := by
  unfold used zeroEnt
  rw [refF_zero]
  rfl
theorem home_lt (c : Nat) (e : Ent) (hc : c ≤ 61) : home c e < 2 ^ c := homeN_lt (topF_range _ _).1 (topF_range _ _).2 (by omega)
theorem At_inv (b : Nat) (hb : b ≤ 61) (es : List Ent) (j : Nat) : P.Inv used (2 ^ b) (es.take j) (At b (2 ^ b) es j) := by
  have h := P.lay_ok used (home b) zero_unused (2 ^ b) (fun e => home_lt b e hb) (es.take j)
  exact h
theorem alloc4 (w : World) (a b c d : Value) : (w.alloc (.cells #[a, b, c, d] 77)).cell? ⟨w.heap.size, 0, none⟩ = some a ∧ (w.alloc (.cells #[a, b, c, d] 77)).cell? ⟨w.heap.size, 1, none⟩ = some b ∧
    (w.alloc (.cells #[a, b, c, d] 77)).cell? ⟨w.heap.size, 2, none⟩ = some c ∧ (w.alloc (.cells #[a, b, c, d] 77)).cell? ⟨w.heap.size, 3, none⟩ = some d := by
  unfold World.cell?
  rw [Deep.blk_alloc_new]
  exact ⟨rfl, rfl, rfl, rfl⟩

theorem step_unused {b : Nat} {st : List Ent × Nat} {en : Ent} (h : refF en.mid en.lo = 0) : P.step used (home b) st en = st := by
  have hu : used en = false := by simp [used, h]
  unfold P.step
  rw [hu]
  simp
theorem step_set {b : Nat} {out : List Ent} {nx a : Nat} {en : Ent} (h : ¬ refF en.mid en.lo = 0) (ha : max (homeN b (topF en.hi en.mid)) nx = a) (hl : a < out.length) : P.step used (home b) (out, nx) en = (out.set a en, a + 1) := by
  have hu : used en = true := by simp [used, h]
  unfold P.step home
  rw [hu]
  simp only [if_true, ha]
  rw [if_neg (by omega)]
theorem step_add {b : Nat} {out : List Ent} {nx a : Nat} {en : Ent} (h : ¬ refF en.mid en.lo = 0) (ha : max (homeN b (topF en.hi en.mid)) nx = a) (hl : a = out.length) : P.step used (home b) (out, nx) en = ((out ++ [zeroEnt]).set a en, a + 1) := by
  have hu : used en = true := by simp [used, h]
  unfold P.step home
  rw [hu]
  simp only [if_true, ha]
  rw [if_pos hl, hl, List.set_append_right _ _ (Nat.le_refl _)]
  simp
/-- A free entry is appended and the slice stored back. -/
theorem Mid.appended {wq w2 w3 : World} {R g cap : Nat} {b n : Int} {out : List Ent} (h : Mid wq R b n (.slice (some ⟨g, 0, none⟩) out.length cap) out w2) (hg : wq.heap.size ≤ g) {v' : Value} {o : Obj}
    (hown : w3.ownsRow wq.heap.size 77 4 v' (out.length + 1) (flat out ++ [.int .u32 0, .int .u32 0, .int .u32 0, .int .u32 0])) (hgrow : (w2.alloc o).grownBy w3 (some g)) :
    Mid wq R b n v' (out ++ [zeroEnt]) (w3.setCell ⟨R, 1, none⟩ v') := by
  have ho := h.old
  have hlt := h.lt
  have hR : w3.heap[R]? = some (.cells #[.int .i64 b, .slice (some ⟨g, 0, none⟩) out.length cap, .int .i64 n] 71 (0, 0)) :=
    (hgrow.block R (by rw [Deep.nblk_alloc]; omega) (fun e => by simp at e; omega)).trans ((Below.heap_alloc _ _ _ hlt).trans h.st)
  refine ⟨?_, ?_, ?_, ho⟩
  · simp [World.setCell, Array.getElem?_modify, hR]
  · have e1 : (out ++ [zeroEnt]).length = out.length + 1 := by simp
    have e2 : flat (out ++ [zeroEnt]) = flat out ++ [.int .u32 0, .int .u32 0, .int .u32 0, .int .u32 0] := by rw [flat_append]; rfl
    rw [e1, e2]
    exact ownsRow_setCell_below hown ho _
  · refine ⟨hgrow.os.trans h.grow.os, hgrow.tape.trans h.grow.tape, hgrow.output.trans h.grow.output, ?_, ?_⟩
    · have := hgrow.size
      have := h.grow.size
      rw [Deep.nblk_alloc] at *
      simp only [World.setCell, Array.size_modify]
      omega
    · intro k hk hr
      have h1 := h.grow.size
      rw [Below.heap_setCell _ _ _ _ (fun e => hr (by rw [e])), hgrow.block k (by rw [Deep.nblk_alloc]; omega) (fun e => by simp at e; omega), Below.heap_alloc _ _ _ (by omega)]
      exact h.grow.block k hk hr
theorem row_shape {w : World} {base n : Nat} {v : Value} {xs : List Value} (h : w.ownsRow base 77 4 v (n + 1) xs) : ∃ g cap, v = .slice (some ⟨g, 0, none⟩) (n + 1) cap ∧ base ≤ g := by
  rcases h.2 with ⟨_, h'⟩ | ⟨g, cap, cur, hv, hg, _⟩
  · omega
  · exact ⟨g, cap, hv, hg⟩
theorem Mid.after {wq w2 w3 : World} {R g cap : Nat} {b n : Int} {out : List Ent} (h : Mid wq R b n (.slice (some ⟨g, 0, none⟩) out.length cap) out w2) (hg : wq.heap.size ≤ g) {o : Obj} (hgrow : (w2.alloc o).grownBy w3 (some g)) :
    w3.cell? ⟨R, 1, none⟩ = some (.slice (some ⟨g, 0, none⟩) out.length cap) ∧ w3.frozen? ⟨R, 1, none⟩ = false ∧ R < w3.heap.size := by
  have ho := h.old
  have hlt := h.lt
  have hR : w3.heap[R]? = some (.cells #[.int .i64 b, .slice (some ⟨g, 0, none⟩) out.length cap, .int .i64 n] 71 (0, 0)) :=
    (hgrow.block R (by rw [Deep.nblk_alloc]; omega) (fun e => by simp at e; omega)).trans ((Below.heap_alloc _ _ _ hlt).trans h.st)
  exact ⟨by simp [World.cell?, hR], by simp [World.frozen?, hR], (Array.getElem?_eq_some_iff.1 hR).1⟩
theorem hide' {p : Prop} (h : p) : Hid p := h
theorem grown_at {b0 b N nx : Nat} {es out : List Ent} (hb : ¬ b = b0) (hN : N = 2 ^ b) (h : At b N es es.length = (out, nx)) : P.grown used home zeroEnt b0 b es = out := by
  unfold P.grown
  rw [if_neg hb]
  unfold At at h
  rw [List.take_length, hN] at h
  unfold P.lay
  rw [h]
theorem grown_length {b0 b n k : Nat} (hl : P.Least b0 (4 * (n + k)) b) (hnk : n + k ≤ 65536) (es : List Ent) : (P.grown used home zeroEnt b0 b es).length ≤ 131072 + es.length := by
  unfold P.grown
  by_cases hb : b = b0
  · rw [if_pos hb]; omega
  · rw [if_neg hb]
    have hb17 : b ≤ 17 := by
      have := hl.1
      rcases hl.bound (by omega) with h | h
      · omega
      · exact h
    have hi := P.lay_ok used (home b) zero_unused (2 ^ b) (fun e => home_lt b e (by omega)) es
    have h1 := hi.most
    have h2 := P.pow_mono hb17
    omega
theorem zero_cells (w : World) : ∀ (j : Nat) (u : Value), ([.int .u32 0, .int .u32 0, .int .u32 0, .int .u32 0] : List Value)[j]? = some u →
    (w.alloc (.cells #[.int .u32 0, .int .u32 0, .int .u32 0, .int .u32 0] 77)).cell? ((⟨w.heap.size, 0, none⟩ : Addr).add j) = some u := by
  intro j u hu
  match j, hu with
  | 0, hu => simp at hu; subst hu; simp [Addr.add]
  | 1, hu => simp at hu; subst hu; simp [Addr.add]
  | 2, hu => simp at hu; subst hu; simp [Addr.add]
  | 3, hu => simp at hu; subst hu; simp [Addr.add]
  | n + 4, hu => simp at hu
theorem zero_one : ∀ u ∈ ([.int .u32 0, .int .u32 0, .int .u32 0, .int .u32 0] : List Value), u.oneCell' = true := by
  intro u hu
  simp at hu
  subst hu
  rfl
/-- The cells of the round's own entry stay behind that append. -/
theorem keep_cell {w2 w3 : World} {g E R j : Nat} {v v' : Value} {o : Obj} (hgrow : (w2.alloc o).grownBy w3 (some g)) (hEg : E ≠ g) (hER : E ≠ R) (hE : E < w2.heap.size) (h : w2.cell? ⟨E, j, none⟩ = some v) : (w3.setCell ⟨R, 1, none⟩ v').cell? ⟨E, j, none⟩ = some v := by
  have h1 : (w2.alloc o).cell? ⟨E, j, none⟩ = some v := by
    rw [← h]
    exact World.cell?_of_block (w := w2) (Below.heap_alloc _ _ _ hE)
  have h2 := hgrow.cell h1 (by intro e; simp at e; omega)
  rw [← h2]
  exact World.cell?_of_block (w := w3) (Below.heap_setCell _ _ _ _ hER)

end Go.Proofs.Qxb6602557a.W
