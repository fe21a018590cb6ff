import Derived.Test.Qxb6602557aW3
namespace Go.Proofs.Qxb6602557a.W
open Go.RowKit
set_option linter.unusedVariables false

/-- The entry at i (a free one beyond the end). -/
def entAt (es : List Ent) (i : Nat) : Ent := es.getD i zeroEnt

/-- What ZZMemberRefsFields leaves. -/
def Fields (w : World) (bits m : Int) (es : List Ent) (e : Ending) (w' : World) : Prop :=
  ∃ a1 a2 a3 a4, e = .returned (.tuple #[.int .i64 bits, .slice a1 es.length es.length, .slice a2 es.length es.length, .slice a3 es.length es.length, .slice a4 es.length es.length, .int .i64 m]) ∧
    U32s w' a1 es.length (fun i => (entAt es i).hi) ∧ U32s w' a2 es.length (fun i => (entAt es i).mid) ∧ U32s w' a3 es.length (fun i => (entAt es i).lo) ∧ U32s w' a4 es.length (fun i => (entAt es i).set) ∧ Below w.heap.size w w'

set_option maxRecDepth 100000 in
theorem fields_nil {w : World} {R : Nat} {bits m : Int} (h : Refs w R bits m (.slice none 0 0) []) : Calls Try.prog 23 #[.pointer (some ⟨R, 0, none⟩)] w (Fields w bits m []) := by
  have c0 := h.cell0
  have c1 := h.cell1
  have c2 := h.cell2
  clear h
  go_enter Try.func23, Try.ntmps23
  go_wp2
  go_quiet (fail)
  go_wp2
  refine bodyPost_ret (v := .tuple #[.int .i64 bits, .slice none 0 0, .slice none 0 0, .slice none 0 0, .slice none 0 0, .int .i64 m]) (by simp [results, Try.results23, go_sem]) rfl ?_
  exact ⟨none, none, none, none, rfl, .inl rfl, .inl rfl, .inl rfl, .inl rfl, below_drewN (Below.refl _ _) _⟩

/-- A row of numbers that is being filled. -/
def RowTo (w : World) (b n k : Nat) (Z : Nat → Int) : Prop := w.rowIs b 24 n (fun i => if i < k then .int .u32 (Z i) else .int .u32 0)
theorem RowTo.set {w : World} {b n k : Nat} {Z : Nat → Int} (h : RowTo w b n k Z) : RowTo (w.setCell ⟨b, k, none⟩ (.int .u32 (Z k))) b n (k + 1) Z :=
  (World.rowIs.set h k _).congr (fun j hj => by
    by_cases e : j = k
    · subst e; simp
    · rw [if_neg e]
      by_cases e1 : j < k
      · rw [if_pos e1, if_pos (by omega)]
      · rw [if_neg e1, if_neg (by omega)])
theorem RowTo.other {w : World} {b n k : Nat} {Z : Nat → Int} (h : RowTo w b n k Z) {a : Addr} (ha : b ≠ a.block) (v : Value) : RowTo (w.setCell a v) b n k Z := World.rowIs.setOther h ha v
theorem RowTo.alloc {w : World} {b n k : Nat} {Z : Nat → Int} (h : RowTo w b n k Z) (o : Obj) : RowTo (w.alloc o) b n k Z := World.rowIs.alloc h o
theorem RowTo.start (w : World) (n : Nat) (Z : Nat → Int) : RowTo (w.alloc (.cells (madeCells #[.int .u32 0] n) 24)) w.heap.size n 0 Z := by
  unfold RowTo
  simpa using World.rowIs_made w (.int .u32 0) n 24
theorem RowTo.done {w : World} {b n : Nat} {Z : Nat → Int} (h : RowTo w b n n Z) : U32s w (some ⟨b, 0, none⟩) n Z :=
  .inr ⟨b, 0, rfl, World.rowIs.lt h, fun i hi => by rw [Nat.zero_add, World.rowIs.cell h hi, if_pos hi]⟩

/-- The four rows of the fields, filled up to k. -/
structure Rows4 (w0 wr : World) (L k : Nat) (es : List Ent) : Prop where
  r1 : RowTo wr w0.heap.size L k (fun i => (entAt es i).hi)
  r2 : RowTo wr (w0.heap.size + 1) L k (fun i => (entAt es i).mid)
  r3 : RowTo wr (w0.heap.size + 1 + 1) L k (fun i => (entAt es i).lo)
  r4 : RowTo wr (w0.heap.size + 1 + 1 + 1) L k (fun i => (entAt es i).set)
  bel : Below w0.heap.size w0 wr

theorem Rows4.start (w : World) (L : Nat) (es : List Ent) : Rows4 w ((((w.alloc (.cells (madeCells #[.int .u32 0] L) 24)).alloc (.cells (madeCells #[.int .u32 0] L) 24)).alloc (.cells (madeCells #[.int .u32 0] L) 24)).alloc (.cells (madeCells #[.int .u32 0] L) 24)) L 0 es := by
  have s1 : (w.alloc (.cells (madeCells #[.int .u32 0] L) 24)).heap.size = w.heap.size + 1 := Deep.nblk_alloc _ _
  have s2 : ((w.alloc (.cells (madeCells #[.int .u32 0] L) 24)).alloc (.cells (madeCells #[.int .u32 0] L) 24)).heap.size = w.heap.size + 1 + 1 := by rw [Deep.nblk_alloc, s1]
  have s3 : (((w.alloc (.cells (madeCells #[.int .u32 0] L) 24)).alloc (.cells (madeCells #[.int .u32 0] L) 24)).alloc (.cells (madeCells #[.int .u32 0] L) 24)).heap.size = w.heap.size + 1 + 1 + 1 := by rw [Deep.nblk_alloc, s2]
  refine ⟨(((RowTo.start w L _).alloc _).alloc _).alloc _, ?_, ?_, ?_, ?_⟩
  · have := ((RowTo.start (w.alloc (.cells (madeCells #[.int .u32 0] L) 24)) L (fun i => (entAt es i).mid)).alloc (.cells (madeCells #[.int .u32 0] L) 24)).alloc (.cells (madeCells #[.int .u32 0] L) 24)
    rw [s1] at this
    exact this
  · have := (RowTo.start ((w.alloc (.cells (madeCells #[.int .u32 0] L) 24)).alloc (.cells (madeCells #[.int .u32 0] L) 24)) L (fun i => (entAt es i).lo)).alloc (.cells (madeCells #[.int .u32 0] L) 24)
    rw [s2] at this
    exact this
  · have := RowTo.start (((w.alloc (.cells (madeCells #[.int .u32 0] L) 24)).alloc (.cells (madeCells #[.int .u32 0] L) 24)).alloc (.cells (madeCells #[.int .u32 0] L) 24)) L (fun i => (entAt es i).set)
    rw [s3] at this
    exact this
  · exact ((((Below.refl _ _).alloc (Nat.le_refl _) _).alloc (by rw [s1]; omega) _).alloc (by rw [s2]; omega) _).alloc (by rw [s3]; omega) _

theorem Rows4.step {w0 wr : World} {L k : Nat} {es : List Ent} (h : Rows4 w0 wr L k es) (o : Obj) :
    Rows4 w0 (((((wr.setCell ⟨w0.heap.size, k, none⟩ (.int .u32 (entAt es k).hi)).setCell ⟨w0.heap.size + 1, k, none⟩ (.int .u32 (entAt es k).mid)).setCell ⟨w0.heap.size + 1 + 1, k, none⟩ (.int .u32 (entAt es k).lo)).setCell ⟨w0.heap.size + 1 + 1 + 1, k, none⟩ (.int .u32 (entAt es k).set)).alloc o) L (k + 1) es := by
  refine ⟨?_, ?_, ?_, ?_, ?_⟩
  · exact ((((h.r1.set).other (by simp <;> omega) _).other (by simp <;> omega) _).other (by simp <;> omega) _).alloc _
  · exact ((((h.r2.other (by simp) _).set).other (by simp <;> omega) _).other (by simp <;> omega) _).alloc _
  · exact ((((h.r3.other (by simp <;> omega) _).other (by simp) _).set).other (by simp) _).alloc _
  · exact ((((h.r4.other (by simp <;> omega) _).other (by simp <;> omega) _).other (by simp) _).set).alloc _
  · have hs := World.rowIs.lt h.r1
    exact ((((h.bel.setCell (by simp) _).setCell (by simp) _).setCell (by simp <;> omega) _).setCell (by simp <;> omega) _).alloc (by simp <;> omega) _

theorem Refs.at {w : World} {R g cap : Nat} {bits n : Int} {es : List Ent} (h : Refs w R bits n (.slice (some ⟨g, 0, none⟩) es.length cap) es) (i : Nat) (hi : i < es.length) :
    w.cell? ⟨g, i * 4, none⟩ = some (.int .u32 (entAt es i).hi) ∧ w.cell? ⟨g, i * 4 + 1, none⟩ = some (.int .u32 (entAt es i).mid) ∧ w.cell? ⟨g, i * 4 + 2, none⟩ = some (.int .u32 (entAt es i).lo) ∧ w.cell? ⟨g, i * 4 + 3, none⟩ = some (.int .u32 (entAt es i).set) := by
  have e : entAt es i = es[i] := by simp [entAt, List.getD, hi]
  rw [e]
  exact h.cell i hi

set_option maxRecDepth 100000 in
set_option maxHeartbeats 2000000 in
theorem fields_some {w : World} {R g L cap : Nat} {bits m : Int} {es : List Ent} (hes : es.length = L) (hL : L ≤ 1048576) (h : Refs w R bits m (.slice (some ⟨g, 0, none⟩) L cap) es) : Calls Try.prog 23 #[.pointer (some ⟨R, 0, none⟩)] w (Fields w bits m es) := by
  subst hes
  have hmk := run_make_row' (P := Try.prog) 40 24 _ _ Try.underlying40 Try.info24 rfl .i64 .i64 es.length (by omega) (by omega)
  have hr := h.row
  have hR : R < w.heap.size := h.lt
  have hg : g < w.heap.size := hr.2.1
  have c0 := h.cell0
  have c1 := h.cell1
  have c2 := h.cell2
  have HC : Hid (∀ i, i < es.length → w.cell? ⟨g, i * 4, none⟩ = some (.int .u32 (entAt es i).hi) ∧ w.cell? ⟨g, i * 4 + 1, none⟩ = some (.int .u32 (entAt es i).mid) ∧ w.cell? ⟨g, i * 4 + 2, none⟩ = some (.int .u32 (entAt es i).lo) ∧ w.cell? ⟨g, i * 4 + 3, none⟩ = some (.int .u32 (entAt es i).set)) := h.at
  clear h hr
  generalize hLe : es.length = L at *
  have HL : Hid (es.length = L) := hLe
  clear hLe
  have hR1 : R < w.heap.size + 1 := by omega
  have hR2 : R < w.heap.size + 2 := by omega
  have hR3 : R < w.heap.size + 3 := by omega
  have hR4 : R < w.heap.size + 4 := by omega
  go_enter Try.func23, Try.ntmps23
  go_wp2
  clear hmk
  go_loopw [12] (fun i wr => ∃ k : Nat, k ≤ L ∧ i = .int .i64 k ∧ Rows4 w wr L k es) (fun i _ => L - (intOf i).toNat)
  case atStart => exact ⟨0, Nat.zero_le _, rfl, Rows4.start w L es⟩
  case round =>
    obtain ⟨k, hk, rfl, hrows⟩ := hrel
    have hbel := hrows.bel
    have z1 := (hbel.cell (p := ⟨R, 1, none⟩) hR).trans c1
    by_cases hlt : k < L
    · obtain ⟨x0, x1, x2, x3⟩ := HC.out k hlt
      have y0 := (hbel.cell (p := ⟨g, k * 4, none⟩) hg).trans x0
      have y1 := (hbel.cell (p := ⟨g, k * 4 + 1, none⟩) hg).trans x1
      have y2 := (hbel.cell (p := ⟨g, k * 4 + 2, none⟩) hg).trans x2
      have y3 := (hbel.cell (p := ⟨g, k * 4 + 3, none⟩) hg).trans x3
      have t4 := World.rowIs.lt hrows.r4
      have t1 : w.heap.size < wr.heap.size := by omega
      have t2 : w.heap.size + 1 < wr.heap.size := by omega
      have t3 : w.heap.size + 1 + 1 < wr.heap.size := by omega
      have s0 : R < wr.heap.size := by omega
      have s1 : g < wr.heap.size := by omega
      have p1 := World.rowIs.cell hrows.r1 hlt
      have p2 := World.rowIs.cell hrows.r2 hlt
      have p3 := World.rowIs.cell hrows.r3 hlt
      have p4 := World.rowIs.cell hrows.r4 hlt
      have f1 := World.rowIs.frozen hrows.r1 k
      have f2 := World.rowIs.frozen hrows.r2 k
      have f3 := World.rowIs.frozen hrows.r3 k
      have f4 := World.rowIs.frozen hrows.r4 k
      have R := hrows.step (.cells #[.int .u32 (entAt es k).hi, .int .u32 (entAt es k).mid, .int .u32 (entAt es k).lo, .int .u32 (entAt es k).set] 77)
      clear x0 x1 x2 x3 hrows c0 c1 c2
      go_wp2
      go_roundw
      case rel => exact ⟨k + 1, by omega, by go_num, R⟩
      case measure => simp [intOf]; omega
    · have : L = k := by omega
      subst this
      have z0 := (hbel.cell (p := ⟨R, 0, none⟩) hR).trans c0
      have z2 := (hbel.cell (p := ⟨R, 2, none⟩) hR).trans c2
      clear c0 c1 c2
      go_wp2
      go_quiet (fail)
      go_wp2
      refine bodyPost_ret (v := .tuple #[.int .i64 bits, .slice (some ⟨w.heap.size, 0, none⟩) L L, .slice (some ⟨w.heap.size + 1, 0, none⟩) L L, .slice (some ⟨w.heap.size + 1 + 1, 0, none⟩) L L, .slice (some ⟨w.heap.size + 1 + 1 + 1, 0, none⟩) L L, .int .i64 m]) (by simp [results, Try.results23, go_sem]) rfl ?_
      have hfin : ∀ nq, Fields w bits m es (.returned (.tuple #[.int .i64 bits, .slice (some ⟨w.heap.size, 0, none⟩) L L, .slice (some ⟨w.heap.size + 1, 0, none⟩) L L, .slice (some ⟨w.heap.size + 1 + 1, 0, none⟩) L L, .slice (some ⟨w.heap.size + 1 + 1 + 1, 0, none⟩) L L, .int .i64 m])) (wr.drewN nq) := by
        intro nq
        have e := HL.out
        subst e
        have hb : Below wr.heap.size wr (wr.drewN nq) := below_drewN (Below.refl _ _) _
        exact ⟨_, _, _, _, rfl, hrows.r1.done.below hb, hrows.r2.done.below hb, hrows.r3.done.below hb, hrows.r4.done.below hb, below_drewN hbel _⟩
      exact hfin _

end Go.Proofs.Qxb6602557a.W
