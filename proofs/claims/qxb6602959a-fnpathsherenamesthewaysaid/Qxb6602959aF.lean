import Derived.Test.Qxb6602959aE
import Derived.Deep.Cut
import Derived.Deep.CutRange
import Derived.ChangeAlike
namespace Go.Proofs.Qxb6602959a.W
open Go.RowKit Go.Maps
set_option linter.unusedVariables false

theorem Try.info58 : (Try.prog.info? 58).map (fun i => (i.zero, i.size, i.bytes)) = some (some (.agg #[.string ByteArray.empty, .int .i64 0, .int .i32 0]), 3, 32) := by kernel_rfl
theorem Try.info56 : (Try.prog.info? 56).map (fun i => (i.zero, i.size, i.bytes)) = some (some (.agg #[.int .i32 0, .string ByteArray.empty, .int .i64 0]), 3, 32) := by kernel_rfl
theorem info_parts {P : Program} {e : TypeId} {z : Value} {s b : Nat} (h : (P.info? e).map (fun i => (i.zero, i.size, i.bytes)) = some (some z, s, b)) : ∃ i, P.info? e = some i ∧ i.zero = some z ∧ i.size = s ∧ i.bytes = b := by
  cases hi : P.info? e with
  | none => rw [hi] at h; cases h
  | some i =>
    rw [hi] at h
    simp only [Option.map_some, Option.some.injEq, Prod.mk.injEq] at h
    exact ⟨i, rfl, h⟩
def zSt : St := ⟨ByteArray.empty, 0, 0⟩
def zNd : Nd := ⟨0, ByteArray.empty, 0⟩
theorem make58 (n : Nat) (hn : n ≤ 1048576) (w : World) : (Instr.makeSlice 48 (.int .i64 (n : Int)) (.int .i64 (n : Int))).run Try.prog w =
    .ok (.slice (some ⟨w.heap.size, 0, none⟩) n n) (w.alloc (.cells (madeCells #[.string ByteArray.empty, .int .i64 0, .int .i32 0] (n * 3)) 58)) := by
  obtain ⟨i, hi, hz, hs, hb⟩ := info_parts Try.info58
  have hr := run_make (P := Try.prog) w 48 58 i _ Try.underlying48 hi hz .i64 .i64 n n (by omega) (Int.le_refl _) (by rw [hb]; omega) (by omega)
  simp only [Int.toNat_natCast, hs] at hr
  exact hr
theorem make56 (n : Nat) (hn : n ≤ 1048576) (w : World) : (Instr.makeSlice 49 (.int .i64 (n : Int)) (.int .i64 (n : Int))).run Try.prog w =
    .ok (.slice (some ⟨w.heap.size, 0, none⟩) n n) (w.alloc (.cells (madeCells #[.int .i32 0, .string ByteArray.empty, .int .i64 0] (n * 3)) 56)) := by
  obtain ⟨i, hi, hz, hs, hb⟩ := info_parts Try.info56
  have hr := run_make (P := Try.prog) w 49 56 i _ Try.underlying49 hi hz .i64 .i64 n n (by omega) (Int.le_refl _) (by rw [hb]; omega) (by omega)
  simp only [Int.toNat_natCast, hs] at hr
  exact hr

/-- The first k of n are there, the rest is zero. -/
def upTo {α : Type} (z : α) (F : Nat → α) (n k : Nat) : List α := (List.range n).map (fun i => if i < k then F i else z)
theorem upTo_length {α : Type} (z : α) (F : Nat → α) (n k : Nat) : (upTo z F n k).length = n := by simp [upTo]
theorem upTo_zero {α : Type} (z : α) (F : Nat → α) (n : Nat) : upTo z F n 0 = List.replicate n z := by
  apply List.ext_getElem
  · simp [upTo]
  · intro i h1 h2; simp [upTo]
theorem upTo_set {α : Type} (z : α) (F : Nat → α) (n k : Nat) : (upTo z F n k).set k (F k) = upTo z F n (k + 1) := by
  apply List.ext_getElem
  · simp [upTo]
  · intro i h1 h2
    rw [List.getElem_set]
    by_cases e : k = i
    · subst e; simp [upTo]
    · rw [if_neg e]
      simp only [upTo, List.getElem_map, List.getElem_range]
      by_cases e1 : i < k
      · rw [if_pos e1, if_pos (by omega)]
      · rw [if_neg e1, if_neg (by omega)]
theorem upTo_get {α : Type} (z : α) (F : Nat → α) {n k i : Nat} (h : i < n) : (upTo z F n k)[i]? = some (if i < k then F i else z) := by simp [upTo, h]
def listSt (S : Nat → St) (n : Nat) : List St := (List.range n).map S
theorem upTo_all {α : Type} (z : α) (F : Nat → α) (n : Nat) : upTo z F n n = (List.range n).map F := by
  apply List.ext_getElem
  · simp [upTo]
  · intro i h1 h2
    simp [upTo] at h1
    simp [upTo, h1]
theorem listOf_succ (T : Nat → Nd) (k : Nat) : listOf T (k + 1) = listOf T k ++ [T k] := by simp [listOf, List.range_succ]
theorem listOf_mem {T : Nat → Nd} {k : Nat} {x : Nd} (h : x ∈ listOf T k) : ∃ i, i < k ∧ T i = x := by
  simpa [listOf] using h

theorem Pth.made (w : World) : Pth (w.alloc (.cells #[.slice none 0 0, .slice none 0 0, .map none] 52)) w.heap.size (.slice none 0 0) (.slice none 0 0) (.map none) [] [] [] :=
  ⟨Deep.blk_alloc_new _ _, World.ownsRow_nil _ _ _ _, World.ownsRow_nil _ _ _ _, .inl ⟨rfl, rfl⟩⟩

theorem Pth.madeWay (w : World) (S : Nat → St) (n : Nat) (hn : n ≤ 65536) : Pth ((w.alloc (.cells #[.slice (some ⟨w.heap.size + 1, 0, none⟩) n n, .slice none 0 0, .map none] 52)).alloc (.cells (madeCells #[.string ByteArray.empty, .int .i64 0, .int .i32 0] (n * 3)) 58))
    w.heap.size (.slice (some ⟨w.heap.size + 1, 0, none⟩) n n) (.slice none 0 0) (.map none) (upTo zSt S n 0) [] [] := by
  refine ⟨?_, ?_, World.ownsRow_nil _ _ _ _, .inl ⟨rfl, rfl⟩⟩
  · rw [Below.heap_alloc _ _ _ (by simp)]
    exact Deep.blk_alloc_new _ _
  · rw [upTo_zero, List.length_replicate, List.map_replicate]
    have := own_made3 (w := w.alloc (.cells #[.slice (some ⟨w.heap.size + 1, 0, none⟩) n n, .slice none 0 0, .map none] 52)) (base := w.heap.size + 1) (e := 58) (.string ByteArray.empty) (.int .i64 0) (.int .i32 0) n (by simp) (by unfold maxLen; omega)
    simp at this
    exact this

theorem Pth.madeNds {w : World} {R : Nat} {vw : Value} {ws : List St} (h : Pth w R vw (.slice none 0 0) (.map none) ws [] []) (T : Nat → Nd) (N : Nat) (hN : N ≤ 65536) :
    Pth ((((w.setCell ⟨R, 1, none⟩ (.slice (some ⟨w.heap.size, 0, none⟩) N N)).setCell ⟨R, 2, none⟩ (.map (some (w.heap.size + 1)))).alloc (.cells (madeCells #[.int .i32 0, .string ByteArray.empty, .int .i64 0] (N * 3)) 56)).alloc (.map #[] 0))
      R vw (.slice (some ⟨w.heap.size, 0, none⟩) N N) (.map (some (w.heap.size + 1))) ws (upTo zNd T N 0) (listOf T 0) := by
  have hlt := h.lt
  have hg1 : w.grownBy (w.setCell ⟨R, 1, none⟩ (.slice (some ⟨w.heap.size, 0, none⟩) N N)) (some R) := grownBy_setCell _ _ _
  have hg2 : (w.setCell ⟨R, 1, none⟩ (.slice (some ⟨w.heap.size, 0, none⟩) N N)).grownBy ((w.setCell ⟨R, 1, none⟩ (.slice (some ⟨w.heap.size, 0, none⟩) N N)).setCell ⟨R, 2, none⟩ (.map (some (w.heap.size + 1)))) (some R) := grownBy_setCell _ _ _
  have hs : ((w.setCell ⟨R, 1, none⟩ (.slice (some ⟨w.heap.size, 0, none⟩) N N)).setCell ⟨R, 2, none⟩ (.map (some (w.heap.size + 1)))).heap.size = w.heap.size := by simp [World.setCell]
  have hw := (h.way.kept hg1 (own_R h.way (by omega))).kept hg2 (own_R h.way (by omega))
  have hst := set_st2 (v := .map (some (w.heap.size + 1))) (set_st1 (v := .slice (some ⟨w.heap.size, 0, none⟩) N N) h.st)
  generalize ((w.setCell ⟨R, 1, none⟩ (.slice (some ⟨w.heap.size, 0, none⟩) N N)).setCell ⟨R, 2, none⟩ (.map (some (w.heap.size + 1)))) = x at *
  rw [← hs] at hlt hst ⊢
  refine ⟨?_, (hw.alloc _).alloc _, ?_, .inr ⟨x.heap.size + 1, .map [], rfl, by omega, ?_, Knows.start⟩⟩
  · rw [Below.heap_alloc _ _ _ (by simp; omega), Below.heap_alloc _ _ _ hlt]
    exact hst
  · rw [upTo_zero, List.length_replicate, List.map_replicate]
    exact (own_made3 (w := x) (base := R + 1) (e := 56) (.int .i32 0) (.string ByteArray.empty) (.int .i64 0) N (by omega) (by unfold maxLen; omega)).alloc _
  · have := World.ownsMap_made (x.alloc (.cells (madeCells #[.int .i32 0, .string ByteArray.empty, .int .i64 0] (N * 3)) 56)) Try.prog 56 held
    simp at this
    exact this

theorem cell_new (w : World) (cs : Array Value) (t : TypeId) (i : Nat) {v : Value} (h : cs[i]? = some v) : (w.alloc (.cells cs t)).drew.cell? ⟨w.heap.size, i, none⟩ = some v := by
  show (w.alloc (.cells cs t)).cell? ⟨w.heap.size, i, none⟩ = some v
  unfold World.cell?
  rw [show (w.alloc (.cells cs t)).heap[w.heap.size]? = some (.cells cs t) from Deep.blk_alloc_new _ _]
  exact h

/-- A row of values as the walks see it. -/
def Row (w : World) (a : Option Addr) (n : Nat) (f : Nat → Value) : Prop :=
  n = 0 ∨ ∃ b off, a = some ⟨b, off, none⟩ ∧ b < w.heap.size ∧ ∀ i, i < n → w.cell? ⟨b, off + i, none⟩ = some (f i)
theorem Row.below {w w' : World} {a : Option Addr} {n : Nat} {f : Nat → Value} (h : Row w a n f) (hb : Below w.heap.size w w') : Row w' a n f := by
  rcases h with h | ⟨b, off, ha, hl, hc⟩
  · exact .inl h
  · exact .inr ⟨b, off, ha, Nat.lt_of_lt_of_le hl hb.size, fun i hi => (hb.cell (p := ⟨b, off + i, none⟩) hl).trans (hc i hi)⟩

/-- What ZZNewPaths leaves. -/
def NewP (w : World) (ws : List St) (ns : List Nd) (e : Ending) (w' : World) : Prop :=
  ∃ vw vn vm, e = .returned (.pointer (some ⟨w.heap.size, 0, none⟩)) ∧ Pth w' w.heap.size vw vn vm ws ns ns ∧ Below w.heap.size w w'

set_option maxRecDepth 100000 in
set_option maxHeartbeats 2000000 in
theorem new_any (a0 : Option Addr) (n c0 : Nat) (a1 : Option Addr) (c1 : Nat) (a2 : Option Addr) (c2 : Nat) (a3 : Option Addr) (N c3 : Nat) (a4 : Option Addr) (c4 : Nat) (a5 : Option Addr) (c5 : Nat) (S : Nat → St) (T : Nat → Nd) (w : World)
    (hn : n ≤ 65536) (hN : N ≤ 65536) (k0 : a0 = none → n = 0 ∧ c0 = 0) (h0 : Row w a0 n (fun i => .string (S i).k)) (h1 : Row w a1 n (fun i => .int .i64 (S i).i)) (h2 : Row w a2 n (fun i => .int .i32 (S i).n))
    (h3 : Row w a3 N (fun i => .int .i32 (T i).p)) (h4 : Row w a4 N (fun i => .string (T i).k)) (h5 : Row w a5 N (fun i => .int .i64 (T i).i)) (hT : ∀ i, i < N → (T i).ok) (hd : ∀ i j, i < j → j < N → T i ≠ T j) :
    Calls Try.prog 16 #[.slice a0 n c0, .slice a1 n c1, .slice a2 n c2, .slice a3 N c3, .slice a4 N c4, .slice a5 N c5] w (NewP w (listSt S n) (listOf T N)) := by
  have hmk := make58 n (by omega)
  go_enter Try.func16, Try.ntmps16
  go_upto_if 20 with fail
  go_cut [14] from 17 (fun _ wd => ∃ vw, Pth wd w.heap.size vw (.slice none 0 0) (.map none) (listSt S n) [] [] ∧ Below w.heap.size w wd)
  case first =>
    clear hd hT h3 h4 h5
    cases a0 with
    | none =>
      obtain ⟨rfl, rfl⟩ := k0 rfl
      clear hmk h0 h1 h2
      go_wp2
      go_meet
      case rel => exact ⟨_, Pth.made w, (Below.refl _ _).alloc (Nat.le_refl _) _⟩
    | some x =>
      go_wp2
      simp only [Option.isSome_some]
      go_loopw [14] (fun i wr => ∃ k : Nat, k ≤ n ∧ i = .int .i64 k ∧ Pth wr w.heap.size (.slice (some ⟨w.heap.size + 1, 0, none⟩) n n) (.slice none 0 0) (.map none) (upTo zSt S n k) [] [] ∧ Below w.heap.size w wr) (fun i _ => n - (intOf i).toNat)
      case atStart => exact ⟨0, Nat.zero_le _, rfl, Pth.madeWay w S n (by omega), ((Below.refl _ _).alloc (Nat.le_refl _) _).alloc (by simp) _⟩
      case round =>
        clear hmk
        obtain ⟨k, hk, rfl, hp, hbel⟩ := hrel
        by_cases hlt : k < n
        · rcases h0 with rfl | ⟨b0, o0, hx, l0, g0⟩
          · omega
          obtain rfl : x = ⟨b0, o0, none⟩ := Option.some.inj hx
          rcases h1 with rfl | ⟨b1, o1, rfl, l1, g1⟩
          · omega
          rcases h2 with rfl | ⟨b2, o2, rfl, l2, g2⟩
          · omega
          have e0 := (hbel.cell (p := ⟨b0, o0 + k, none⟩) l0).trans (g0 k hlt)
          have e1 := (hbel.cell (p := ⟨b1, o1 + k, none⟩) l1).trans (g1 k hlt)
          have e2 := (hbel.cell (p := ⟨b2, o2 + k, none⟩) l2).trans (g2 k hlt)
          have cs := hp.c0
          obtain ⟨d0, d1, d2, df⟩ := hp.step (upTo_length _ _ _ _).symm (upTo_get zSt S hlt)
          have f0 := df (k * 3)
          have f1 := df (k * 3 + 1)
          have f2 := df (k * 3 + 2)
          have R := (hp.putWay (upTo_length _ _ _ _).symm k (S k)).drew
          rw [upTo_set] at R
          have R2 := (((hbel.setCell (p := ⟨w.heap.size + 1, k * 3, none⟩) (Nat.le_succ _) (.string (S k).k)).setCell (p := ⟨w.heap.size + 1, k * 3 + 1, none⟩) (Nat.le_succ _) (.int .i64 (S k).i)).setCell (p := ⟨w.heap.size + 1, k * 3 + 2, none⟩) (Nat.le_succ _) (.int .i32 (S k).n)).drew
          clear g0 g1 g2 df hp
          go_wp2
          go_region
          go_wp2
          go_roundw
          case rel => exact ⟨k + 1, by omega, by go_num, R, R2⟩
          case measure => simp [intOf]; omega
        · have : n = k := by omega
          subst this
          clear h0 h1 h2
          go_wp2
          go_meet
          case rel =>
            rw [upTo_all] at hp
            exact ⟨_, hp, hbel⟩
  case rest =>
  clear hmk k0 h0 h1 h2
  obtain ⟨vw, hp, hbc⟩ := hcut
  by_cases hN0 : N = 0
  · subst hN0
    clear h3 h4 h5
    go_wp2
    go_ret
    exact ⟨_, _, _, rfl, hp, hbc⟩
  · have hN1 : 0 < N := by omega
    have HP := hide' hp
    have c0 := hp.c0
    have c1 := hp.c1
    have c2 := hp.c2
    have f1 := hp.fz 1
    have f2 := hp.fz 2
    have hRl := hp.lt
    clear hp
    have hmk := make56 N (by omega)
    have hmm := fun n w => makeMap_hint Try.underlying50 .i64 n w
    have hsz := hbc.size
    go_wp2
    clear hmk hmm c0 c1 c2 f1 f2
    go_loopw [15, 16] (fun i _ wr => ∃ k : Nat, k ≤ N ∧ i = .int .i64 k ∧ Pth wr w.heap.size vw (.slice (some ⟨wc.heap.size, 0, none⟩) N N) (.map (some (wc.heap.size + 1))) (listSt S n) (upTo zNd T N k) (listOf T k) ∧ Below w.heap.size w wr) (fun i _ _ => N - (intOf i).toNat)
    case atStart => exact ⟨0, Nat.zero_le _, rfl, HP.out.madeNds T N (by omega), (((hbc.setCell (p := ⟨w.heap.size, 1, none⟩) (Nat.le_refl _) _).setCell (p := ⟨w.heap.size, 2, none⟩) (Nat.le_refl _) _).alloc (by simp [World.setCell]; omega) _).alloc (by simp [World.setCell]; omega) _⟩
    case round =>
      obtain ⟨k, hk, rfl, hp, hbel⟩ := hrel
      by_cases hlt : k < N
      · rcases h3 with rfl | ⟨b0, o0, rfl, l0, g0⟩
        · omega
        rcases h4 with rfl | ⟨b1, o1, rfl, l1, g1⟩
        · omega
        rcases h5 with rfl | ⟨b2, o2, rfl, l2, g2⟩
        · omega
        have e0 := (hbel.cell (p := ⟨b0, o0 + k, none⟩) l0).trans (g0 k hlt)
        have e1 := (hbel.cell (p := ⟨b1, o1 + k, none⟩) l1).trans (g1 k hlt)
        have e2 := (hbel.cell (p := ⟨b2, o2 + k, none⟩) l2).trans (g2 k hlt)
        clear g0 g1 g2
        have hsw := hbel.size
        have m0 : b0 < wr.heap.size := by omega
        have m1 : b1 < wr.heap.size := by omega
        have m2 : b2 < wr.heap.size := by omega
        have HT := hide' (hT k hlt)
        have HD := hide' (show T k ∉ listOf T k from fun hm => by
          obtain ⟨i, hi, he⟩ := listOf_mem hm
          exact hd i k hi hlt he)
        clear hT hd
        have hwr := hp.lt
        go_wp2
        go_region
        go_wp2
        have hq : wc.heap.size < wr.heap.size := by
          have := (hp.nds.lt wc.heap.size rfl).2
          exact this
        have hb1 : Below wr.heap.size wr (wr.alloc (.cells #[.int .i32 (T k).p, .string (T k).k, .int .i64 (T k).i] 56)).drew := ((Below.refl _ _).alloc (Nat.le_refl _) _).drew
        have hp1 := hp.below hb1
        have hbel1 := hbel.trans (hb1.mono hsw)
        have x0 : (wr.alloc (.cells #[.int .i32 (T k).p, .string (T k).k, .int .i64 (T k).i] 56)).drew.cell? ⟨wr.heap.size, 0, none⟩ = some (.int .i32 (T k).p) := cell_new _ _ _ _ (by simp)
        have x1 : (wr.alloc (.cells #[.int .i32 (T k).p, .string (T k).k, .int .i64 (T k).i] 56)).drew.cell? ⟨wr.heap.size, 1, none⟩ = some (.string (T k).k) := cell_new _ _ _ _ (by simp)
        have x2 : (wr.alloc (.cells #[.int .i32 (T k).p, .string (T k).k, .int .i64 (T k).i] 56)).drew.cell? ⟨wr.heap.size, 2, none⟩ = some (.int .i64 (T k).i) := cell_new _ _ _ _ (by simp)
        have xs : (wr.alloc (.cells #[.int .i32 (T k).p, .string (T k).k, .int .i64 (T k).i] 56)).drew.heap.size = wr.heap.size + 1 := by simp
        clear hp hb1 hbel e0 e1 e2
        generalize (wr.alloc (.cells #[.int .i32 (T k).p, .string (T k).k, .int .i64 (T k).i] 56)).drew = w1 at *
        generalize hQ : wr.heap.size = q at *
        have c1 := hp1.c1
        obtain ⟨d0, d1, d2, df⟩ := hp1.node (upTo_length _ _ _ _).symm (upTo_get zNd T hlt)
        have f0 := df (k * 3)
        have f1 := df (k * 3 + 1)
        have f2 := df (k * 3 + 2)
        go_region
        go_wp2
        obtain ⟨w2, e2, hp2, hbel2, y0, y1, y2⟩ : ∃ w2, w2 = (((w1.setCell ⟨wc.heap.size, k * 3, none⟩ (.int .i32 (T k).p)).setCell ⟨wc.heap.size, k * 3 + 1, none⟩ (.string (T k).k)).setCell ⟨wc.heap.size, k * 3 + 2, none⟩ (.int .i64 (T k).i)).drew
            ∧ Pth w2 w.heap.size vw (.slice (some ⟨wc.heap.size, 0, none⟩) N N) (.map (some (wc.heap.size + 1))) (listSt S n) (upTo zNd T N (k + 1)) (listOf T k) ∧ Below w.heap.size w w2
            ∧ w2.cell? ⟨q, 0, none⟩ = some (.int .i32 (T k).p) ∧ w2.cell? ⟨q, 1, none⟩ = some (.string (T k).k) ∧ w2.cell? ⟨q, 2, none⟩ = some (.int .i64 (T k).i) := by
          have hg := put3_grown w1 wc.heap.size k (T k).tri
          have hqb := hg.block q (by omega) (by simp; omega)
          refine ⟨_, rfl, ?_, ?_, (World.cell?_of_block (w := w1) (a := ⟨q, 0, none⟩) hqb).trans x0, (World.cell?_of_block (w := w1) (a := ⟨q, 1, none⟩) hqb).trans x1, (World.cell?_of_block (w := w1) (a := ⟨q, 2, none⟩) hqb).trans x2⟩
          · have := (hp1.putNds (upTo_length _ _ _ _).symm k (T k)).drew
            rw [upTo_set] at this
            exact this
          · exact (hbel1.grown hg (by omega) (fun j hj => by cases hj; exact hsz)).drew
        rw [← e2]
        clear e2 hp1 hbel1 x0 x1 x2 c1 d0 d1 d2 df f0 f1 f2
        obtain ⟨D, hB, hm, hkn⟩ : ∃ D, w.heap.size < wc.heap.size + 1 ∧ w2.ownsMap Try.prog 56 held (wc.heap.size + 1) (listOf T k).length D ∧ Knows D (listOf T k) := by
          rcases hp2.kn with ⟨h', _⟩ | ⟨B, D, e, hB, hm, hk⟩
          · cases h'
          · cases e
            exact ⟨D, hB, hm, hk⟩
        obtain ⟨w3, hrun, hown3, hturn⟩ := hm.drew.store law56 Try.underlying50 (by rw [listOf_length]; unfold maxLen; omega) (key56 HT.out) (val := .int .i32 (k : Int)) (d := .held (.int .i32 (k : Int))) (ps := []) rfl
        have c2 := hp2.c2
        have R : Pth w3 w.heap.size vw (.slice (some ⟨wc.heap.size, 0, none⟩) N N) (.map (some (wc.heap.size + 1))) (listSt S n) (upTo zNd T N (k + 1)) (listOf T (k + 1)) := by
          have hk' := hkn.step (hm.tidy law56) HT.out HD.out
          rw [listOf_length, ← listOf_succ] at hk'
          rw [listOf_length] at hown3
          exact hp2.drew.turnMap hB hm.drew hturn.grown (by rw [listOf_length]; exact hown3) hk'
        have R2 : Below w.heap.size w w3 := hbel2.drew.grown hturn.grown (by show w.heap.size ≤ w2.heap.size; exact hbel2.size) (fun j hj => by cases hj; omega)
        unfold Nd.val at hrun
        clear hp2 hbel2 hm hkn hown3 hturn
        go_region
        go_wp2
        go_roundw
        case rel => exact ⟨k + 1, by omega, by go_num, R, R2⟩
        case measure => simp [intOf]; omega
      · have : N = k := by omega
        subst this
        clear h3 h4 h5 hT hd
        go_wp2
        go_ret
        rw [upTo_all] at hp
        exact ⟨_, _, _, rfl, hp, hbel⟩

end Go.Proofs.Qxb6602959a.W
