import Derived.Test.Qxb6602959aF
namespace Go.Proofs.Qxb6602959a.W
open Go.RowKit Go.Maps
set_option linter.unusedVariables false

theorem Try.info9 : (Try.prog.info? 9).map (fun i => (i.zero, i.size, i.bytes)) = some (some (.string ByteArray.empty), 1, 16) := by kernel_rfl
theorem Try.info3 : (Try.prog.info? 3).map (fun i => (i.zero, i.size, i.bytes)) = some (some (.int .i64 0), 1, 8) := by kernel_rfl
theorem Try.info21 : (Try.prog.info? 21).map (fun i => (i.zero, i.size, i.bytes)) = some (some (.int .i32 0), 1, 4) := by kernel_rfl

def fillTo (z : Value) (F : Nat → Value) (k j : Nat) : Value := if j < k then F j else z
theorem fill_start (w : World) (z : Value) (F : Nat → Value) (n : Nat) (t : TypeId) : (w.alloc (.cells (madeCells #[z] n) t)).rowIs w.heap.size t n (fillTo z F 0) :=
  (World.rowIs_made w z n t).congr (fun i _ => by simp [fillTo])
theorem fill_step {w : World} {b : Nat} {t : TypeId} {n k : Nat} {z : Value} {F : Nat → Value} (h : w.rowIs b t n (fillTo z F k)) : (w.setCell ⟨b, k, none⟩ (F k)).rowIs b t n (fillTo z F (k + 1)) :=
  (h.set k (F k)).congr (fun j _ => by
    unfold fillTo
    by_cases e : j = k
    · subst e; simp
    · by_cases e1 : j < k
      · rw [if_neg e, if_pos e1, if_pos (by omega)]
      · rw [if_neg e, if_neg e1, if_neg (by omega)])
theorem fill_row {w : World} {b : Nat} {t : TypeId} {n : Nat} {z : Value} {F : Nat → Value} (h : w.rowIs b t n (fillTo z F n)) : Row w (some ⟨b, 0, none⟩) n F :=
  .inr ⟨b, 0, rfl, h.lt, fun i hi => by rw [Nat.zero_add, h.cell hi]; unfold fillTo; rw [if_pos hi]⟩

/-- Three rows, one behind the other, the first k places filled. -/
structure Fill3 (w : World) (b : Nat) (t0 t1 t2 : TypeId) (z0 z1 z2 : Value) (F0 F1 F2 : Nat → Value) (n k : Nat) : Prop where
  r0 : w.rowIs b t0 n (fillTo z0 F0 k)
  r1 : w.rowIs (b + 1) t1 n (fillTo z1 F1 k)
  r2 : w.rowIs (b + 1 + 1) t2 n (fillTo z2 F2 k)
theorem Fill3.start (w : World) (t0 t1 t2 : TypeId) (z0 z1 z2 : Value) (F0 F1 F2 : Nat → Value) (n : Nat) :
    Fill3 (((w.alloc (.cells (madeCells #[z0] n) t0)).alloc (.cells (madeCells #[z1] n) t1)).alloc (.cells (madeCells #[z2] n) t2)) w.heap.size t0 t1 t2 z0 z1 z2 F0 F1 F2 n 0 := by
  refine ⟨((fill_start w z0 F0 n t0).alloc _).alloc _, ?_, ?_⟩
  · have := (fill_start (w.alloc (.cells (madeCells #[z0] n) t0)) z1 F1 n t1).alloc (.cells (madeCells #[z2] n) t2)
    simp at this
    exact this
  · have := fill_start ((w.alloc (.cells (madeCells #[z0] n) t0)).alloc (.cells (madeCells #[z1] n) t1)) z2 F2 n t2
    simp at this
    exact this
theorem Fill3.step {w : World} {b : Nat} {t0 t1 t2 : TypeId} {z0 z1 z2 : Value} {F0 F1 F2 : Nat → Value} {n k : Nat} (h : Fill3 w b t0 t1 t2 z0 z1 z2 F0 F1 F2 n k) :
    Fill3 (((w.setCell ⟨b, k, none⟩ (F0 k)).setCell ⟨b + 1, k, none⟩ (F1 k)).setCell ⟨b + 1 + 1, k, none⟩ (F2 k)) b t0 t1 t2 z0 z1 z2 F0 F1 F2 n (k + 1) :=
  ⟨((fill_step h.r0).setOther (by show b ≠ b + 1; omega) _).setOther (by show b ≠ b + 1 + 1; omega) _,
   (fill_step (h.r1.setOther (by show b + 1 ≠ b; omega) _)).setOther (by show b + 1 ≠ b + 1 + 1; omega) _,
   fill_step ((h.r2.setOther (by show b + 1 + 1 ≠ b; omega) _).setOther (by show b + 1 + 1 ≠ b + 1; omega) _)⟩
theorem Fill3.below {w w' w0 : World} {b k : Nat} {u0 u1 u2 : Value} (h : Below w0.heap.size w0 w') (hb : w0.heap.size ≤ b) : Below w0.heap.size w0 (((w'.setCell ⟨b, k, none⟩ u0).setCell ⟨b + 1, k, none⟩ u1).setCell ⟨b + 1 + 1, k, none⟩ u2) :=
  ((h.setCell (p := ⟨b, k, none⟩) hb u0).setCell (p := ⟨b + 1, k, none⟩) (by show _ ≤ b + 1; omega) u1).setCell (p := ⟨b + 1 + 1, k, none⟩) (by show _ ≤ b + 1 + 1; omega) u2

/-- The way's three rows. -/
def Laid3 (w wd : World) (n : Nat) (S : Nat → St) (s5 s6 s7 : Value) : Prop :=
  ∃ y0 y1 y2, s5 = .slice y0 n n ∧ s6 = .slice y1 n n ∧ s7 = .slice y2 n n ∧ (y0 = none → n = 0 ∧ n = 0) ∧ Row wd y0 n (fun i => .string (S i).k) ∧ Row wd y1 n (fun i => .int .i64 (S i).i) ∧ Row wd y2 n (fun i => .int .i32 (S i).n) ∧ Below w.heap.size w wd

/-- What zzNewPaths leaves. -/
def NewQ (w : World) (ws : List St) (ns : List Nd) (e : Ending) (w' : World) : Prop :=
  ∃ R vw vn vm, e = .returned (.pointer (some ⟨R, 0, none⟩)) ∧ w.heap.size ≤ R ∧ Pth w' R vw vn vm ws ns ns ∧ Below w.heap.size w w'

set_option maxRecDepth 100000 in
set_option maxHeartbeats 2000000 in
theorem zznew_any (a0 : Option Addr) (n c0 : Nat) (S : Nat → St) (a1 : Option Addr) (N c1 : Nat) (T : Nat → Nd) (w : World) (hn : n ≤ 65536) (hN : N ≤ 65536) (k0 : a0 = none → n = 0 ∧ c0 = 0) (h0 : Steps w a0 n S) (h1 : Nodes w a1 N T)
    (hT : ∀ i, i < N → (T i).ok) (hd : ∀ i j, i < j → j < N → T i ≠ T j) : Calls Try.prog 8 #[.slice a0 n c0, .slice a1 N c1] w (NewQ w (listSt S n) (listOf T N)) := by
  have m43 := run_make_row' (P := Try.prog) 43 9 _ 16 Try.underlying43 Try.info9 rfl .i64 .i64 n (by omega) (by omega)
  have m44 := run_make_row' (P := Try.prog) 44 3 _ 8 Try.underlying44 Try.info3 rfl .i64 .i64 n (by omega) (by omega)
  have m45 := run_make_row' (P := Try.prog) 45 21 _ 4 Try.underlying45 Try.info21 rfl .i64 .i64 n (by omega) (by omega)
  go_enter Try.func8, Try.ntmps8
  go_upto_if 14 with fail
  go_cut [5, 6, 7, 8] from 13 (fun s5 s6 s7 _ wd => Laid3 w wd n S s5 s6 s7)
  case first =>
    clear hd hT h1
    cases a0 with
    | none =>
      obtain ⟨rfl, rfl⟩ := k0 rfl
      clear m43 m44 m45 h0
      go_wp2
      go_meet
      case rel => exact ⟨none, none, none, rfl, rfl, rfl, fun _ => ⟨rfl, rfl⟩, .inl rfl, .inl rfl, .inl rfl, Below.refl _ _⟩
    | some x =>
      go_wp2
      simp only [Option.isSome_some]
      clear m43 m44 m45
      go_loopw [8] (fun i wr => ∃ k : Nat, k ≤ n ∧ i = .int .i64 k ∧ Fill3 wr w.heap.size 9 3 21 (.string ByteArray.empty) (.int .i64 0) (.int .i32 0) (fun i => .string (S i).k) (fun i => .int .i64 (S i).i) (fun i => .int .i32 (S i).n) n k ∧ Below w.heap.size w wr) (fun i _ => n - (intOf i).toNat)
      case atStart => exact ⟨0, Nat.zero_le _, rfl, Fill3.start _ _ _ _ _ _ _ _ _ _ _, (((Below.refl _ _).alloc (Nat.le_refl _) _).alloc (by simp) _).alloc (by simp; omega) _⟩
      case round =>
        obtain ⟨k, hk, rfl, hf, hbel⟩ := hrel
        by_cases hlt : k < n
        · rcases h0 with rfl | ⟨b, off, hx, hl, hc⟩
          · omega
          obtain rfl : x = ⟨b, off, none⟩ := Option.some.inj hx
          obtain ⟨x0, x1, x2⟩ := hc k hlt
          have e0 := (hbel.cell (p := ⟨b, off + k * 3, none⟩) hl).trans x0
          have e1 := (hbel.cell (p := ⟨b, off + k * 3 + 1, none⟩) hl).trans x1
          have e2 := (hbel.cell (p := ⟨b, off + k * 3 + 2, none⟩) hl).trans x2
          have u0 := hf.r0.cell hlt
          have u1 := hf.r1.cell hlt
          have u2 := hf.r2.cell hlt
          have v0 := hf.r0.frozen k
          have v1 := hf.r1.frozen k
          have v2 := hf.r2.frozen k
          have R := hf.step
          have R2 := Fill3.below (w := w) (k := k) (u0 := .string (S k).k) (u1 := .int .i64 (S k).i) (u2 := .int .i32 (S k).n) hbel (Nat.le_refl _)
          clear hf x0 x1 x2 hc hbel
          go_wp2
          go_roundw
          case rel => exact ⟨k + 1, by omega, by go_num, R, R2⟩
          case measure => simp [intOf]; omega
        · have : n = k := by omega
          subst this
          clear h0
          go_wp2
          go_meet
          case rel => exact ⟨_, _, _, rfl, rfl, rfl, (fun h => by cases h), fill_row hf.r0, fill_row hf.r1, fill_row hf.r2, hbel⟩
  case rest =>
  clear m43 m44 m45 k0 h0
  obtain ⟨y0, y1, y2, rfl, rfl, rfl, ky, r0, r1, r2, hbc⟩ := hcut
  have m43 := run_make_row' (P := Try.prog) 43 9 _ 16 Try.underlying43 Try.info9 rfl .i64 .i64 N (by omega) (by omega)
  have m44 := run_make_row' (P := Try.prog) 44 3 _ 8 Try.underlying44 Try.info3 rfl .i64 .i64 N (by omega) (by omega)
  have m45 := run_make_row' (P := Try.prog) 45 21 _ 4 Try.underlying45 Try.info21 rfl .i64 .i64 N (by omega) (by omega)
  have hsz := hbc.size
  have h1 := h1.below hbc
  have HR := hide' (And.intro r0 (And.intro r1 r2))
  clear r0 r1 r2
  go_wp2
  clear m43 m44 m45
  go_loopw [12] (fun i wr => ∃ k : Nat, k ≤ N ∧ i = .int .i64 k ∧ Fill3 wr wc.heap.size 21 9 3 (.int .i32 0) (.string ByteArray.empty) (.int .i64 0) (fun i => .int .i32 (T i).p) (fun i => .string (T i).k) (fun i => .int .i64 (T i).i) N k ∧ Below wc.heap.size wc wr) (fun i _ => N - (intOf i).toNat)
  case atStart => exact ⟨0, Nat.zero_le _, rfl, Fill3.start _ _ _ _ _ _ _ _ _ _ _, (((Below.refl _ _).alloc (Nat.le_refl _) _).alloc (by simp) _).alloc (by simp; omega) _⟩
  case round =>
    obtain ⟨k, hk, rfl, hf, hbel⟩ := hrel
    by_cases hlt : k < N
    · rcases h1 with rfl | ⟨b, off, rfl, hl, hc⟩
      · omega
      obtain ⟨x0, x1, x2⟩ := hc k hlt
      have e0 := (hbel.cell (p := ⟨b, off + k * 3, none⟩) hl).trans x0
      have e1 := (hbel.cell (p := ⟨b, off + k * 3 + 1, none⟩) hl).trans x1
      have e2 := (hbel.cell (p := ⟨b, off + k * 3 + 2, none⟩) hl).trans x2
      have u0 := hf.r0.cell hlt
      have u1 := hf.r1.cell hlt
      have u2 := hf.r2.cell hlt
      have v0 := hf.r0.frozen k
      have v1 := hf.r1.frozen k
      have v2 := hf.r2.frozen k
      have R := hf.step
      have R2 := Fill3.below (w := wc) (k := k) (u0 := .int .i32 (T k).p) (u1 := .string (T k).k) (u2 := .int .i64 (T k).i) hbel (Nat.le_refl _)
      clear hf x0 x1 x2 hc hbel
      go_wp2
      go_roundw
      case rel => exact ⟨k + 1, by omega, by go_num, R, R2⟩
      case measure => simp [intOf]; omega
    · have : N = k := by omega
      subst this
      clear h1
      go_wp2_with fail
      have q0 := fill_row hf.r0
      have q1 := fill_row hf.r1
      have q2 := fill_row hf.r2
      refine (new_any y0 n n y1 n y2 n _ N N _ N _ N S T _ hn hN ky (HR.out.1.below hbel) (HR.out.2.1.below hbel) (HR.out.2.2.below hbel) q0 q1 q2 hT hd).mono ?_
      rintro e w1 ⟨vw, vn, vm, rfl, hp, hb1⟩
      have hs2 := hbel.size
      have R2 : Below w.heap.size w w1 := hbc.trans ((hbel.mono hsz).trans (hb1.mono (Nat.le_trans hsz hs2)))
      clear hf q0 q1 q2 hT hd hb1 hbel hbc HR
      have HP := hide' hp
      clear hp
      go_wp2
      go_ret
      exact ⟨_, _, _, _, rfl, Nat.le_trans hsz hs2, HP.out, R2⟩

end Go.Proofs.Qxb6602959a.W
