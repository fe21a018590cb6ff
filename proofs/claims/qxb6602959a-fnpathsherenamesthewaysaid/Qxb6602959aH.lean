import Derived.Test.Qxb6602959aH0
import Derived.Deep.CutBlock
namespace Go.Proofs.Qxb6602959a.W
open Go.RowKit Go.Maps
set_option linter.unusedVariables false

/-- What 'here' leaves. -/
def Here (w : World) (R : Nat) (S : Nat → St) (n : Nat) (ns0 : List Nd) (m : Nat) (e : Ending) (w' : World) : Prop :=
  ∃ ns id c vw vn vm, Went S ns0 m n ns id c ∧ e = .returned (.int .i32 (par id n)) ∧ Pth w' R vw vn vm (wayTo S id n n) ns ns ∧ Below R w w'

/-- The second loop's word: j steps have their nodes. -/
def At (w wr : World) (R : Nat) (vw : Value) (S : Nat → St) (n : Nat) (ns0 : List Nd) (m : Nat) (i p : Value) : Prop :=
  ∃ (j : Nat) (ns : List Nd) (id c : Nat → Nat) (vn vm : Value), j ≤ n ∧ i = .int .i64 j ∧ p = .int .i32 (par id j) ∧ Went S ns0 m j ns id c ∧ Pth wr R vw vn vm (wayTo S id n j) ns ns ∧ Below R w wr

set_option maxRecDepth 100000 in
set_option maxHeartbeats 4000000 in
theorem here_any (w : World) (R : Nat) (vw0 vn0 vm0 : Value) (S : Nat → St) (n : Nat) (T : Nat → Nd) (N m : Nat) (hn : n ≤ 65536) (hN : N ≤ 65536) (hS : ∀ i, i < n → (S i).ok) (hpr : Prem S n T N m)
    (h : Pth w R vw0 vn0 vm0 (listSt S n) (listOf T N) (listOf T N)) : Calls Try.prog 17 #[.pointer (some ⟨R, 0, none⟩)] w (Here w R S n (listOf T N) m) := by
  obtain ⟨a, cap, rfl, hz⟩ := own_slice h.way
  have hL : (listSt S n).length = n := by simp [listSt]
  rw [hL] at h hz
  have hmn := hpr.made.1
  have HPr := hide' hpr
  have HH := hide' h
  have HS := hide' hS
  have c0 := h.c0
  clear hpr h hS
  go_enter Try.func17, Try.ntmps17
  go_upto_block 0 with fail
  go_cut [3] from 13 (fun s wd => s = .int .i64 (m : Int) ∧ wd = w)
  case first =>
    go_wp2
    go_loop [3] (fun i => ∃ j : Nat, m ≤ j ∧ j ≤ n ∧ i = .int .i64 j) (fun i => (intOf i).toNat)
    case atStart => exact ⟨n, hmn, Nat.le_refl _, rfl⟩
    case round =>
      obtain ⟨j, hj1, hj2, rfl⟩ := hrel
      by_cases hjm : m < j
      · obtain ⟨j, rfl⟩ : ∃ j', j = j' + 1 := ⟨j - 1, by omega⟩
        rcases hz with hz | ⟨g, rfl⟩
        · omega
        have hneg := HPr.out.rest j (by omega) (by omega)
        obtain ⟨d0, d1, d2, df⟩ := HH.out.step (i := j) (x := S j) hL.symm (listSt_get S (by omega))
        have hi' : (j : Int) < (n : Int) := by omega
        clear d0 d1 df
        go_wp2
        go_round
        case rel => exact ⟨j, by omega, by omega, by go_num⟩
        case measure => simp [intOf]
      · have hjm : j = m := by omega
        subst hjm
        by_cases hj0 : j = 0
        · subst hj0
          go_wp2
          go_meet
          case rel => exact ⟨rfl, rfl⟩
        · obtain ⟨j, rfl⟩ : ∃ j', j = j' + 1 := ⟨j - 1, by omega⟩
          rcases hz with hz | ⟨g, rfl⟩
          · omega
          have hpos := HPr.out.made.2.1 j (by omega)
          obtain ⟨d0, d1, d2, df⟩ := HH.out.step (i := j) (x := S j) hL.symm (listSt_get S (by omega))
          have hi' : (j : Int) < (n : Int) := by omega
          clear d0 d1 df
          go_wp2
          go_meet
          case rel => exact ⟨by go_num, rfl⟩
  case rest =>
  obtain ⟨rfl, hwc⟩ := hcut
  subst wc
  have HW := hide' (Went.start HPr.out)
  go_upto_if 30 with fail
  go_cut [4] from 8 (fun s wd => s = .int .i32 (par (fun a => (S a).n.toNat) m) ∧ wd = w)
  case first =>
    by_cases hm0 : m = 0
    · subst hm0
      go_wp2
      go_meet
      case rel => exact ⟨rfl, rfl⟩
    · obtain ⟨j, rfl⟩ : ∃ j', m = j' + 1 := ⟨m - 1, by omega⟩
      rcases hz with hz | ⟨g, rfl⟩
      · omega
      have hpos := HPr.out.made.2.1 j (by omega)
      obtain ⟨d0, d1, d2, df⟩ := HH.out.step (i := j) (x := S j) hL.symm (listSt_get S (by omega))
      have hi' : (j : Int) < (n : Int) := by omega
      clear d0 d1 df
      go_wp2
      go_meet
      case rel =>
        refine ⟨?_, rfl⟩
        rw [par_succ, Int.toNat_of_nonneg hpos]
  case rest =>
  obtain ⟨rfl, hwc⟩ := hcut
  subst wc
  go_wp2
  go_loopw [3, 4, 5, 6, 7] (fun i p _ _ _ wr => At w wr R (.slice a n cap) S n (listOf T N) m i p) (fun i _ _ _ _ _ => n - (intOf i).toNat)
  case atStart => exact ⟨m, _, _, _, _, _, hmn, rfl, rfl, HW.out, by rw [wayTo_start HW.out.made]; exact HH.out, Below.refl _ _⟩
  case round =>
    clear c0 HH HW HPr hmn
    obtain ⟨j, ns, id, c, vn, vm, hj, rfl, rfl, hwent, hp, hbel⟩ := hrel
    by_cases hlt : j < n
    · rcases hz with hz | ⟨g, rfl⟩
      · omega
      have hlt' : (j : Int) < (n : Int) := by omega
      have hway : (wayTo S id n j)[j]? = some ⟨(S j).k, (S j).i, (S j).n⟩ := by rw [wayTo_get _ _ hlt, if_neg (Nat.lt_irrefl _)]
      obtain ⟨d0, d1, d2, df⟩ := hp.step (wayTo_length _ _ _ _).symm hway
      have c0 := hp.c0
      have hlen : ns.length ≤ 131072 := by have := hwent.len; rw [listOf_length] at this; omega
      have hok : (⟨par id j, (S j).k, (S j).i⟩ : Nd).ok := by
        have h1 := HS.out j hlt
        refine ⟨?_, h1.1, h1.2⟩
        have := hwent.par
        exact wf_i32 (by show _ ≤ par id j; omega) (by show par id j ≤ _; omega)
      have hRl := hp.lt
      have HK := hide' hok
      have HWe := hide' hwent
      clear hok hwent
      go_wp2
      obtain ⟨w1, e1, hp1, hbel1, x0, x1, x2, xs, xg⟩ : ∃ w1, w1 = wr.alloc (.cells #[.int .i32 (par id j), .string (S j).k, .int .i64 (S j).i] 56) ∧ Pth w1 R (.slice (some ⟨g, 0, none⟩) n cap) vn vm (wayTo S id n j) ns ns ∧ Below R w w1
          ∧ w1.cell? ⟨wr.heap.size, 0, none⟩ = some (.int .i32 (par id j)) ∧ w1.cell? ⟨wr.heap.size, 1, none⟩ = some (.string (S j).k) ∧ w1.cell? ⟨wr.heap.size, 2, none⟩ = some (.int .i64 (S j).i) ∧ wr.heap.size < w1.heap.size ∧ (∀ b, vn.ownBlock = some b → b < wr.heap.size) :=
        ⟨_, rfl, hp.below ((Below.refl _ _).alloc (Nat.le_refl _) _), hbel.trans (((Below.refl _ _).alloc (Nat.le_refl _) _).mono (Nat.le_of_lt hRl)), cell_alloc _ _ _ _ (by simp), cell_alloc _ _ _ _ (by simp), cell_alloc _ _ _ _ (by simp), by simp, fun b hb => (hp.nds.lt b hb).2⟩
      rw [← e1]
      clear e1 hp hbel d0 d1 d2 df c0
      generalize hQ : wr.heap.size = q at *
      clear hQ
      obtain ⟨d, b, hrun, hb1, hb2⟩ := hp1.drew.look HK.out
      unfold Nd.val at hrun
      have c0 := hp1.c0
      have c2 := hp1.c2
      obtain ⟨d0, d1, d2, df⟩ := hp1.step (wayTo_length _ _ _ _).symm hway
      have f2 := df (j * 3 + 2)
      clear d0 d1 df
      cases b
      · have HX := hide' (hb2 rfl)
        clear hb1 hb2
        obtain ⟨r, rfl⟩ : ∃ r, vm = .map r := by
          rcases hp1.kn with ⟨h', _⟩ | ⟨B, D, h', _⟩
          · exact ⟨_, h'⟩
          · exact ⟨_, h'⟩
        have hnil := fun w (r : Option Nat) => run_eql_map_nil (P := Try.prog) w 50 56 21 r Try.underlying50
        go_region
        go_upto_if 74 with fail
        clear hnil hrun
        obtain ⟨w2, e2, hp2, hbel2, y0, y1, y2, ys⟩ : ∃ w2, w2 = w1.drew ∧ Pth w2 R (.slice (some ⟨g, 0, none⟩) n cap) vn (.map r) (wayTo S id n j) ns ns ∧ Below R w w2
          ∧ w2.cell? ⟨q, 0, none⟩ = some (.int .i32 (par id j)) ∧ w2.cell? ⟨q, 1, none⟩ = some (.string (S j).k) ∧ w2.cell? ⟨q, 2, none⟩ = some (.int .i64 (S j).i) ∧ q < w2.heap.size := ⟨_, rfl, hp1.drew, hbel1.drew, x0, x1, x2, xs⟩
        rw [← e2]
        clear e2 hp1 hbel1 x0 x1 x2 xs c0 c2 d2 f2
        go_cut [75] from 76 to 78 (fun _ wd => ∃ B, Pth wd R (.slice (some ⟨g, 0, none⟩) n cap) vn (.map (some B)) (wayTo S id n j) ns ns ∧ Below R w wd
          ∧ wd.cell? ⟨q, 0, none⟩ = some (.int .i32 (par id j)) ∧ wd.cell? ⟨q, 1, none⟩ = some (.string (S j).k) ∧ wd.cell? ⟨q, 2, none⟩ = some (.int .i64 (S j).i) ∧ q < wd.heap.size)
        case first =>
          cases r with
          | some B =>
            go_wp2
            go_meet
            case rel => exact ⟨B, hp2, hbel2, y0, y1, y2, ys⟩
          | none =>
            have c2 := hp2.c2
            have f2 := hp2.fz 2
            have hmk := fun w => run_makeMap (P := Try.prog) 50 w
            have hqR : q ≠ R := by omega
            have hRw := hp2.lt
            have R1 := hp2.freshMap
            have R2 := fun i => (World.cell?_of_block (w := w2) (a := ⟨q, i, none⟩) (blk_keep (w := w2) (R := R) (i := 2) (v := .map (some w2.heap.size)) (o := .map #[] 0) ys hqR))
            have R3 := ((hbel2.setCell (p := ⟨R, 2, none⟩) (Nat.le_refl _) (.map (some w2.heap.size))).alloc (by rw [setCell_size]; omega) (.map #[] 0))
            go_wp2
            go_meet
            case rel => exact ⟨_, R1, R3, (R2 0).trans y0, (R2 1).trans y1, (R2 2).trans y2, by rw [alloc_size, setCell_size]; omega⟩
        case rest =>
        clear hp2 hbel2 y0 y1 y2 ys
        obtain ⟨B, hp2, hbel2, y0, y1, y2, ys⟩ := hcut
        obtain ⟨av, capn, rfl, _⟩ := own_slice hp2.nds
        have c1 := hp2.c1
        have hlen' : (ns.length : Int) ≤ 131072 := by omega
        go_upto_region 15 with fail
        go_cut [85] from 86 to 94 (fun _ wd => ∃ vn', Pth wd R (.slice (some ⟨g, 0, none⟩) n cap) vn' (.map (some B)) (wayTo S id n j) (ns ++ [⟨par id j, (S j).k, (S j).i⟩]) ns ∧ Below R w wd
          ∧ wd.cell? ⟨q, 0, none⟩ = some (.int .i32 (par id j)) ∧ wd.cell? ⟨q, 1, none⟩ = some (.string (S j).k) ∧ wd.cell? ⟨q, 2, none⟩ = some (.int .i64 (S j).i) ∧ q < wd.heap.size)
        case first =>
          have hRw := hp2.lt
          have f1 := hp2.fz 1
          obtain ⟨i0, hi0, hz0, hs0, hb0⟩ := info_parts Try.info56
          have s1 := hide' (show ∀ j' u, [Value.int .i32 (par id j), .string (S j).k, .int .i64 (S j).i][j']? = some u → (wc.alloc (.cells #[.int .i32 (par id j), .string (S j).k, .int .i64 (S j).i] 56)).drew.cell? ((⟨wc.heap.size, 0, none⟩ : Addr).add j') = some u from fun j' u hu => cells_new _ _ _ hu)
          have s2 := hide' (show ∀ u ∈ [Value.int .i32 (par id j), .string (S j).k, .int .i64 (S j).i], u.oneCell' = true from by simp [Value.oneCell'])
          have hPA := hide' ((hp2.below ((Below.refl _ _).alloc (Nat.le_refl _) (.cells #[.int .i32 (par id j), .string (S j).k, .int .i64 (S j).i] 56))).drew)
          have HbW := hide' (show Below R w (wc.alloc (.cells #[.int .i32 (par id j), .string (S j).k, .int .i64 (S j).i] 56)).drew ∧ (wc.alloc (.cells #[.int .i32 (par id j), .string (S j).k, .int .i64 (S j).i] 56)).drew.cell? ⟨q, 0, none⟩ = some (.int .i32 (par id j)) ∧ (wc.alloc (.cells #[.int .i32 (par id j), .string (S j).k, .int .i64 (S j).i] 56)).drew.cell? ⟨q, 1, none⟩ = some (.string (S j).k) ∧ (wc.alloc (.cells #[.int .i32 (par id j), .string (S j).k, .int .i64 (S j).i] 56)).drew.cell? ⟨q, 2, none⟩ = some (.int .i64 (S j).i) from
            have hb : Below wc.heap.size wc (wc.alloc (.cells #[.int .i32 (par id j), .string (S j).k, .int .i64 (S j).i] 56)).drew := ((Below.refl _ _).alloc (Nat.le_refl _) _).drew
            ⟨hbel2.trans (hb.mono (Nat.le_of_lt hRw)), (hb.cell (p := ⟨q, 0, none⟩) ys).trans y0, (hb.cell (p := ⟨q, 1, none⟩) ys).trans y1, (hb.cell (p := ⟨q, 2, none⟩) ys).trans y2⟩)
          go_region_law (refine step_append_own rfl (.tmp 89) (.tmp 91) 49 rfl (R + 1) 56 i0 _ 3 32 Try.underlying49 hi0 hz0 hs0 hb0 rfl (by decide) (.slice av ns.length capn) ns.length (flat3 (ns.map Nd.tri)) (by simp [Act.eval]) hPA.out.nds ⟨wc.heap.size, 0, none⟩ 1 1 [.int .i32 (par id j), .string (S j).k, .int .i64 (S j).i] (by simp [Act.eval]) rfl s1.out s2.out (by unfold maxLen; omega) (by omega) hPA.out.lt ?_; intro v' w' hown' hgrow'; obtain ⟨⟨g', cap', rfl⟩, k1, k2, k3, k4, k5, k6⟩ := Pth.appended (x := ⟨par id j, (S j).k, (S j).i⟩) (q := q) hPA.out hown' hgrow' (by show q < (wc.alloc _).heap.size; rw [alloc_size]; omega) (by omega) xg)
          all_goals (go_wp2; go_meet; exact ⟨_, k3, HbW.out.1.trans k6, (k4 0).trans HbW.out.2.1, (k4 1).trans HbW.out.2.2.1, (k4 2).trans HbW.out.2.2.2, k5⟩)
        case rest =>
        clear hp2 hbel2 y0 y1 y2 ys c1
        obtain ⟨vn', hp2, hbel2, y0, y1, y2, ys⟩ := hcut
        obtain ⟨w4, hrun, hp4, hB, hg4⟩ := hp2.drew.know HK.out HX.out (by unfold maxLen; omega)
        unfold Nd.val at hrun
        have c2 := hp2.c2
        have c0 := hp4.c0
        obtain ⟨d0, d1, d2, df⟩ := hp4.step (wayTo_length _ _ _ _).symm hway
        have f2 := df (j * 3 + 2)
        have R1 := hp4.setNode' (wayTo_length _ _ _ _).symm j hway (ns.length : Int)
        rw [wayTo_set] at R1
        have R2 := HWe.out.new HX.out
        have hbg : R ≤ g := by have := (hp4.way.lt g rfl).1; omega
        have R3 := (hbel2.drew.grown hg4 (by have := hp2.lt; show R ≤ wc.heap.size; omega) (fun k hk => by cases hk; omega)).setCell (p := ⟨g, j * 3 + 2, none⟩) hbg (.int .i32 (ns.length : Int))
        clear d0 d1 df hp2 hbel2 hp4 hg4
        go_wp2
        go_region
        go_wp2
        go_roundw
        case rel => exact ⟨j + 1, _, _, _, _, _, by omega, by go_num, by rw [par_succ, upd_same], R2, R1, R3⟩
        case measure => simp [intOf]; omega
      · obtain ⟨i, hi, rfl⟩ := hb1 rfl
        clear hb1 hb2
        have R1 := (hp1.setNode' (wayTo_length _ _ _ _).symm j hway (i : Int)).drew
        rw [wayTo_set] at R1
        have R2 := HWe.out.found hi
        go_region
        go_wp2
        go_roundw
        case rel => exact ⟨j + 1, _, _, _, _, _, by omega, by go_num, by rw [par_succ, upd_same], R2, R1, (hbel1.setCell (p := ⟨g, j * 3 + 2, none⟩) (by have := (hp1.way.lt g rfl).1; show R ≤ g; omega) _).drew⟩
        case measure => simp [intOf]; omega
    · have hjn : j = n := by omega
      subst hjn
      have c0 := hp.c0
      go_wp2
      go_ret
      exact ⟨_, _, _, _, _, _, hwent, rfl, hp, hbel⟩

end Go.Proofs.Qxb6602959a.W
