import Derived.Test.Qxb6602557aG
namespace Go.Proofs.Qxb6602557a.W
open Go.RowKit
set_option linter.unusedVariables false

set_option maxRecDepth 100000 in
set_option maxHeartbeats 1000000 in
theorem grow_slice {w : World} {R b0 n k L cap : Nat} {av : Option Addr} {es : List Ent} (hb0 : b0 ≤ 61) (hnk : n + k ≤ 65536) (hL : L ≤ 524288) (hes : es.length = L) (hav : L = 0 ∨ ∃ g, av = some ⟨g, 0, none⟩) (h : Refs w R (b0 : Int) (n : Int) (.slice av L cap) es) :
    Calls Try.prog 36 #[.pointer (some ⟨R, 0, none⟩), .int .i64 (k : Int)] w (Grew w R b0 n k es) := by
  have hRw := h.lt
  have c0 := h.cell0
  have c1 := h.cell1
  have c2 := h.cell2
  go_enter Try.func36, Try.ntmps36
  go_wp2
  go_loopw [4] (fun t wr => ∃ b : Nat, t = .int .i64 b ∧ b0 ≤ b ∧ (b = b0 ∨ (b0 < b ∧ 3 * 2 ^ (b - 1) < 4 * (n + k))) ∧ Below w.heap.size w wr) (fun t _ => 100 - (intOf t).toNat)
  case atStart => exact ⟨b0, rfl, Nat.le_refl _, .inl rfl, Below.refl _ _⟩
  case round =>
    obtain ⟨b, rfl, hb1, hb2, hbel⟩ := hrel
    have hb3 : b ≤ 61 := by
      rcases hb2 with rfl | ⟨hb2, hb4⟩
      · exact hb0
      · by_cases hc : b ≤ 61
        · exact hc
        · have := P.pow_mono (show 61 ≤ b - 1 by omega)
          omega
    have HB : Hid (b = b0 ∨ (b0 < b ∧ 3 * 2 ^ (b - 1) < 4 * (n + k))) := hb2
    have z0 := (hbel.cell (p := ⟨R, 0, none⟩) h.lt).trans c0
    have z1 := (hbel.cell (p := ⟨R, 1, none⟩) h.lt).trans c1
    have z2 := (hbel.cell (p := ⟨R, 2, none⟩) h.lt).trans c2
    have hrefs := h.below hbel
    clear c0 c1 c2 hb2 h
    by_cases ht : 3 * 2 ^ b < 4 * (n + k)
    · have hw : wrap64 (3 * 2 ^ b) < 4 * ((n : Int) + (k : Int)) := by rw [shl3 hb3]; omega
      have HT : Hid (3 * 2 ^ b < 4 * (n + k)) := ht
      clear ht
      go_wp2
      go_quiet (fail)
      go_wp2
      go_roundw
      case rel => exact ⟨b + 1, by go_num, by omega, .inr ⟨by omega, HT.out⟩, below_drewN hbel _⟩
      case measure => simp [intOf]; omega
    have hw : 4 * ((n : Int) + (k : Int)) ≤ wrap64 (3 * 2 ^ b) := by rw [shl3 hb3]; omega
    have HL : Hid (P.Least b0 (4 * (n + k)) b) := ⟨hb1, by omega, HB.out⟩
    clear ht HB
    by_cases hbb : b = b0
    · subst hbb
      have hbe : ((b : Int) == (b : Int)) = true := by simp
      go_wp2
      go_quiet (fail)
      go_wp2
      go_end0
      exact ⟨b, _, rfl, HL.out, by rw [P.grown_same]; exact hrefs.below (below_drewN (Below.refl _ _) _), (below_drewN hbel _).mono (Nat.le_of_lt hRw)⟩
    · have hbe : ((b : Int) == (b0 : Int)) = false := by simp; omega
      have hN17 : b ≤ 17 := by
        rcases HL.out.bound (by omega) with h | h
        · omega
        · exact h
      obtain ⟨N, hN⟩ : ∃ N, N = 2 ^ b := ⟨_, rfl⟩
      have hshl : wrap64 (2 ^ b) = (N : Int) := by rw [hN]; exact shl1 hb3
      have hNb : N ≤ 131072 := by rw [hN]; exact P.pow_mono hN17
      have HN : Hid (N = 2 ^ b) := hN
      clear hN
      have hmk := make77 N (by omega)
      go_wp2
      go_quiet (fail)
      go_wp2
      have hrefq := hrefs.below (below_drewN (Below.refl _ _) nq)
      have hbelq := below_drewN hbel nq
      clear hrefs hbel z0 z1 z2
      generalize wr.drewN nq = wq at *
      have z0 := hrefq.cell0
      have z1 := hrefq.cell1
      have fr0 := hrefq.frozen 0
      have fr1 := hrefq.frozen 1
      have hRl := hrefq.lt
      go_region
      go_wp2
      have hstart := Mid.start (b := (b : Int)) (N := N) hrefq (by omega)
      clear hmk hshl z0 z1 fr0 fr1 hRl hw hbe
      go_loopw [6, 48] (fun t i wr => ∃ j : Nat, j ≤ L ∧ i = .int .i64 j ∧ t = .int .i64 ((At b N es j).2 : Nat) ∧ ∃ v, Mid wq R (b : Int) (n : Int) v (At b N es j).1 wr) (fun _ i _ => L - (intOf i).toNat)
      case atStart => exact ⟨0, Nat.zero_le _, rfl, rfl, _, hstart⟩
      case round =>
        clear hstart
        obtain ⟨j, hj, rfl, rfl, v, hmid⟩ := hrel
        have hinv := At_inv b hb3 es j
        rw [← HN.out] at hinv
        have HS : Hid (∀ (h : j < es.length), At b N es (j + 1) = P.step used (home b) (At b N es j) (entAt es j)) := At_succ b N es j
        generalize hAt : At b N es j = st at *
        obtain ⟨out, nx⟩ := st
        have HAt : Hid (At b N es j = (out, nx)) := hAt
        clear hAt
        obtain ⟨i1, i2, i3, _, _⟩ := hinv
        simp only at hmid i1 i2 i3
        have i4 : out.length ≤ N + j := Nat.le_trans i3 (by have := List.length_take_le j es; omega)
        have hNpos : 0 < N := by rw [HN.out]; exact Nat.two_pow_pos b
        obtain ⟨g', cap', hv, hg', hgl⟩ := hmid.shape (by omega)
        subst hv
        by_cases hlt : j < L
        · rcases hav with rfl | ⟨g, rfl⟩
          · omega
          have hrow := hrefq.row
          subst hes
          obtain ⟨x0, x1, x2, x3⟩ := hrefq.at j hlt
          have hne : some g ≠ some R := by intro e; simp at e; omega
          have y0 := hmid.grow.cell x0 hne
          have y1 := hmid.grow.cell x1 hne
          have y2 := hmid.grow.cell x2 hne
          have y3 := hmid.grow.cell x3 hne
          have sg : g < wr.heap.size := by have := hmid.grow.size; omega
          clear x0 x1 x2 x3 hne hrow
          generalize he : entAt es j = en at *
          have HE : Hid (entAt es j = en) := he
          clear he
          generalize hLe : es.length = L at *
          have HLe : Hid (es.length = L) := hLe
          clear hLe
          go_wp2_with fail
          refine (ref_any _ _ _ _).mono ?_
          rintro e w1 ⟨rfl, hb1⟩
          have ha : Below wr.heap.size wr (wr.alloc (.cells #[.int .u32 en.hi, .int .u32 en.mid, .int .u32 en.lo, .int .u32 en.set] 77)) := (Below.refl _ _).alloc (Nat.le_refl _) _
          have hmid1 := (hmid.below ha).below hb1
          obtain ⟨q0, q1, q2, q3⟩ := alloc4 wr (.int .u32 en.hi) (.int .u32 en.mid) (.int .u32 en.lo) (.int .u32 en.set)
          have p0 := (hb1.cell (p := ⟨wr.heap.size, 0, none⟩) (by simp)).trans q0
          have p1 := (hb1.cell (p := ⟨wr.heap.size, 1, none⟩) (by simp)).trans q1
          have p2 := (hb1.cell (p := ⟨wr.heap.size, 2, none⟩) (by simp)).trans q2
          have p3 := (hb1.cell (p := ⟨wr.heap.size, 3, none⟩) (by simp)).trans q3
          have hE1 : wr.heap.size < w1.heap.size := by have := hb1.size; simp at this; omega
          clear q0 q1 q2 q3 y0 y1 y2 y3 ha hb1
          by_cases hu : refF en.mid en.lo = 0
          · have hu' : (refF en.mid en.lo == 0) = true := by simp [hu]
            have HU : Hid (refF en.mid en.lo = 0) := hu
            clear hu
            go_wp2
            go_roundw
            case rel =>
              have e := (HS.out hlt).trans (step_unused HU.out)
              refine ⟨j + 1, by omega, by go_num, ?_, ?_⟩
              · rw [e]
              · rw [e]; exact ⟨_, hmid1⟩
            case measure => simp [intOf]; omega
          · have hu' : (refF en.mid en.lo == 0) = false := by simp [hu]
            have HU : Hid (¬ refF en.mid en.lo = 0) := hu
            clear hu
            go_wp2_with fail
            refine (pos_any _ _ _ _).mono ?_
            rintro e w2 ⟨rfl, hb2⟩
            have hmid2 := hmid1.below hb2
            have p0 := (hb2.cell (p := ⟨wr.heap.size, 0, none⟩) hE1).trans p0
            have p1 := (hb2.cell (p := ⟨wr.heap.size, 1, none⟩) hE1).trans p1
            have p2 := (hb2.cell (p := ⟨wr.heap.size, 2, none⟩) hE1).trans p2
            have p3 := (hb2.cell (p := ⟨wr.heap.size, 3, none⟩) hE1).trans p3
            have hE2 : wr.heap.size < w2.heap.size := by have := hb2.size; omega
            clear hmid1 hb2
            go_wp2_with fail
            refine (home_any R b _ _ hb3 (topF_range _ _).1 (topF_range _ _).2 hmid2.cell0).mono ?_
            rintro e w2' ⟨rfl, rfl⟩
            have hgl2 : g' < w2'.heap.size := by omega
            have hRl2 := hmid2.lt
            have hEg : wr.heap.size ≠ g' := by omega
            have hER : wr.heap.size ≠ R := by have := hmid.lt; omega
            have hhome : homeN b (topF en.hi en.mid) < N := by rw [HN.out]; exact home_lt b en hb3
            obtain ⟨i0, hi, hz0, hz1, hz2⟩ := info_parts Try.info77
            clear hmid
            generalize hhm : homeN b (topF en.hi en.mid) = hm at *
            have HHM : Hid (homeN b (topF en.hi en.mid) = hm) := hhm
            clear hhm
            rcases Nat.lt_or_ge hm nx with hmx | hmx
            · have hmx' : (hm : Int) < (nx : Int) := by omega
              by_cases hal : nx < out.length
              · have hal' : ((nx : Int) == (out.length : Int)) = false := by simp; omega
                have hal2 : (nx : Int) < (out.length : Int) := by omega
                have z1 := hmid2.cell1
                obtain ⟨r0, r1, r2, r3, k0, k1, k2, k3⟩ := hmid2.anyCells nx hal
                have f0 := hmid2.frozenRow (nx * 4)
                have f1 := hmid2.frozenRow (nx * 4 + 1)
                have f2 := hmid2.frozenRow (nx * 4 + 2)
                have f3 := hmid2.frozenRow (nx * 4 + 3)
                have R1 := (hmid2.put hg' nx en).drew
                have HSt : Hid (P.step used (home b) (out, nx) en = (out.set nx en, nx + 1)) := step_set HU.out (by rw [HHM.out]; omega) hal
                clear hmid2
                go_wp2_with fail
                go_region
                go_wp2
                go_roundw
                case rel =>
                  have e := (HS.out hlt).trans HSt.out
                  refine ⟨j + 1, by omega, by go_num, ?_, ?_⟩
                  · rw [e]; go_num
                  · rw [e]; exact ⟨_, R1⟩
                case measure => simp [intOf]; omega
              · have hal1 : nx = out.length := by omega
                have hal' : ((nx : Int) == (out.length : Int)) = true := by simp; omega
                have z1 := hmid2.cell1
                have HSt : Hid (P.step used (home b) (out, nx) en = ((out ++ [zeroEnt]).set nx en, nx + 1)) := step_add HU.out (by rw [HHM.out]; omega) hal1
                have HA : Hid (nx = out.length) := hal1
                clear hal1 hal
                go_wp2_with (first
                  | (at_builtin; refine wpList_append_own _ rfl _ _ 69 rfl wq.heap.size 77 i0 (.agg #[.int .u32 0, .int .u32 0, .int .u32 0, .int .u32 0]) 4 16 Try.underlying69 hi hz0 hz1 hz2 rfl (by decide) _ _ _ rfl (hmid2.own.alloc _) ⟨w2'.heap.size, 0, none⟩ 1 1 [.int .u32 0, .int .u32 0, .int .u32 0, .int .u32 0] rfl rfl (zero_cells _) (zero_one) (by unfold maxLen; omega) (by omega) (by have := hmid2.grow.size; simp; omega) ?_))
                intro v4 w3 hown3 hgrow3 _
                obtain ⟨g4, cap4, hv4, hg4⟩ := row_shape hown3
                subst hv4
                have hgrow3 : (w2'.alloc (.cells #[.int .u32 0, .int .u32 0, .int .u32 0, .int .u32 0] 77)).grownBy w3 (some g') := hgrow3
                have M4 := hmid2.appended hg' hown3 hgrow3
                have zz := hmid2.after hg' hgrow3
                have zc := zz.1
                have zf := zz.2.1
                have zl := zz.2.2
                have P0 := keep_cell (v' := .slice (some ⟨g4, 0, none⟩) (out.length + 1) cap4) hgrow3 hEg hER hE2 p0
                have P1 := keep_cell (v' := .slice (some ⟨g4, 0, none⟩) (out.length + 1) cap4) hgrow3 hEg hER hE2 p1
                have P2 := keep_cell (v' := .slice (some ⟨g4, 0, none⟩) (out.length + 1) cap4) hgrow3 hEg hER hE2 p2
                have P3 := keep_cell (v' := .slice (some ⟨g4, 0, none⟩) (out.length + 1) cap4) hgrow3 hEg hER hE2 p3
                clear hown3 hgrow3 zz z1 p0 p1 p2 p3 hmid2
                go_wp2_with fail
                clear zc zf zl
                generalize w3.setCell ⟨R, 1, none⟩ (.slice (some ⟨g4, 0, none⟩) (out.length + 1) cap4) = W4 at *
                have hlen : (out ++ [zeroEnt]).length = out.length + 1 := by simp
                generalize out ++ [zeroEnt] = out4 at *
                rw [← hlen] at M4
                have hA4 : nx < out4.length := by rw [hlen]; have := HA.out; omega
                have hA4' : (nx : Int) < (out.length : Int) + 1 := by have := HA.out; omega
                have z1 := M4.cell1
                rw [hlen] at z1
                obtain ⟨r0, r1, r2, r3, k0, k1, k2, k3⟩ := M4.anyCells nx hA4
                have f0 := M4.frozenRow (nx * 4)
                have f1 := M4.frozenRow (nx * 4 + 1)
                have f2 := M4.frozenRow (nx * 4 + 2)
                have f3 := M4.frozenRow (nx * 4 + 3)
                have R1 := (M4.put hg4 nx en).drew
                clear M4 hlen
                go_region
                go_wp2
                go_roundw
                case rel =>
                  have e := (HS.out hlt).trans HSt.out
                  refine ⟨j + 1, by omega, by go_num, ?_, ?_⟩
                  · rw [e]; go_num
                  · rw [e]; exact ⟨_, R1⟩
                case measure => simp [intOf]; omega
            · have hmx' : (nx : Int) ≤ (hm : Int) := by omega
              by_cases hal : hm < out.length
              · have hal' : ((hm : Int) == (out.length : Int)) = false := by simp; omega
                have hal2 : (hm : Int) < (out.length : Int) := by omega
                have z1 := hmid2.cell1
                obtain ⟨r0, r1, r2, r3, k0, k1, k2, k3⟩ := hmid2.anyCells hm hal
                have f0 := hmid2.frozenRow (hm * 4)
                have f1 := hmid2.frozenRow (hm * 4 + 1)
                have f2 := hmid2.frozenRow (hm * 4 + 2)
                have f3 := hmid2.frozenRow (hm * 4 + 3)
                have R1 := (hmid2.put hg' hm en).drew
                have HSt : Hid (P.step used (home b) (out, nx) en = (out.set hm en, hm + 1)) := step_set HU.out (by rw [HHM.out]; omega) hal
                clear hmid2
                go_wp2_with fail
                go_region
                go_wp2
                go_roundw
                case rel =>
                  have e := (HS.out hlt).trans HSt.out
                  refine ⟨j + 1, by omega, by go_num, ?_, ?_⟩
                  · rw [e]; go_num
                  · rw [e]; exact ⟨_, R1⟩
                case measure => simp [intOf]; omega
              · have hal1 : hm = out.length := by omega
                have hal' : ((hm : Int) == (out.length : Int)) = true := by simp; omega
                have z1 := hmid2.cell1
                have HSt : Hid (P.step used (home b) (out, nx) en = ((out ++ [zeroEnt]).set hm en, hm + 1)) := step_add HU.out (by rw [HHM.out]; omega) hal1
                have HA : Hid (hm = out.length) := hal1
                clear hal1 hal
                go_wp2_with (first
                  | (at_builtin; refine wpList_append_own _ rfl _ _ 69 rfl wq.heap.size 77 i0 (.agg #[.int .u32 0, .int .u32 0, .int .u32 0, .int .u32 0]) 4 16 Try.underlying69 hi hz0 hz1 hz2 rfl (by decide) _ _ _ rfl (hmid2.own.alloc _) ⟨w2'.heap.size, 0, none⟩ 1 1 [.int .u32 0, .int .u32 0, .int .u32 0, .int .u32 0] rfl rfl (zero_cells _) (zero_one) (by unfold maxLen; omega) (by omega) (by have := hmid2.grow.size; simp; omega) ?_))
                intro v4 w3 hown3 hgrow3 _
                obtain ⟨g4, cap4, hv4, hg4⟩ := row_shape hown3
                subst hv4
                have hgrow3 : (w2'.alloc (.cells #[.int .u32 0, .int .u32 0, .int .u32 0, .int .u32 0] 77)).grownBy w3 (some g') := hgrow3
                have M4 := hmid2.appended hg' hown3 hgrow3
                have zz := hmid2.after hg' hgrow3
                have zc := zz.1
                have zf := zz.2.1
                have zl := zz.2.2
                have P0 := keep_cell (v' := .slice (some ⟨g4, 0, none⟩) (out.length + 1) cap4) hgrow3 hEg hER hE2 p0
                have P1 := keep_cell (v' := .slice (some ⟨g4, 0, none⟩) (out.length + 1) cap4) hgrow3 hEg hER hE2 p1
                have P2 := keep_cell (v' := .slice (some ⟨g4, 0, none⟩) (out.length + 1) cap4) hgrow3 hEg hER hE2 p2
                have P3 := keep_cell (v' := .slice (some ⟨g4, 0, none⟩) (out.length + 1) cap4) hgrow3 hEg hER hE2 p3
                clear hown3 hgrow3 zz z1 p0 p1 p2 p3 hmid2
                go_wp2_with fail
                clear zc zf zl
                generalize w3.setCell ⟨R, 1, none⟩ (.slice (some ⟨g4, 0, none⟩) (out.length + 1) cap4) = W4 at *
                have hlen : (out ++ [zeroEnt]).length = out.length + 1 := by simp
                generalize out ++ [zeroEnt] = out4 at *
                rw [← hlen] at M4
                have hA4 : hm < out4.length := by rw [hlen]; have := HA.out; omega
                have hA4' : (hm : Int) < (out.length : Int) + 1 := by have := HA.out; omega
                have z1 := M4.cell1
                rw [hlen] at z1
                obtain ⟨r0, r1, r2, r3, k0, k1, k2, k3⟩ := M4.anyCells hm hA4
                have f0 := M4.frozenRow (hm * 4)
                have f1 := M4.frozenRow (hm * 4 + 1)
                have f2 := M4.frozenRow (hm * 4 + 2)
                have f3 := M4.frozenRow (hm * 4 + 3)
                have R1 := (M4.put hg4 hm en).drew
                clear M4 hlen
                go_region
                go_wp2
                go_roundw
                case rel =>
                  have e := (HS.out hlt).trans HSt.out
                  refine ⟨j + 1, by omega, by go_num, ?_, ?_⟩
                  · rw [e]; go_num
                  · rw [e]; exact ⟨_, R1⟩
                case measure => simp [intOf]; omega
        · have hjL : j = es.length := by omega
          have hout : P.grown used home zeroEnt b0 b es = out := grown_at hbb HN.out (hjL ▸ HAt.out)
          have hdone := hmid.done hbelq hRw
          rw [← hout] at hdone
          have HD := hide' hdone
          clear hdone hout hmid
          go_wp2
          go_end0
          exact ⟨b, _, rfl, HL.out, HD.out.1, HD.out.2⟩

end Go.Proofs.Qxb6602557a.W
