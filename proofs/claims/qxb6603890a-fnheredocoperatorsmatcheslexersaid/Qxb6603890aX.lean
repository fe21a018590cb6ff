import Derived.Test.Qxb6603890aW
namespace Go.Proofs.Qxb6603890a.W
open Go.RowKit
set_option linter.unusedVariables false

theorem plain_yes {s : ByteArray} {f k : Nat} (hf : k = f ∨ lt s (k - 1) = false) (he : esc s k = true) : P.plain (lt s) (esc s) f k = true := by
  unfold P.plain
  rw [he]
  rcases hf with h | h
  · simp [h]
  · simp [h]
theorem plain_no {s : ByteArray} {f k : Nat} (he : esc s k = false) : P.plain (lt s) (esc s) f k = false := by
  unfold P.plain
  rw [he]
  simp
theorem plain_in {s : ByteArray} {f k : Nat} (h : ¬ k = f) (hl : lt s (k - 1) = true) : P.plain (lt s) (esc s) f k = false := by
  unfold P.plain
  have : (k == f) = false := by simp; exact h
  rw [hl, this]
  rfl

set_option maxRecDepth 100000 in
set_option maxHeartbeats 4000000 in
theorem lexer_any (s : ByteArray) (f : Nat) (w : World) (hs : s.size ≤ 1048576) (hf : f ≤ 9223372036854775807) : Calls Try.prog 6 #[.string s, .int .i64 (f : Int)] w (Reads w (lex s f f)) := by
  obtain ⟨i0, hi, hz0, hz1, hz2⟩ := info_parts Try.info3
  go_enter Try.func6, Try.ntmps6
  go_wp2
  go_loopw [5, 7] (fun v i wr => ∃ (k : Nat) (acc : List Nat), i = .int .i64 k ∧ f ≤ k ∧ acc.length ≤ k ∧ acc ++ lex s f k = lex s f f ∧ Holds w wr v acc) (fun _ i _ => s.size - (intOf i).toNat)
  case atStart => exact ⟨f, [], rfl, Nat.le_refl _, Nat.zero_le _, rfl, Holds.start w⟩
  case round =>
    obtain ⟨k, acc, rfl, hk, hacc, hl, hh⟩ := hrel
    have HL := hide' hl
    clear hl
    by_cases hlt : k < s.size
    · cases ht : lt s k
      · have hx := nlt_f hlt ht
        have HT := hide' ht
        clear ht
        go_wp2
        go_roundw
        case rel => exact ⟨k + 1, acc, by go_num, by omega, by omega, by rw [← HL.out]; exact congrArg (acc ++ ·) (P.lex_skip _ _ _ _ HT.out).symm, hh⟩
        case measure => simp [intOf]; omega
      · have hx := nlt_t hlt ht
        have HT := hide' ht
        clear ht
        by_cases hkf : k = f
        · have hkf' : ((k : Int) == (f : Int)) = true := by rw [beq_iff_eq]; omega
          have HF : Hid (k = f ∨ lt s (k - 1) = false) := .inl hkf
          clear hkf
          go_wp2
          go_loop [8, 9] (fun t j => ∃ p sl : Nat, j = .int .i64 ((p : Int) - 1) ∧ t = .int .i64 sl ∧ sl + p = k ∧ bs s k = sl + bs s p) (fun _ j => (intOf j + 1).toNat)
          case atStart => exact ⟨k, 0, rfl, rfl, by omega, by omega⟩
          case round =>
            obtain ⟨p, sl, rfl, rfl, hsp, hbs⟩ := hrel
            have HBS := hide' hbs
            clear hbs
            cases p with
            | zero =>
              have HB : Hid (bs s k = sl) := HBS.out
              clear HBS
              have dj : decide ((0 : Int) ≤ ((0 : Nat) : Int) - 1) = false := decide_eq_false (by omega)
              by_cases hodd : sl % 2 = 1
              · have hpar : ((sl : Int) % 2 == 1) = true := by rw [beq_iff_eq]; omega
                have HE : Hid (esc s k = true) := hide' (by unfold esc; rw [HB.out, hodd]; rfl)
                clear hodd
                go_wp2
                go_roundw
                case rel => exact ⟨k + 1, acc, by go_num, by omega, by omega, by rw [← HL.out]; exact congrArg (acc ++ ·) (P.lex_plain _ _ _ _ hlt HT.out (plain_yes HF.out HE.out)).symm, hh⟩
                case measure => simp [intOf]; omega
              · have hpar : ((sl : Int) % 2 == 1) = false := by rw [beq_eq_false_iff_ne]; omega
                have HE : Hid (esc s k = false) := hide' (by unfold esc; rw [HB.out]; rw [beq_eq_false_iff_ne]; exact hodd)
                clear hodd
                by_cases e1 : k + 1 < s.size
                · cases t1 : lt s (k + 1)
                  · have b1 := lt_in e1
                    rw [t1] at b1
                    by_cases e2 : k + 2 < s.size
                    · have d2 : (k : Int) + 2 < (s.size : Int) := by omega
                      have d1 : (k : Int) + 1 < (s.size : Int) := by omega
                      have HT1 := hide' t1
                      clear t1
                      go_wp2
                      go_roundw
                      case rel => exact ⟨k + 1, acc, by go_num, by omega, by omega, by rw [← HL.out]; exact congrArg (acc ++ ·) (P.lex_one _ _ _ _ hlt HT.out (plain_no HE.out) HT1.out).symm, hh⟩
                      case measure => simp [intOf]; omega
                    · have d2 : decide ((k : Int) + 2 < (s.size : Int)) = false := decide_eq_false (by omega)
                      have d1 : (k : Int) + 1 < (s.size : Int) := by omega
                      have HT1 := hide' t1
                      clear t1
                      go_wp2
                      go_roundw
                      case rel => exact ⟨k + 1, acc, by go_num, by omega, by omega, by rw [← HL.out]; exact congrArg (acc ++ ·) (P.lex_one _ _ _ _ hlt HT.out (plain_no HE.out) HT1.out).symm, hh⟩
                      case measure => simp [intOf]; omega
                  · have b1 := lt_in e1
                    rw [t1] at b1
                    by_cases e2 : k + 2 < s.size
                    · cases t2 : lt s (k + 2)
                      · have b2 := lt_in e2
                        rw [t2] at b2
                        have d2 : (k : Int) + 2 < (s.size : Int) := by omega
                        have d1 : (k : Int) + 1 < (s.size : Int) := by omega
                        have HT1 := hide' t1
                        have HT2 := hide' t2
                        clear t1 t2
                        go_wp2_with (at_builtin; refine wpList_append_own _ rfl _ _ 23 rfl w.heap.size 3 i0 (.int .i64 0) 1 8 Try.underlying23 hi hz0 hz1 hz2 rfl (by decide) _ _ _ rfl (hh.own.alloc _) ⟨wr.heap.size, 0, none⟩ 1 1 [.int .i64 (k : Int)] rfl rfl (cell_one_new _ _ _) (one_cell _) (by unfold maxLen; omega) (by omega) (by have := hh.bel.size; simp; omega) ?_)
                        intro v1 w1 hown1 hgrow1 _
                        have R := hh.append hown1 hgrow1
                        clear hown1 hgrow1 hh
                        go_wp2
                        go_roundw
                        case rel => exact ⟨k + 2, acc ++ [k], by go_num, by omega, by simp; omega, by rw [← HL.out, List.append_assoc]; exact congrArg (acc ++ ·) (P.lex_two _ _ _ _ hlt HT.out (plain_no HE.out) HT1.out HT2.out).symm, R⟩
                        case measure => simp [intOf]; omega
                      · have b2 := lt_in e2
                        rw [t2] at b2
                        have d2 : (k : Int) + 2 < (s.size : Int) := by omega
                        have d1 : (k : Int) + 1 < (s.size : Int) := by omega
                        have HT1 := hide' t1
                        have HT2 := hide' t2
                        clear t1 t2
                        go_wp2
                        go_roundw
                        case rel => exact ⟨k + 3, acc, by go_num, by omega, by omega, by rw [← HL.out]; exact congrArg (acc ++ ·) (P.lex_three _ _ _ _ hlt HT.out (plain_no HE.out) HT1.out HT2.out).symm, hh⟩
                        case measure => simp [intOf]; omega
                    · have t2 := lt_out e2
                      have d2 : decide ((k : Int) + 2 < (s.size : Int)) = false := decide_eq_false (by omega)
                      have d1 : (k : Int) + 1 < (s.size : Int) := by omega
                      have HT1 := hide' t1
                      have HT2 := hide' t2
                      clear t1 t2
                      go_wp2_with (at_builtin; refine wpList_append_own _ rfl _ _ 23 rfl w.heap.size 3 i0 (.int .i64 0) 1 8 Try.underlying23 hi hz0 hz1 hz2 rfl (by decide) _ _ _ rfl (hh.own.alloc _) ⟨wr.heap.size, 0, none⟩ 1 1 [.int .i64 (k : Int)] rfl rfl (cell_one_new _ _ _) (one_cell _) (by unfold maxLen; omega) (by omega) (by have := hh.bel.size; simp; omega) ?_)
                      intro v1 w1 hown1 hgrow1 _
                      have R := hh.append hown1 hgrow1
                      clear hown1 hgrow1 hh
                      go_wp2
                      go_roundw
                      case rel => exact ⟨k + 2, acc ++ [k], by go_num, by omega, by simp; omega, by rw [← HL.out, List.append_assoc]; exact congrArg (acc ++ ·) (P.lex_two _ _ _ _ hlt HT.out (plain_no HE.out) HT1.out HT2.out).symm, R⟩
                      case measure => simp [intOf]; omega
                · have t1 := lt_out e1
                  have d2 : decide ((k : Int) + 2 < (s.size : Int)) = false := decide_eq_false (by omega)
                  have d1 : decide ((k : Int) + 1 < (s.size : Int)) = false := decide_eq_false (by omega)
                  have HT1 := hide' t1
                  clear t1
                  go_wp2
                  go_roundw
                  case rel => exact ⟨k + 1, acc, by go_num, by omega, by omega, by rw [← HL.out]; exact congrArg (acc ++ ·) (P.lex_one _ _ _ _ hlt HT.out (plain_no HE.out) HT1.out).symm, hh⟩
                  case measure => simp [intOf]; omega
            | succ q =>
              have hq : q < s.size := by omega
              have hq' : (0 : Int) ≤ ((q + 1 : Nat) : Int) - 1 := by omega
              cases hb : byteAt s q == 92
              · have hx := back_in hq
                rw [hb] at hx
                have HB : Hid (bs s k = sl) := hide' (by have := HBS.out; rw [bs_miss hb] at this; exact this)
                clear HBS hb
                by_cases hodd : sl % 2 = 1
                · have hpar : ((sl : Int) % 2 == 1) = true := by rw [beq_iff_eq]; omega
                  have HE : Hid (esc s k = true) := hide' (by unfold esc; rw [HB.out, hodd]; rfl)
                  clear hodd
                  go_wp2
                  go_roundw
                  case rel => exact ⟨k + 1, acc, by go_num, by omega, by omega, by rw [← HL.out]; exact congrArg (acc ++ ·) (P.lex_plain _ _ _ _ hlt HT.out (plain_yes HF.out HE.out)).symm, hh⟩
                  case measure => simp [intOf]; omega
                · have hpar : ((sl : Int) % 2 == 1) = false := by rw [beq_eq_false_iff_ne]; omega
                  have HE : Hid (esc s k = false) := hide' (by unfold esc; rw [HB.out]; rw [beq_eq_false_iff_ne]; exact hodd)
                  clear hodd
                  by_cases e1 : k + 1 < s.size
                  · cases t1 : lt s (k + 1)
                    · have b1 := lt_in e1
                      rw [t1] at b1
                      by_cases e2 : k + 2 < s.size
                      · have d2 : (k : Int) + 2 < (s.size : Int) := by omega
                        have d1 : (k : Int) + 1 < (s.size : Int) := by omega
                        have HT1 := hide' t1
                        clear t1
                        go_wp2
                        go_roundw
                        case rel => exact ⟨k + 1, acc, by go_num, by omega, by omega, by rw [← HL.out]; exact congrArg (acc ++ ·) (P.lex_one _ _ _ _ hlt HT.out (plain_no HE.out) HT1.out).symm, hh⟩
                        case measure => simp [intOf]; omega
                      · have d2 : decide ((k : Int) + 2 < (s.size : Int)) = false := decide_eq_false (by omega)
                        have d1 : (k : Int) + 1 < (s.size : Int) := by omega
                        have HT1 := hide' t1
                        clear t1
                        go_wp2
                        go_roundw
                        case rel => exact ⟨k + 1, acc, by go_num, by omega, by omega, by rw [← HL.out]; exact congrArg (acc ++ ·) (P.lex_one _ _ _ _ hlt HT.out (plain_no HE.out) HT1.out).symm, hh⟩
                        case measure => simp [intOf]; omega
                    · have b1 := lt_in e1
                      rw [t1] at b1
                      by_cases e2 : k + 2 < s.size
                      · cases t2 : lt s (k + 2)
                        · have b2 := lt_in e2
                          rw [t2] at b2
                          have d2 : (k : Int) + 2 < (s.size : Int) := by omega
                          have d1 : (k : Int) + 1 < (s.size : Int) := by omega
                          have HT1 := hide' t1
                          have HT2 := hide' t2
                          clear t1 t2
                          go_wp2_with (at_builtin; refine wpList_append_own _ rfl _ _ 23 rfl w.heap.size 3 i0 (.int .i64 0) 1 8 Try.underlying23 hi hz0 hz1 hz2 rfl (by decide) _ _ _ rfl (hh.own.alloc _) ⟨wr.heap.size, 0, none⟩ 1 1 [.int .i64 (k : Int)] rfl rfl (cell_one_new _ _ _) (one_cell _) (by unfold maxLen; omega) (by omega) (by have := hh.bel.size; simp; omega) ?_)
                          intro v1 w1 hown1 hgrow1 _
                          have R := hh.append hown1 hgrow1
                          clear hown1 hgrow1 hh
                          go_wp2
                          go_roundw
                          case rel => exact ⟨k + 2, acc ++ [k], by go_num, by omega, by simp; omega, by rw [← HL.out, List.append_assoc]; exact congrArg (acc ++ ·) (P.lex_two _ _ _ _ hlt HT.out (plain_no HE.out) HT1.out HT2.out).symm, R⟩
                          case measure => simp [intOf]; omega
                        · have b2 := lt_in e2
                          rw [t2] at b2
                          have d2 : (k : Int) + 2 < (s.size : Int) := by omega
                          have d1 : (k : Int) + 1 < (s.size : Int) := by omega
                          have HT1 := hide' t1
                          have HT2 := hide' t2
                          clear t1 t2
                          go_wp2
                          go_roundw
                          case rel => exact ⟨k + 3, acc, by go_num, by omega, by omega, by rw [← HL.out]; exact congrArg (acc ++ ·) (P.lex_three _ _ _ _ hlt HT.out (plain_no HE.out) HT1.out HT2.out).symm, hh⟩
                          case measure => simp [intOf]; omega
                      · have t2 := lt_out e2
                        have d2 : decide ((k : Int) + 2 < (s.size : Int)) = false := decide_eq_false (by omega)
                        have d1 : (k : Int) + 1 < (s.size : Int) := by omega
                        have HT1 := hide' t1
                        have HT2 := hide' t2
                        clear t1 t2
                        go_wp2_with (at_builtin; refine wpList_append_own _ rfl _ _ 23 rfl w.heap.size 3 i0 (.int .i64 0) 1 8 Try.underlying23 hi hz0 hz1 hz2 rfl (by decide) _ _ _ rfl (hh.own.alloc _) ⟨wr.heap.size, 0, none⟩ 1 1 [.int .i64 (k : Int)] rfl rfl (cell_one_new _ _ _) (one_cell _) (by unfold maxLen; omega) (by omega) (by have := hh.bel.size; simp; omega) ?_)
                        intro v1 w1 hown1 hgrow1 _
                        have R := hh.append hown1 hgrow1
                        clear hown1 hgrow1 hh
                        go_wp2
                        go_roundw
                        case rel => exact ⟨k + 2, acc ++ [k], by go_num, by omega, by simp; omega, by rw [← HL.out, List.append_assoc]; exact congrArg (acc ++ ·) (P.lex_two _ _ _ _ hlt HT.out (plain_no HE.out) HT1.out HT2.out).symm, R⟩
                        case measure => simp [intOf]; omega
                  · have t1 := lt_out e1
                    have d2 : decide ((k : Int) + 2 < (s.size : Int)) = false := decide_eq_false (by omega)
                    have d1 : decide ((k : Int) + 1 < (s.size : Int)) = false := decide_eq_false (by omega)
                    have HT1 := hide' t1
                    clear t1
                    go_wp2
                    go_roundw
                    case rel => exact ⟨k + 1, acc, by go_num, by omega, by omega, by rw [← HL.out]; exact congrArg (acc ++ ·) (P.lex_one _ _ _ _ hlt HT.out (plain_no HE.out) HT1.out).symm, hh⟩
                    case measure => simp [intOf]; omega
              · have hx := back_in hq
                rw [hb] at hx
                have HB : Hid (bs s k = sl + 1 + bs s q) := hide' (by have := HBS.out; rw [bs_hit hb] at this; omega)
                clear HBS hb
                go_wp2
                go_round
                case rel => exact ⟨q, sl + 1, by go_num, by go_num, by omega, HB.out⟩
                case measure => simp [intOf]
        · have hkf' : ((k : Int) == (f : Int)) = false := by rw [beq_eq_false_iff_ne]; omega
          have hk1 : 1 ≤ k := by omega
          have hk1' : (1 : Int) ≤ (k : Int) := by omega
          have hkm : k - 1 < s.size := by omega
          have hkm' : (k : Int) - 1 < (s.size : Int) := by omega
          cases hpv : lt s (k - 1)
          · have hy := nlt_f hkm hpv
            have HF : Hid (k = f ∨ lt s (k - 1) = false) := .inr hpv
            clear hpv hkf
            go_wp2
            go_loop [8, 9] (fun t j => ∃ p sl : Nat, j = .int .i64 ((p : Int) - 1) ∧ t = .int .i64 sl ∧ sl + p = k ∧ bs s k = sl + bs s p) (fun _ j => (intOf j + 1).toNat)
            case atStart => exact ⟨k, 0, rfl, rfl, by omega, by omega⟩
            case round =>
              obtain ⟨p, sl, rfl, rfl, hsp, hbs⟩ := hrel
              have HBS := hide' hbs
              clear hbs
              cases p with
              | zero =>
                have HB : Hid (bs s k = sl) := HBS.out
                clear HBS
                have dj : decide ((0 : Int) ≤ ((0 : Nat) : Int) - 1) = false := decide_eq_false (by omega)
                by_cases hodd : sl % 2 = 1
                · have hpar : ((sl : Int) % 2 == 1) = true := by rw [beq_iff_eq]; omega
                  have HE : Hid (esc s k = true) := hide' (by unfold esc; rw [HB.out, hodd]; rfl)
                  clear hodd
                  go_wp2
                  go_roundw
                  case rel => exact ⟨k + 1, acc, by go_num, by omega, by omega, by rw [← HL.out]; exact congrArg (acc ++ ·) (P.lex_plain _ _ _ _ hlt HT.out (plain_yes HF.out HE.out)).symm, hh⟩
                  case measure => simp [intOf]; omega
                · have hpar : ((sl : Int) % 2 == 1) = false := by rw [beq_eq_false_iff_ne]; omega
                  have HE : Hid (esc s k = false) := hide' (by unfold esc; rw [HB.out]; rw [beq_eq_false_iff_ne]; exact hodd)
                  clear hodd
                  by_cases e1 : k + 1 < s.size
                  · cases t1 : lt s (k + 1)
                    · have b1 := lt_in e1
                      rw [t1] at b1
                      by_cases e2 : k + 2 < s.size
                      · have d2 : (k : Int) + 2 < (s.size : Int) := by omega
                        have d1 : (k : Int) + 1 < (s.size : Int) := by omega
                        have HT1 := hide' t1
                        clear t1
                        go_wp2
                        go_roundw
                        case rel => exact ⟨k + 1, acc, by go_num, by omega, by omega, by rw [← HL.out]; exact congrArg (acc ++ ·) (P.lex_one _ _ _ _ hlt HT.out (plain_no HE.out) HT1.out).symm, hh⟩
                        case measure => simp [intOf]; omega
                      · have d2 : decide ((k : Int) + 2 < (s.size : Int)) = false := decide_eq_false (by omega)
                        have d1 : (k : Int) + 1 < (s.size : Int) := by omega
                        have HT1 := hide' t1
                        clear t1
                        go_wp2
                        go_roundw
                        case rel => exact ⟨k + 1, acc, by go_num, by omega, by omega, by rw [← HL.out]; exact congrArg (acc ++ ·) (P.lex_one _ _ _ _ hlt HT.out (plain_no HE.out) HT1.out).symm, hh⟩
                        case measure => simp [intOf]; omega
                    · have b1 := lt_in e1
                      rw [t1] at b1
                      by_cases e2 : k + 2 < s.size
                      · cases t2 : lt s (k + 2)
                        · have b2 := lt_in e2
                          rw [t2] at b2
                          have d2 : (k : Int) + 2 < (s.size : Int) := by omega
                          have d1 : (k : Int) + 1 < (s.size : Int) := by omega
                          have HT1 := hide' t1
                          have HT2 := hide' t2
                          clear t1 t2
                          go_wp2_with (at_builtin; refine wpList_append_own _ rfl _ _ 23 rfl w.heap.size 3 i0 (.int .i64 0) 1 8 Try.underlying23 hi hz0 hz1 hz2 rfl (by decide) _ _ _ rfl (hh.own.alloc _) ⟨wr.heap.size, 0, none⟩ 1 1 [.int .i64 (k : Int)] rfl rfl (cell_one_new _ _ _) (one_cell _) (by unfold maxLen; omega) (by omega) (by have := hh.bel.size; simp; omega) ?_)
                          intro v1 w1 hown1 hgrow1 _
                          have R := hh.append hown1 hgrow1
                          clear hown1 hgrow1 hh
                          go_wp2
                          go_roundw
                          case rel => exact ⟨k + 2, acc ++ [k], by go_num, by omega, by simp; omega, by rw [← HL.out, List.append_assoc]; exact congrArg (acc ++ ·) (P.lex_two _ _ _ _ hlt HT.out (plain_no HE.out) HT1.out HT2.out).symm, R⟩
                          case measure => simp [intOf]; omega
                        · have b2 := lt_in e2
                          rw [t2] at b2
                          have d2 : (k : Int) + 2 < (s.size : Int) := by omega
                          have d1 : (k : Int) + 1 < (s.size : Int) := by omega
                          have HT1 := hide' t1
                          have HT2 := hide' t2
                          clear t1 t2
                          go_wp2
                          go_roundw
                          case rel => exact ⟨k + 3, acc, by go_num, by omega, by omega, by rw [← HL.out]; exact congrArg (acc ++ ·) (P.lex_three _ _ _ _ hlt HT.out (plain_no HE.out) HT1.out HT2.out).symm, hh⟩
                          case measure => simp [intOf]; omega
                      · have t2 := lt_out e2
                        have d2 : decide ((k : Int) + 2 < (s.size : Int)) = false := decide_eq_false (by omega)
                        have d1 : (k : Int) + 1 < (s.size : Int) := by omega
                        have HT1 := hide' t1
                        have HT2 := hide' t2
                        clear t1 t2
                        go_wp2_with (at_builtin; refine wpList_append_own _ rfl _ _ 23 rfl w.heap.size 3 i0 (.int .i64 0) 1 8 Try.underlying23 hi hz0 hz1 hz2 rfl (by decide) _ _ _ rfl (hh.own.alloc _) ⟨wr.heap.size, 0, none⟩ 1 1 [.int .i64 (k : Int)] rfl rfl (cell_one_new _ _ _) (one_cell _) (by unfold maxLen; omega) (by omega) (by have := hh.bel.size; simp; omega) ?_)
                        intro v1 w1 hown1 hgrow1 _
                        have R := hh.append hown1 hgrow1
                        clear hown1 hgrow1 hh
                        go_wp2
                        go_roundw
                        case rel => exact ⟨k + 2, acc ++ [k], by go_num, by omega, by simp; omega, by rw [← HL.out, List.append_assoc]; exact congrArg (acc ++ ·) (P.lex_two _ _ _ _ hlt HT.out (plain_no HE.out) HT1.out HT2.out).symm, R⟩
                        case measure => simp [intOf]; omega
                  · have t1 := lt_out e1
                    have d2 : decide ((k : Int) + 2 < (s.size : Int)) = false := decide_eq_false (by omega)
                    have d1 : decide ((k : Int) + 1 < (s.size : Int)) = false := decide_eq_false (by omega)
                    have HT1 := hide' t1
                    clear t1
                    go_wp2
                    go_roundw
                    case rel => exact ⟨k + 1, acc, by go_num, by omega, by omega, by rw [← HL.out]; exact congrArg (acc ++ ·) (P.lex_one _ _ _ _ hlt HT.out (plain_no HE.out) HT1.out).symm, hh⟩
                    case measure => simp [intOf]; omega
              | succ q =>
                have hq : q < s.size := by omega
                have hq' : (0 : Int) ≤ ((q + 1 : Nat) : Int) - 1 := by omega
                cases hb : byteAt s q == 92
                · have hx := back_in hq
                  rw [hb] at hx
                  have HB : Hid (bs s k = sl) := hide' (by have := HBS.out; rw [bs_miss hb] at this; exact this)
                  clear HBS hb
                  by_cases hodd : sl % 2 = 1
                  · have hpar : ((sl : Int) % 2 == 1) = true := by rw [beq_iff_eq]; omega
                    have HE : Hid (esc s k = true) := hide' (by unfold esc; rw [HB.out, hodd]; rfl)
                    clear hodd
                    go_wp2
                    go_roundw
                    case rel => exact ⟨k + 1, acc, by go_num, by omega, by omega, by rw [← HL.out]; exact congrArg (acc ++ ·) (P.lex_plain _ _ _ _ hlt HT.out (plain_yes HF.out HE.out)).symm, hh⟩
                    case measure => simp [intOf]; omega
                  · have hpar : ((sl : Int) % 2 == 1) = false := by rw [beq_eq_false_iff_ne]; omega
                    have HE : Hid (esc s k = false) := hide' (by unfold esc; rw [HB.out]; rw [beq_eq_false_iff_ne]; exact hodd)
                    clear hodd
                    by_cases e1 : k + 1 < s.size
                    · cases t1 : lt s (k + 1)
                      · have b1 := lt_in e1
                        rw [t1] at b1
                        by_cases e2 : k + 2 < s.size
                        · have d2 : (k : Int) + 2 < (s.size : Int) := by omega
                          have d1 : (k : Int) + 1 < (s.size : Int) := by omega
                          have HT1 := hide' t1
                          clear t1
                          go_wp2
                          go_roundw
                          case rel => exact ⟨k + 1, acc, by go_num, by omega, by omega, by rw [← HL.out]; exact congrArg (acc ++ ·) (P.lex_one _ _ _ _ hlt HT.out (plain_no HE.out) HT1.out).symm, hh⟩
                          case measure => simp [intOf]; omega
                        · have d2 : decide ((k : Int) + 2 < (s.size : Int)) = false := decide_eq_false (by omega)
                          have d1 : (k : Int) + 1 < (s.size : Int) := by omega
                          have HT1 := hide' t1
                          clear t1
                          go_wp2
                          go_roundw
                          case rel => exact ⟨k + 1, acc, by go_num, by omega, by omega, by rw [← HL.out]; exact congrArg (acc ++ ·) (P.lex_one _ _ _ _ hlt HT.out (plain_no HE.out) HT1.out).symm, hh⟩
                          case measure => simp [intOf]; omega
                      · have b1 := lt_in e1
                        rw [t1] at b1
                        by_cases e2 : k + 2 < s.size
                        · cases t2 : lt s (k + 2)
                          · have b2 := lt_in e2
                            rw [t2] at b2
                            have d2 : (k : Int) + 2 < (s.size : Int) := by omega
                            have d1 : (k : Int) + 1 < (s.size : Int) := by omega
                            have HT1 := hide' t1
                            have HT2 := hide' t2
                            clear t1 t2
                            go_wp2_with (at_builtin; refine wpList_append_own _ rfl _ _ 23 rfl w.heap.size 3 i0 (.int .i64 0) 1 8 Try.underlying23 hi hz0 hz1 hz2 rfl (by decide) _ _ _ rfl (hh.own.alloc _) ⟨wr.heap.size, 0, none⟩ 1 1 [.int .i64 (k : Int)] rfl rfl (cell_one_new _ _ _) (one_cell _) (by unfold maxLen; omega) (by omega) (by have := hh.bel.size; simp; omega) ?_)
                            intro v1 w1 hown1 hgrow1 _
                            have R := hh.append hown1 hgrow1
                            clear hown1 hgrow1 hh
                            go_wp2
                            go_roundw
                            case rel => exact ⟨k + 2, acc ++ [k], by go_num, by omega, by simp; omega, by rw [← HL.out, List.append_assoc]; exact congrArg (acc ++ ·) (P.lex_two _ _ _ _ hlt HT.out (plain_no HE.out) HT1.out HT2.out).symm, R⟩
                            case measure => simp [intOf]; omega
                          · have b2 := lt_in e2
                            rw [t2] at b2
                            have d2 : (k : Int) + 2 < (s.size : Int) := by omega
                            have d1 : (k : Int) + 1 < (s.size : Int) := by omega
                            have HT1 := hide' t1
                            have HT2 := hide' t2
                            clear t1 t2
                            go_wp2
                            go_roundw
                            case rel => exact ⟨k + 3, acc, by go_num, by omega, by omega, by rw [← HL.out]; exact congrArg (acc ++ ·) (P.lex_three _ _ _ _ hlt HT.out (plain_no HE.out) HT1.out HT2.out).symm, hh⟩
                            case measure => simp [intOf]; omega
                        · have t2 := lt_out e2
                          have d2 : decide ((k : Int) + 2 < (s.size : Int)) = false := decide_eq_false (by omega)
                          have d1 : (k : Int) + 1 < (s.size : Int) := by omega
                          have HT1 := hide' t1
                          have HT2 := hide' t2
                          clear t1 t2
                          go_wp2_with (at_builtin; refine wpList_append_own _ rfl _ _ 23 rfl w.heap.size 3 i0 (.int .i64 0) 1 8 Try.underlying23 hi hz0 hz1 hz2 rfl (by decide) _ _ _ rfl (hh.own.alloc _) ⟨wr.heap.size, 0, none⟩ 1 1 [.int .i64 (k : Int)] rfl rfl (cell_one_new _ _ _) (one_cell _) (by unfold maxLen; omega) (by omega) (by have := hh.bel.size; simp; omega) ?_)
                          intro v1 w1 hown1 hgrow1 _
                          have R := hh.append hown1 hgrow1
                          clear hown1 hgrow1 hh
                          go_wp2
                          go_roundw
                          case rel => exact ⟨k + 2, acc ++ [k], by go_num, by omega, by simp; omega, by rw [← HL.out, List.append_assoc]; exact congrArg (acc ++ ·) (P.lex_two _ _ _ _ hlt HT.out (plain_no HE.out) HT1.out HT2.out).symm, R⟩
                          case measure => simp [intOf]; omega
                    · have t1 := lt_out e1
                      have d2 : decide ((k : Int) + 2 < (s.size : Int)) = false := decide_eq_false (by omega)
                      have d1 : decide ((k : Int) + 1 < (s.size : Int)) = false := decide_eq_false (by omega)
                      have HT1 := hide' t1
                      clear t1
                      go_wp2
                      go_roundw
                      case rel => exact ⟨k + 1, acc, by go_num, by omega, by omega, by rw [← HL.out]; exact congrArg (acc ++ ·) (P.lex_one _ _ _ _ hlt HT.out (plain_no HE.out) HT1.out).symm, hh⟩
                      case measure => simp [intOf]; omega
                · have hx := back_in hq
                  rw [hb] at hx
                  have HB : Hid (bs s k = sl + 1 + bs s q) := hide' (by have := HBS.out; rw [bs_hit hb] at this; omega)
                  clear HBS hb
                  go_wp2
                  go_round
                  case rel => exact ⟨q, sl + 1, by go_num, by go_num, by omega, HB.out⟩
                  case measure => simp [intOf]
          · have hy := nlt_t hkm hpv
            have HPV := hide' hpv
            have HKF := hide' hkf
            clear hpv hkf
            by_cases e1 : k + 1 < s.size
            · cases t1 : lt s (k + 1)
              · have b1 := lt_in e1
                rw [t1] at b1
                by_cases e2 : k + 2 < s.size
                · have d2 : (k : Int) + 2 < (s.size : Int) := by omega
                  have d1 : (k : Int) + 1 < (s.size : Int) := by omega
                  have HT1 := hide' t1
                  clear t1
                  go_wp2
                  go_roundw
                  case rel => exact ⟨k + 1, acc, by go_num, by omega, by omega, by rw [← HL.out]; exact congrArg (acc ++ ·) (P.lex_one _ _ _ _ hlt HT.out (plain_in HKF.out HPV.out) HT1.out).symm, hh⟩
                  case measure => simp [intOf]; omega
                · have d2 : decide ((k : Int) + 2 < (s.size : Int)) = false := decide_eq_false (by omega)
                  have d1 : (k : Int) + 1 < (s.size : Int) := by omega
                  have HT1 := hide' t1
                  clear t1
                  go_wp2
                  go_roundw
                  case rel => exact ⟨k + 1, acc, by go_num, by omega, by omega, by rw [← HL.out]; exact congrArg (acc ++ ·) (P.lex_one _ _ _ _ hlt HT.out (plain_in HKF.out HPV.out) HT1.out).symm, hh⟩
                  case measure => simp [intOf]; omega
              · have b1 := lt_in e1
                rw [t1] at b1
                by_cases e2 : k + 2 < s.size
                · cases t2 : lt s (k + 2)
                  · have b2 := lt_in e2
                    rw [t2] at b2
                    have d2 : (k : Int) + 2 < (s.size : Int) := by omega
                    have d1 : (k : Int) + 1 < (s.size : Int) := by omega
                    have HT1 := hide' t1
                    have HT2 := hide' t2
                    clear t1 t2
                    go_wp2_with (at_builtin; refine wpList_append_own _ rfl _ _ 23 rfl w.heap.size 3 i0 (.int .i64 0) 1 8 Try.underlying23 hi hz0 hz1 hz2 rfl (by decide) _ _ _ rfl (hh.own.alloc _) ⟨wr.heap.size, 0, none⟩ 1 1 [.int .i64 (k : Int)] rfl rfl (cell_one_new _ _ _) (one_cell _) (by unfold maxLen; omega) (by omega) (by have := hh.bel.size; simp; omega) ?_)
                    intro v1 w1 hown1 hgrow1 _
                    have R := hh.append hown1 hgrow1
                    clear hown1 hgrow1 hh
                    go_wp2
                    go_roundw
                    case rel => exact ⟨k + 2, acc ++ [k], by go_num, by omega, by simp; omega, by rw [← HL.out, List.append_assoc]; exact congrArg (acc ++ ·) (P.lex_two _ _ _ _ hlt HT.out (plain_in HKF.out HPV.out) HT1.out HT2.out).symm, R⟩
                    case measure => simp [intOf]; omega
                  · have b2 := lt_in e2
                    rw [t2] at b2
                    have d2 : (k : Int) + 2 < (s.size : Int) := by omega
                    have d1 : (k : Int) + 1 < (s.size : Int) := by omega
                    have HT1 := hide' t1
                    have HT2 := hide' t2
                    clear t1 t2
                    go_wp2
                    go_roundw
                    case rel => exact ⟨k + 3, acc, by go_num, by omega, by omega, by rw [← HL.out]; exact congrArg (acc ++ ·) (P.lex_three _ _ _ _ hlt HT.out (plain_in HKF.out HPV.out) HT1.out HT2.out).symm, hh⟩
                    case measure => simp [intOf]; omega
                · have t2 := lt_out e2
                  have d2 : decide ((k : Int) + 2 < (s.size : Int)) = false := decide_eq_false (by omega)
                  have d1 : (k : Int) + 1 < (s.size : Int) := by omega
                  have HT1 := hide' t1
                  have HT2 := hide' t2
                  clear t1 t2
                  go_wp2_with (at_builtin; refine wpList_append_own _ rfl _ _ 23 rfl w.heap.size 3 i0 (.int .i64 0) 1 8 Try.underlying23 hi hz0 hz1 hz2 rfl (by decide) _ _ _ rfl (hh.own.alloc _) ⟨wr.heap.size, 0, none⟩ 1 1 [.int .i64 (k : Int)] rfl rfl (cell_one_new _ _ _) (one_cell _) (by unfold maxLen; omega) (by omega) (by have := hh.bel.size; simp; omega) ?_)
                  intro v1 w1 hown1 hgrow1 _
                  have R := hh.append hown1 hgrow1
                  clear hown1 hgrow1 hh
                  go_wp2
                  go_roundw
                  case rel => exact ⟨k + 2, acc ++ [k], by go_num, by omega, by simp; omega, by rw [← HL.out, List.append_assoc]; exact congrArg (acc ++ ·) (P.lex_two _ _ _ _ hlt HT.out (plain_in HKF.out HPV.out) HT1.out HT2.out).symm, R⟩
                  case measure => simp [intOf]; omega
            · have t1 := lt_out e1
              have d2 : decide ((k : Int) + 2 < (s.size : Int)) = false := decide_eq_false (by omega)
              have d1 : decide ((k : Int) + 1 < (s.size : Int)) = false := decide_eq_false (by omega)
              have HT1 := hide' t1
              clear t1
              go_wp2
              go_roundw
              case rel => exact ⟨k + 1, acc, by go_num, by omega, by omega, by rw [← HL.out]; exact congrArg (acc ++ ·) (P.lex_one _ _ _ _ hlt HT.out (plain_in HKF.out HPV.out) HT1.out).symm, hh⟩
              case measure => simp [intOf]; omega
    · have HE : Hid (lex s f k = []) := P.lex_end _ _ _ _ (by omega)
      have HA : Hid (acc = lex s f f) := by have := HL.out; rw [HE.out, List.append_nil] at this; exact this
      clear HL HE
      go_wp2
      go_ret
      exact ⟨_, rfl, by rw [← HA.out]; exact hh⟩

end Go.Proofs.Qxb6603890a.W
