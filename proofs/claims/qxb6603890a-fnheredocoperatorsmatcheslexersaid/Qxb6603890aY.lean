import Derived.Test.Qxb6603890aX
namespace Go.Proofs.Qxb6603890a.W
open Go.RowKit
set_option linter.unusedVariables false

set_option maxRecDepth 100000 in
set_option maxHeartbeats 4000000 in
theorem ops_any (s : ByteArray) (f : Nat) (w : World) (hs : s.size ≤ 1048576) (hf : f ≤ 9223372036854775807) : Calls Try.prog 7 #[.string s, .int .i64 (f : Int)] w (Reads w (lex s f f)) := by
  obtain ⟨i0, hi, hz0, hz1, hz2⟩ := info_parts Try.info3
  go_enter Try.func7, Try.ntmps7
  go_wp2
  go_loopw [5, 6] (fun v i wr => ∃ (k : Nat) (acc : List Nat), i = .int .i64 k ∧ f ≤ k ∧ acc.length ≤ k ∧ acc ++ lex s f k = lex s f f ∧ Holds w wr v acc ∧ (k = f ∨ lt s (k - 1) = false ∨ lt s k = false)) (fun _ i _ => s.size - (intOf i).toNat)
  case atStart => exact ⟨f, [], rfl, Nat.le_refl _, Nat.zero_le _, rfl, Holds.start w, .inl rfl⟩
  case round =>
    obtain ⟨k, acc, rfl, hk, hacc, hl, hh, hfr⟩ := hrel
    have HL := hide' hl
    clear hl
    by_cases hlt : k < s.size
    · cases ht : lt s k
      · have hx := nlt_f hlt ht
        have HT := hide' ht
        clear ht hfr
        go_wp2
        go_roundw
        case rel => exact ⟨k + 1, acc, by go_num, by omega, by omega, by rw [← HL.out]; exact congrArg (acc ++ ·) (P.lex_skip _ _ _ _ HT.out).symm, hh, .inr (.inl HT.out)⟩
        case measure => simp [intOf]; omega
      · have hx := nlt_t hlt ht
        have HT := hide' ht
        have HF : Hid (k = f ∨ lt s (k - 1) = false) := hide' (by rcases hfr with h | h | h; exact .inl h; exact .inr h; rw [ht] at h; cases h)
        clear ht hfr
        go_wp2
        go_loop [6] (fun i => ∃ e : Nat, i = .int .i64 e ∧ k ≤ e ∧ e < s.size ∧ ∀ i, k ≤ i → i ≤ e → lt s i = true) (fun i => s.size - (intOf i).toNat)
        case atStart => exact ⟨k, rfl, Nat.le_refl _, hlt, fun i h1 h2 => by rw [show i = k by omega]; exact HT.out⟩
        case round =>
          obtain ⟨e, rfl, hke, hen, hrun⟩ := hrel
          have HRun := hide' hrun
          clear hrun
          by_cases e1 : e + 1 < s.size
          · have d1 : (e : Int) + 1 < (s.size : Int) := by omega
            cases t1 : lt s (e + 1)
            · have b1 := lt_in e1
              rw [t1] at b1
              have HEnd := hide' t1
              clear t1
              go_wp2
              go_loop [8, 9] (fun t j => ∃ p sl : Nat, j = .int .i64 ((p : Int) - 1) ∧ t = .int .i64 sl ∧ sl + p = k ∧ bs s k = sl + bs s p) (fun _ j => (intOf j + 1).toNat)
              case atStart => exact ⟨k, 0, rfl, rfl, by omega, by omega⟩
              case round =>
                obtain ⟨p, sl, rfl, rfl, hsp, hbs⟩ := hrel
                have HBS := hide' hbs
                clear hbs
                cases p with
                | zero =>
                  have HB : Hid (bs s k = sl) := HBS.out
                  clear HBS
                  have dj : decide ((0 : Int) ≤ ((0 : Nat) : Int) - 1) = false := decide_eq_false (by omega)
                  have HWH := hide' (P.whole (lt s) (esc s) f s.size lt_size hke hk HRun.out HEnd.out HF.out)
                  by_cases hodd : sl % 2 = 1
                  · have hpar : ((sl : Int) % 2 == 1) = true := by rw [beq_iff_eq]; omega
                    have HE : Hid (esc s k = true) := hide' (by unfold esc; rw [HB.out, hodd]; rfl)
                    have HW : Hid (lex s f k = (if (e + 1 - (k + 1)) % 3 = 2 then [e - 1] else []) ++ lex s f (e + 1)) := hide' (by have := HWH.out; rw [HE.out] at this; exact this)
                    clear hodd HWH
                    by_cases h3 : (e + 1 - (k + 1)) % 3 = 2
                    · have h3' : (((e : Int) + 1 - ((k : Int) + 1)) % 3 == 2) = true := by rw [beq_iff_eq]; omega
                      have he1 : 1 ≤ e := by omega
                      have HP : Hid ((e : Int) - 1 = ((e - 1 : Nat) : Int)) := hide' (by omega)
                      have HN : Hid (lex s f k = [e - 1] ++ lex s f (e + 1)) := hide' (by have := HW.out; rw [if_pos h3] at this; exact this)
                      clear h3 HW
                      go_wp2_with (at_builtin; refine wpList_append_own _ rfl _ _ 23 rfl w.heap.size 3 i0 (.int .i64 0) 1 8 Try.underlying23 hi hz0 hz1 hz2 rfl (by decide) _ _ _ rfl (hh.own.alloc _) ⟨wr.heap.size, 0, none⟩ 1 1 [.int .i64 ((e : Int) - 1)] rfl rfl (cell_one_new _ _ _) (one_cell _) (by unfold maxLen; omega) (by omega) (by have := hh.bel.size; simp; omega) ?_)
                      intro v1 w1 hown1 hgrow1 _
                      rw [HP.out] at hown1
                      have R := hh.append hown1 hgrow1
                      clear hown1 hgrow1 hh
                      go_wp2
                      go_roundw
                      case rel => exact ⟨e + 1, acc ++ [e - 1], by go_num, by omega, by simp; omega, by rw [← HL.out, HN.out, List.append_assoc], R, .inr (.inr HEnd.out)⟩
                      case measure => simp [intOf]; omega
                    · have h3' : (((e : Int) + 1 - ((k : Int) + 1)) % 3 == 2) = false := by rw [beq_eq_false_iff_ne]; omega
                      have HN : Hid (lex s f k = lex s f (e + 1)) := hide' (by have := HW.out; rw [if_neg h3] at this; exact this)
                      clear h3 HW
                      go_wp2
                      go_roundw
                      case rel => exact ⟨e + 1, acc, by go_num, by omega, by omega, by rw [← HL.out, HN.out], hh, .inr (.inr HEnd.out)⟩
                      case measure => simp [intOf]; omega
                  · have hpar : ((sl : Int) % 2 == 1) = false := by rw [beq_eq_false_iff_ne]; omega
                    have HE : Hid (esc s k = false) := hide' (by unfold esc; rw [HB.out]; rw [beq_eq_false_iff_ne]; exact hodd)
                    have HW : Hid (lex s f k = (if (e + 1 - k) % 3 = 2 then [e - 1] else []) ++ lex s f (e + 1)) := hide' (by have := HWH.out; rw [HE.out] at this; exact this)
                    clear hodd HWH
                    by_cases h3 : (e + 1 - k) % 3 = 2
                    · have h3' : (((e : Int) + 1 - (k : Int)) % 3 == 2) = true := by rw [beq_iff_eq]; omega
                      have he1 : 1 ≤ e := by omega
                      have HP : Hid ((e : Int) - 1 = ((e - 1 : Nat) : Int)) := hide' (by omega)
                      have HN : Hid (lex s f k = [e - 1] ++ lex s f (e + 1)) := hide' (by have := HW.out; rw [if_pos h3] at this; exact this)
                      clear h3 HW
                      go_wp2_with (at_builtin; refine wpList_append_own _ rfl _ _ 23 rfl w.heap.size 3 i0 (.int .i64 0) 1 8 Try.underlying23 hi hz0 hz1 hz2 rfl (by decide) _ _ _ rfl (hh.own.alloc _) ⟨wr.heap.size, 0, none⟩ 1 1 [.int .i64 ((e : Int) - 1)] rfl rfl (cell_one_new _ _ _) (one_cell _) (by unfold maxLen; omega) (by omega) (by have := hh.bel.size; simp; omega) ?_)
                      intro v1 w1 hown1 hgrow1 _
                      rw [HP.out] at hown1
                      have R := hh.append hown1 hgrow1
                      clear hown1 hgrow1 hh
                      go_wp2
                      go_roundw
                      case rel => exact ⟨e + 1, acc ++ [e - 1], by go_num, by omega, by simp; omega, by rw [← HL.out, HN.out, List.append_assoc], R, .inr (.inr HEnd.out)⟩
                      case measure => simp [intOf]; omega
                    · have h3' : (((e : Int) + 1 - (k : Int)) % 3 == 2) = false := by rw [beq_eq_false_iff_ne]; omega
                      have HN : Hid (lex s f k = lex s f (e + 1)) := hide' (by have := HW.out; rw [if_neg h3] at this; exact this)
                      clear h3 HW
                      go_wp2
                      go_roundw
                      case rel => exact ⟨e + 1, acc, by go_num, by omega, by omega, by rw [← HL.out, HN.out], hh, .inr (.inr HEnd.out)⟩
                      case measure => simp [intOf]; omega
                | succ q =>
                  have hq : q < s.size := by omega
                  have hq' : (0 : Int) ≤ ((q + 1 : Nat) : Int) - 1 := by omega
                  cases hb : byteAt s q == 92
                  · have hx := back_in hq
                    rw [hb] at hx
                    have HB : Hid (bs s k = sl) := hide' (by have := HBS.out; rw [bs_miss hb] at this; exact this)
                    clear HBS hb
                    have HWH := hide' (P.whole (lt s) (esc s) f s.size lt_size hke hk HRun.out HEnd.out HF.out)
                    by_cases hodd : sl % 2 = 1
                    · have hpar : ((sl : Int) % 2 == 1) = true := by rw [beq_iff_eq]; omega
                      have HE : Hid (esc s k = true) := hide' (by unfold esc; rw [HB.out, hodd]; rfl)
                      have HW : Hid (lex s f k = (if (e + 1 - (k + 1)) % 3 = 2 then [e - 1] else []) ++ lex s f (e + 1)) := hide' (by have := HWH.out; rw [HE.out] at this; exact this)
                      clear hodd HWH
                      by_cases h3 : (e + 1 - (k + 1)) % 3 = 2
                      · have h3' : (((e : Int) + 1 - ((k : Int) + 1)) % 3 == 2) = true := by rw [beq_iff_eq]; omega
                        have he1 : 1 ≤ e := by omega
                        have HP : Hid ((e : Int) - 1 = ((e - 1 : Nat) : Int)) := hide' (by omega)
                        have HN : Hid (lex s f k = [e - 1] ++ lex s f (e + 1)) := hide' (by have := HW.out; rw [if_pos h3] at this; exact this)
                        clear h3 HW
                        go_wp2_with (at_builtin; refine wpList_append_own _ rfl _ _ 23 rfl w.heap.size 3 i0 (.int .i64 0) 1 8 Try.underlying23 hi hz0 hz1 hz2 rfl (by decide) _ _ _ rfl (hh.own.alloc _) ⟨wr.heap.size, 0, none⟩ 1 1 [.int .i64 ((e : Int) - 1)] rfl rfl (cell_one_new _ _ _) (one_cell _) (by unfold maxLen; omega) (by omega) (by have := hh.bel.size; simp; omega) ?_)
                        intro v1 w1 hown1 hgrow1 _
                        rw [HP.out] at hown1
                        have R := hh.append hown1 hgrow1
                        clear hown1 hgrow1 hh
                        go_wp2
                        go_roundw
                        case rel => exact ⟨e + 1, acc ++ [e - 1], by go_num, by omega, by simp; omega, by rw [← HL.out, HN.out, List.append_assoc], R, .inr (.inr HEnd.out)⟩
                        case measure => simp [intOf]; omega
                      · have h3' : (((e : Int) + 1 - ((k : Int) + 1)) % 3 == 2) = false := by rw [beq_eq_false_iff_ne]; omega
                        have HN : Hid (lex s f k = lex s f (e + 1)) := hide' (by have := HW.out; rw [if_neg h3] at this; exact this)
                        clear h3 HW
                        go_wp2
                        go_roundw
                        case rel => exact ⟨e + 1, acc, by go_num, by omega, by omega, by rw [← HL.out, HN.out], hh, .inr (.inr HEnd.out)⟩
                        case measure => simp [intOf]; omega
                    · have hpar : ((sl : Int) % 2 == 1) = false := by rw [beq_eq_false_iff_ne]; omega
                      have HE : Hid (esc s k = false) := hide' (by unfold esc; rw [HB.out]; rw [beq_eq_false_iff_ne]; exact hodd)
                      have HW : Hid (lex s f k = (if (e + 1 - k) % 3 = 2 then [e - 1] else []) ++ lex s f (e + 1)) := hide' (by have := HWH.out; rw [HE.out] at this; exact this)
                      clear hodd HWH
                      by_cases h3 : (e + 1 - k) % 3 = 2
                      · have h3' : (((e : Int) + 1 - (k : Int)) % 3 == 2) = true := by rw [beq_iff_eq]; omega
                        have he1 : 1 ≤ e := by omega
                        have HP : Hid ((e : Int) - 1 = ((e - 1 : Nat) : Int)) := hide' (by omega)
                        have HN : Hid (lex s f k = [e - 1] ++ lex s f (e + 1)) := hide' (by have := HW.out; rw [if_pos h3] at this; exact this)
                        clear h3 HW
                        go_wp2_with (at_builtin; refine wpList_append_own _ rfl _ _ 23 rfl w.heap.size 3 i0 (.int .i64 0) 1 8 Try.underlying23 hi hz0 hz1 hz2 rfl (by decide) _ _ _ rfl (hh.own.alloc _) ⟨wr.heap.size, 0, none⟩ 1 1 [.int .i64 ((e : Int) - 1)] rfl rfl (cell_one_new _ _ _) (one_cell _) (by unfold maxLen; omega) (by omega) (by have := hh.bel.size; simp; omega) ?_)
                        intro v1 w1 hown1 hgrow1 _
                        rw [HP.out] at hown1
                        have R := hh.append hown1 hgrow1
                        clear hown1 hgrow1 hh
                        go_wp2
                        go_roundw
                        case rel => exact ⟨e + 1, acc ++ [e - 1], by go_num, by omega, by simp; omega, by rw [← HL.out, HN.out, List.append_assoc], R, .inr (.inr HEnd.out)⟩
                        case measure => simp [intOf]; omega
                      · have h3' : (((e : Int) + 1 - (k : Int)) % 3 == 2) = false := by rw [beq_eq_false_iff_ne]; omega
                        have HN : Hid (lex s f k = lex s f (e + 1)) := hide' (by have := HW.out; rw [if_neg h3] at this; exact this)
                        clear h3 HW
                        go_wp2
                        go_roundw
                        case rel => exact ⟨e + 1, acc, by go_num, by omega, by omega, by rw [← HL.out, HN.out], hh, .inr (.inr HEnd.out)⟩
                        case measure => simp [intOf]; omega
                  · have hx := back_in hq
                    rw [hb] at hx
                    have HB : Hid (bs s k = sl + 1 + bs s q) := hide' (by have := HBS.out; rw [bs_hit hb] at this; omega)
                    clear HBS hb
                    go_wp2
                    go_round
                    case rel => exact ⟨q, sl + 1, by go_num, by go_num, by omega, HB.out⟩
                    case measure => simp [intOf]
            · have b1 := lt_in e1
              rw [t1] at b1
              have HR1 : Hid (∀ i, k ≤ i → i ≤ e + 1 → lt s i = true) := hide' (fun i h1 h2 => by
                by_cases h : i ≤ e
                · exact HRun.out i h1 h
                · rw [show i = e + 1 by omega]; exact t1)
              clear t1 HRun
              go_wp2
              go_round
              case rel => exact ⟨e + 1, by go_num, by omega, e1, HR1.out⟩
              case measure => simp [intOf]; omega
          · have d1 : decide ((e : Int) + 1 < (s.size : Int)) = false := decide_eq_false (by omega)
            have HEnd : Hid (lt s (e + 1) = false) := hide' (lt_out e1)
            go_wp2
            go_loop [8, 9] (fun t j => ∃ p sl : Nat, j = .int .i64 ((p : Int) - 1) ∧ t = .int .i64 sl ∧ sl + p = k ∧ bs s k = sl + bs s p) (fun _ j => (intOf j + 1).toNat)
            case atStart => exact ⟨k, 0, rfl, rfl, by omega, by omega⟩
            case round =>
              obtain ⟨p, sl, rfl, rfl, hsp, hbs⟩ := hrel
              have HBS := hide' hbs
              clear hbs
              cases p with
              | zero =>
                have HB : Hid (bs s k = sl) := HBS.out
                clear HBS
                have dj : decide ((0 : Int) ≤ ((0 : Nat) : Int) - 1) = false := decide_eq_false (by omega)
                have HWH := hide' (P.whole (lt s) (esc s) f s.size lt_size hke hk HRun.out HEnd.out HF.out)
                by_cases hodd : sl % 2 = 1
                · have hpar : ((sl : Int) % 2 == 1) = true := by rw [beq_iff_eq]; omega
                  have HE : Hid (esc s k = true) := hide' (by unfold esc; rw [HB.out, hodd]; rfl)
                  have HW : Hid (lex s f k = (if (e + 1 - (k + 1)) % 3 = 2 then [e - 1] else []) ++ lex s f (e + 1)) := hide' (by have := HWH.out; rw [HE.out] at this; exact this)
                  clear hodd HWH
                  by_cases h3 : (e + 1 - (k + 1)) % 3 = 2
                  · have h3' : (((e : Int) + 1 - ((k : Int) + 1)) % 3 == 2) = true := by rw [beq_iff_eq]; omega
                    have he1 : 1 ≤ e := by omega
                    have HP : Hid ((e : Int) - 1 = ((e - 1 : Nat) : Int)) := hide' (by omega)
                    have HN : Hid (lex s f k = [e - 1] ++ lex s f (e + 1)) := hide' (by have := HW.out; rw [if_pos h3] at this; exact this)
                    clear h3 HW
                    go_wp2_with (at_builtin; refine wpList_append_own _ rfl _ _ 23 rfl w.heap.size 3 i0 (.int .i64 0) 1 8 Try.underlying23 hi hz0 hz1 hz2 rfl (by decide) _ _ _ rfl (hh.own.alloc _) ⟨wr.heap.size, 0, none⟩ 1 1 [.int .i64 ((e : Int) - 1)] rfl rfl (cell_one_new _ _ _) (one_cell _) (by unfold maxLen; omega) (by omega) (by have := hh.bel.size; simp; omega) ?_)
                    intro v1 w1 hown1 hgrow1 _
                    rw [HP.out] at hown1
                    have R := hh.append hown1 hgrow1
                    clear hown1 hgrow1 hh
                    go_wp2
                    go_roundw
                    case rel => exact ⟨e + 1, acc ++ [e - 1], by go_num, by omega, by simp; omega, by rw [← HL.out, HN.out, List.append_assoc], R, .inr (.inr HEnd.out)⟩
                    case measure => simp [intOf]; omega
                  · have h3' : (((e : Int) + 1 - ((k : Int) + 1)) % 3 == 2) = false := by rw [beq_eq_false_iff_ne]; omega
                    have HN : Hid (lex s f k = lex s f (e + 1)) := hide' (by have := HW.out; rw [if_neg h3] at this; exact this)
                    clear h3 HW
                    go_wp2
                    go_roundw
                    case rel => exact ⟨e + 1, acc, by go_num, by omega, by omega, by rw [← HL.out, HN.out], hh, .inr (.inr HEnd.out)⟩
                    case measure => simp [intOf]; omega
                · have hpar : ((sl : Int) % 2 == 1) = false := by rw [beq_eq_false_iff_ne]; omega
                  have HE : Hid (esc s k = false) := hide' (by unfold esc; rw [HB.out]; rw [beq_eq_false_iff_ne]; exact hodd)
                  have HW : Hid (lex s f k = (if (e + 1 - k) % 3 = 2 then [e - 1] else []) ++ lex s f (e + 1)) := hide' (by have := HWH.out; rw [HE.out] at this; exact this)
                  clear hodd HWH
                  by_cases h3 : (e + 1 - k) % 3 = 2
                  · have h3' : (((e : Int) + 1 - (k : Int)) % 3 == 2) = true := by rw [beq_iff_eq]; omega
                    have he1 : 1 ≤ e := by omega
                    have HP : Hid ((e : Int) - 1 = ((e - 1 : Nat) : Int)) := hide' (by omega)
                    have HN : Hid (lex s f k = [e - 1] ++ lex s f (e + 1)) := hide' (by have := HW.out; rw [if_pos h3] at this; exact this)
                    clear h3 HW
                    go_wp2_with (at_builtin; refine wpList_append_own _ rfl _ _ 23 rfl w.heap.size 3 i0 (.int .i64 0) 1 8 Try.underlying23 hi hz0 hz1 hz2 rfl (by decide) _ _ _ rfl (hh.own.alloc _) ⟨wr.heap.size, 0, none⟩ 1 1 [.int .i64 ((e : Int) - 1)] rfl rfl (cell_one_new _ _ _) (one_cell _) (by unfold maxLen; omega) (by omega) (by have := hh.bel.size; simp; omega) ?_)
                    intro v1 w1 hown1 hgrow1 _
                    rw [HP.out] at hown1
                    have R := hh.append hown1 hgrow1
                    clear hown1 hgrow1 hh
                    go_wp2
                    go_roundw
                    case rel => exact ⟨e + 1, acc ++ [e - 1], by go_num, by omega, by simp; omega, by rw [← HL.out, HN.out, List.append_assoc], R, .inr (.inr HEnd.out)⟩
                    case measure => simp [intOf]; omega
                  · have h3' : (((e : Int) + 1 - (k : Int)) % 3 == 2) = false := by rw [beq_eq_false_iff_ne]; omega
                    have HN : Hid (lex s f k = lex s f (e + 1)) := hide' (by have := HW.out; rw [if_neg h3] at this; exact this)
                    clear h3 HW
                    go_wp2
                    go_roundw
                    case rel => exact ⟨e + 1, acc, by go_num, by omega, by omega, by rw [← HL.out, HN.out], hh, .inr (.inr HEnd.out)⟩
                    case measure => simp [intOf]; omega
              | succ q =>
                have hq : q < s.size := by omega
                have hq' : (0 : Int) ≤ ((q + 1 : Nat) : Int) - 1 := by omega
                cases hb : byteAt s q == 92
                · have hx := back_in hq
                  rw [hb] at hx
                  have HB : Hid (bs s k = sl) := hide' (by have := HBS.out; rw [bs_miss hb] at this; exact this)
                  clear HBS hb
                  have HWH := hide' (P.whole (lt s) (esc s) f s.size lt_size hke hk HRun.out HEnd.out HF.out)
                  by_cases hodd : sl % 2 = 1
                  · have hpar : ((sl : Int) % 2 == 1) = true := by rw [beq_iff_eq]; omega
                    have HE : Hid (esc s k = true) := hide' (by unfold esc; rw [HB.out, hodd]; rfl)
                    have HW : Hid (lex s f k = (if (e + 1 - (k + 1)) % 3 = 2 then [e - 1] else []) ++ lex s f (e + 1)) := hide' (by have := HWH.out; rw [HE.out] at this; exact this)
                    clear hodd HWH
                    by_cases h3 : (e + 1 - (k + 1)) % 3 = 2
                    · have h3' : (((e : Int) + 1 - ((k : Int) + 1)) % 3 == 2) = true := by rw [beq_iff_eq]; omega
                      have he1 : 1 ≤ e := by omega
                      have HP : Hid ((e : Int) - 1 = ((e - 1 : Nat) : Int)) := hide' (by omega)
                      have HN : Hid (lex s f k = [e - 1] ++ lex s f (e + 1)) := hide' (by have := HW.out; rw [if_pos h3] at this; exact this)
                      clear h3 HW
                      go_wp2_with (at_builtin; refine wpList_append_own _ rfl _ _ 23 rfl w.heap.size 3 i0 (.int .i64 0) 1 8 Try.underlying23 hi hz0 hz1 hz2 rfl (by decide) _ _ _ rfl (hh.own.alloc _) ⟨wr.heap.size, 0, none⟩ 1 1 [.int .i64 ((e : Int) - 1)] rfl rfl (cell_one_new _ _ _) (one_cell _) (by unfold maxLen; omega) (by omega) (by have := hh.bel.size; simp; omega) ?_)
                      intro v1 w1 hown1 hgrow1 _
                      rw [HP.out] at hown1
                      have R := hh.append hown1 hgrow1
                      clear hown1 hgrow1 hh
                      go_wp2
                      go_roundw
                      case rel => exact ⟨e + 1, acc ++ [e - 1], by go_num, by omega, by simp; omega, by rw [← HL.out, HN.out, List.append_assoc], R, .inr (.inr HEnd.out)⟩
                      case measure => simp [intOf]; omega
                    · have h3' : (((e : Int) + 1 - ((k : Int) + 1)) % 3 == 2) = false := by rw [beq_eq_false_iff_ne]; omega
                      have HN : Hid (lex s f k = lex s f (e + 1)) := hide' (by have := HW.out; rw [if_neg h3] at this; exact this)
                      clear h3 HW
                      go_wp2
                      go_roundw
                      case rel => exact ⟨e + 1, acc, by go_num, by omega, by omega, by rw [← HL.out, HN.out], hh, .inr (.inr HEnd.out)⟩
                      case measure => simp [intOf]; omega
                  · have hpar : ((sl : Int) % 2 == 1) = false := by rw [beq_eq_false_iff_ne]; omega
                    have HE : Hid (esc s k = false) := hide' (by unfold esc; rw [HB.out]; rw [beq_eq_false_iff_ne]; exact hodd)
                    have HW : Hid (lex s f k = (if (e + 1 - k) % 3 = 2 then [e - 1] else []) ++ lex s f (e + 1)) := hide' (by have := HWH.out; rw [HE.out] at this; exact this)
                    clear hodd HWH
                    by_cases h3 : (e + 1 - k) % 3 = 2
                    · have h3' : (((e : Int) + 1 - (k : Int)) % 3 == 2) = true := by rw [beq_iff_eq]; omega
                      have he1 : 1 ≤ e := by omega
                      have HP : Hid ((e : Int) - 1 = ((e - 1 : Nat) : Int)) := hide' (by omega)
                      have HN : Hid (lex s f k = [e - 1] ++ lex s f (e + 1)) := hide' (by have := HW.out; rw [if_pos h3] at this; exact this)
                      clear h3 HW
                      go_wp2_with (at_builtin; refine wpList_append_own _ rfl _ _ 23 rfl w.heap.size 3 i0 (.int .i64 0) 1 8 Try.underlying23 hi hz0 hz1 hz2 rfl (by decide) _ _ _ rfl (hh.own.alloc _) ⟨wr.heap.size, 0, none⟩ 1 1 [.int .i64 ((e : Int) - 1)] rfl rfl (cell_one_new _ _ _) (one_cell _) (by unfold maxLen; omega) (by omega) (by have := hh.bel.size; simp; omega) ?_)
                      intro v1 w1 hown1 hgrow1 _
                      rw [HP.out] at hown1
                      have R := hh.append hown1 hgrow1
                      clear hown1 hgrow1 hh
                      go_wp2
                      go_roundw
                      case rel => exact ⟨e + 1, acc ++ [e - 1], by go_num, by omega, by simp; omega, by rw [← HL.out, HN.out, List.append_assoc], R, .inr (.inr HEnd.out)⟩
                      case measure => simp [intOf]; omega
                    · have h3' : (((e : Int) + 1 - (k : Int)) % 3 == 2) = false := by rw [beq_eq_false_iff_ne]; omega
                      have HN : Hid (lex s f k = lex s f (e + 1)) := hide' (by have := HW.out; rw [if_neg h3] at this; exact this)
                      clear h3 HW
                      go_wp2
                      go_roundw
                      case rel => exact ⟨e + 1, acc, by go_num, by omega, by omega, by rw [← HL.out, HN.out], hh, .inr (.inr HEnd.out)⟩
                      case measure => simp [intOf]; omega
                · have hx := back_in hq
                  rw [hb] at hx
                  have HB : Hid (bs s k = sl + 1 + bs s q) := hide' (by have := HBS.out; rw [bs_hit hb] at this; omega)
                  clear HBS hb
                  go_wp2
                  go_round
                  case rel => exact ⟨q, sl + 1, by go_num, by go_num, by omega, HB.out⟩
                  case measure => simp [intOf]
    · have HE : Hid (lex s f k = []) := P.lex_end _ _ _ _ (by omega)
      have HA : Hid (acc = lex s f f) := hide' (by have := HL.out; rw [HE.out, List.append_nil] at this; exact this)
      clear HL HE hfr
      go_wp2
      go_ret
      exact ⟨_, rfl, by rw [← HA.out]; exact hh⟩

end Go.Proofs.Qxb6603890a.W
