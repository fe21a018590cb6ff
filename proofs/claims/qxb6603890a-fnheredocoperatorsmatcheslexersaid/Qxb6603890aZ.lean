import Derived.Test.Qxb6603890aY
namespace Go.Proofs.Qxb6603890a.W
open Go.RowKit
set_option linter.unusedVariables false

theorem ops5_any (s : ByteArray) (f : Nat) (w : World) (hs : s.size ≤ 1048576) (hf : f ≤ 9223372036854775807) : Calls Try.prog 5 #[.string s, .int .i64 (f : Int)] w (Reads w (lex s f f)) := by
  have hc := ops_any s f w hs hf
  go_enter Try.func5, Try.ntmps5
  go_wp2_with fail
  refine hc.mono ?_
  rintro e w1 ⟨v, rfl, h⟩
  clear hc
  go_wp2
  go_ret
  exact ⟨v, rfl, h⟩

def Yes (w : World) (e : Ending) (w' : World) : Prop := e = .returned (.bool true) ∧ Below w.heap.size w w'

theorem Holds.shape {w wr : World} {v : Value} {l : List Nat} (h : Holds w wr v l) (h0 : l ≠ []) : ∃ g c, v = .slice (some ⟨g, 0, none⟩) l.length c ∧ g < wr.heap.size ∧ l.length ≤ maxLen ∧ ∀ i (hi : i < l.length), wr.cell? ⟨g, i, none⟩ = some (.int .i64 ((l[i] : Nat) : Int)) := by
  have hp : 0 < l.length := List.length_pos_iff.2 h0
  rcases h.own.2 with ⟨_, h'⟩ | ⟨g, c, cur, hv, _, hh, hn, hm, _⟩
  · omega
  · refine ⟨g, c, hv, (Array.getElem?_eq_some_iff.1 hh).1, Nat.le_trans hn hm, fun i hi => ?_⟩
    have ho := h.own
    rw [hv] at ho
    rw [ho.cellAt i (by omega)]
    simp [hi]

/-- The numbers of the list by their place. -/
def numAt (l : List Nat) (i : Nat) : Int := ((l.getD i 0 : Nat) : Int)

set_option maxRecDepth 100000 in
set_option maxHeartbeats 1000000 in
theorem walk (s : ByteArray) (f : Int) (w0 : s.size ≤ maxLen) (w1 : (Lit.int .i64 f).wf = true) (w : World) : Calls Try.prog 3 #[.string s, .int .i64 f] w (Yes w) := by
  have q23 : ∀ (w : World) (a : Option Addr) (n c n' c' : Nat), (binOp .eql 23 (.slice a n c) (.slice none n' c')).run Try.prog w = .ok (.bool a.isNone) w := fun w a n c n' c' => Lib.run_eql_slice_nil w _ _ a n c n' c' Try.underlying23
  have hfb : f ≤ 9223372036854775807 := by
    simp [Lit.wf, IntKind.min, IntKind.max, IntKind.signed, IntKind.bits] at w1
    omega
  have HZ := hide' (zzBytes_any s f w w0)
  unfold maxLen at w0
  clear w1
  go_enter Try.func3, Try.ntmps3
  go_wp2_with fail
  refine HZ.out.mono ?_
  rintro e w' ⟨r, rfl, rfl⟩
  clear HZ
  cases r
  · go_wp2
    go_ret
    exact ⟨rfl, Below.refl _ _⟩
  by_cases h1 : (1048576 : Int) < (s.size : Int)
  · go_wp2
    go_ret
    exact ⟨rfl, Below.refl _ _⟩
  by_cases h2 : f < 0
  · go_wp2
    go_ret
    exact ⟨rfl, Below.refl _ _⟩
  obtain ⟨f, rfl⟩ := Int.eq_ofNat_of_zero_le (show 0 ≤ f by omega)
  go_wp2_with fail
  refine (ops5_any s f _ (by omega) (by omega)).mono ?_
  rintro e W1 ⟨v1, rfl, hh1⟩
  by_cases hl : lex s f f = []
  · have hv1 := hh1.nil hl
    subst hv1
    go_wp2_with fail
    refine (lexer_any s f _ (by omega) (by omega)).mono ?_
    rintro e W2 ⟨v2, rfl, hh2⟩
    have hv2 := hh2.nil hl
    subst hv2
    have hfin := hh1.bel.trans (hh2.bel.mono hh1.bel.size)
    clear hh1 hh2 hl
    go_wp2
    refine wp_loop_rounds 1 ?_
    rw [rounds_succ]
    go_wp2
    go_ret
    exact ⟨rfl, hfin⟩
  · obtain ⟨g1, c1, hv1, l1, m1, k1⟩ := hh1.shape hl
    subst hv1
    go_wp2_with fail
    refine (lexer_any s f _ (by omega) (by omega)).mono ?_
    rintro e W2 ⟨v2, rfl, hh2⟩
    obtain ⟨g2, c2, hv2, l2, m2, k2⟩ := hh2.shape hl
    subst hv2
    have hfin := hh1.bel.trans (hh2.bel.mono hh1.bel.size)
    have HK : Hid (∀ i, i < (lex s f f).length → W2.cell? ⟨g1, i, none⟩ = some (.int .i64 (numAt (lex s f f) i)) ∧ W2.cell? ⟨g2, i, none⟩ = some (.int .i64 (numAt (lex s f f) i))) := hide' (fun i hi => by
      have e : numAt (lex s f f) i = (((lex s f f)[i] : Nat) : Int) := by unfold numAt; rw [List.getD, List.getElem?_eq_getElem hi]; rfl
      rw [e]
      exact ⟨(hh2.bel.cell (p := ⟨g1, i, none⟩) l1).trans (k1 i hi), k2 i hi⟩)
    have hg1 : g1 < W2.heap.size := Nat.lt_of_lt_of_le l1 hh2.bel.size
    have hL : (lex s f f).length ≤ 9223372036854775807 := by
      unfold maxLen at m1
      exact m1
    clear k1 k2 hh1 hh2 hl m1 m2
    generalize (lex s f f).length = L at *
    generalize lex s f f = l at *
    have hLL : ((L : Int) != (L : Int)) = false := by simp
    go_wp2
    go_loopw [7] (fun i wr => ∃ k : Nat, k ≤ L ∧ i = .int .i64 k ∧ Below W2.heap.size W2 wr) (fun i _ => L - (intOf i).toNat)
    case atStart => exact ⟨0, Nat.zero_le _, rfl, Below.refl _ _⟩
    case round =>
      obtain ⟨k, hk, rfl, hb⟩ := hrel
      by_cases hlt : k < L
      · obtain ⟨x1, x2⟩ := HK.out k hlt
        have y1 := (hb.cell (p := ⟨g1, k, none⟩) hg1).trans x1
        have y2 := (hb.cell (p := ⟨g2, k, none⟩) l2).trans x2
        have hlt' : (k : Int) < (L : Int) := by omega
        clear x1 x2
        go_wp2
        go_quiet (fail)
        go_wp2
        go_roundw
        case rel => exact ⟨k + 1, by omega, by go_num, below_drewN hb _⟩
        case measure => simp [intOf]; omega
      · go_wp2
        go_ret
        exact ⟨rfl, hfin.trans (hb.mono hfin.size)⟩

end Go.Proofs.Qxb6603890a.W
