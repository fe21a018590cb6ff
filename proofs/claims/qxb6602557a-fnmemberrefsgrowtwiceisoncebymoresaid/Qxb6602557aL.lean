import Derived.Test.Qxb6602557aH
import Derived.Deep.DeepCutAuto
namespace Go.Proofs.Qxb6602557a.W
open Go.RowKit
set_option linter.unusedVariables false

theorem grow_any {w : World} {R b0 n k : Nat} {v : Value} {es : List Ent} (hb0 : b0 ≤ 61) (hnk : n + k ≤ 65536) (hL : es.length ≤ 524288) (h : Refs w R (b0 : Int) (n : Int) v es) :
    Calls Try.prog 36 #[.pointer (some ⟨R, 0, none⟩), .int .i64 (k : Int)] w (Grew w R b0 n k es) := by
  obtain ⟨av, cap, rfl, hav⟩ := h.shape
  exact grow_slice hb0 hnk hL rfl hav h

/-- ZZMemberRefsGrow. -/
theorem grow22 {w : World} {R b0 n k : Nat} {v : Value} {es : List Ent} (hb0 : b0 ≤ 61) (hnk : n + k ≤ 65536) (hL : es.length ≤ 524288) (h : Refs w R (b0 : Int) (n : Int) v es) :
    Calls Try.prog 22 #[.pointer (some ⟨R, 0, none⟩), .int .i64 (k : Int)] w (Grew w R b0 n k es) := by
  have hc := grow_any hb0 hnk hL h
  clear h
  go_enter Try.func22, Try.ntmps22
  go_wp2_with fail
  refine hc.mono ?_
  rintro e w1 ⟨b, v1, rfl, h1, h2, h3⟩
  have H := hide' (show P.Least b0 (4 * (n + k)) b ∧ Refs w1 R (b : Int) (n : Int) v1 (P.grown used home zeroEnt b0 b es) ∧ Below R w w1 from ⟨h1, h2, h3⟩)
  clear h1 h2 h3 hc
  go_wp2
  go_end0
  exact ⟨b, v1, rfl, H.out.1, H.out.2.1, H.out.2.2⟩

/-- ZZNewMemberRefs, whatever comes in. -/
theorem new_any (bits : Int) (a1 : Option Addr) (n : Nat) (a2 : Option Addr) (a3 : Option Addr) (a4 : Option Addr) (Z1 Z2 Z3 Z4 : Nat → Int) (m : Int) (w : World) (hn : n ≤ 65536)
    (h1 : U32s w a1 n Z1) (h2 : U32s w a2 n Z2) (h3 : U32s w a3 n Z3) (h4 : U32s w a4 n Z4) :
    Calls Try.prog 21 #[.int .i64 bits, .slice a1 n n, .slice a2 n n, .slice a3 n n, .slice a4 n n, .int .i64 m] w (New w bits m (entsTo Z1 Z2 Z3 Z4 n n)) := by
  cases a1 with
  | none =>
    rcases h1 with rfl | ⟨b, off, h, _⟩
    · exact new_nil bits a2 0 a3 0 a4 0 m w
    · cases h
  | some x => exact new_some bits x n n a2 n a3 n a4 n Z1 Z2 Z3 Z4 m w hn h1 h2 h3 h4

/-- ZZMemberRefsFields, whatever the table. -/
theorem fields_any {w : World} {R : Nat} {bits m : Int} {v : Value} {es : List Ent} (hL : es.length ≤ 1048576) (h : Refs w R bits m v es) : Calls Try.prog 23 #[.pointer (some ⟨R, 0, none⟩)] w (Fields w bits m es) := by
  rcases h.own.2 with ⟨hv, h0⟩ | ⟨g, cap, cur, hv, _⟩
  · subst hv
    obtain rfl : es = [] := List.eq_nil_of_length_eq_zero h0
    exact fields_nil h
  · subst hv
    exact fields_some rfl hL h

/-- A copy of a slice of numbers. -/
def Copied (w : World) (n : Nat) (Z : Nat → Int) (s : Value) (wc : World) : Prop := ∃ a, s = .slice a n n ∧ U32s wc a n Z ∧ Below w.heap.size w wc

/-- 'copy(zzc, hi)' where zzc has just been made. -/
theorem wpList_copyU32 {ops : Array Oper} {rest : List Oper} {o : Oper} {a : Act} {Q : Exit → Act → World → Prop} (w0 : World) (n c : Nat) (x : Addr) (Z : Nat → Int) (hU : U32s w0 (some x) n Z) (hgd : o.guard = none) (d s : Operand)
    (ho : o.op = .call { callee := .builtin .copy, args := #[d, s], argTypes := #[40, 40] }) (hd : a.eval d = .slice (some ⟨w0.heap.size, 0, none⟩) n n) (hs : a.eval s = .slice (some x) n c)
    (h : ∀ w1, U32s w1 (some ⟨w0.heap.size, 0, none⟩) n Z → Below w0.heap.size w0 w1 → wpList Try.prog ops Q rest (a.put o.dst (goInt n)) w1) :
    wpList Try.prog ops Q (o :: rest) a (w0.alloc (.cells (madeCells #[.int .u32 0] n) 24)) := by
  have hl : ((List.range n).map (fun i => Value.int .u32 (Z i))).length = n := by simp
  have hm : (madeCells #[Value.int .u32 0] n).size = n := by simp [madeCells]
  have hg := Deep.blk_alloc_new w0 (.cells (madeCells #[.int .u32 0] n) 24)
  have hb0 : Below w0.heap.size w0 (w0.alloc (.cells (madeCells #[.int .u32 0] n) 24)) := (Below.refl _ _).alloc (Nat.le_refl _) _
  have key : ∀ (j : Nat) (v : Value), ((List.range n).map (fun i => Value.int .u32 (Z i)))[j]? = some v → (w0.alloc (.cells (madeCells #[.int .u32 0] n) 24)).cell? (x.add j) = some v := by
    intro j v hv
    have hj : j < n := by
      have := (List.getElem?_eq_some_iff.1 hv).1
      simpa using this
    rcases hU with h0 | ⟨b, off, hx, hlt, hc⟩
    · omega
    · obtain rfl : x = ⟨b, off, none⟩ := Option.some.inj hx
      have e : v = .int .u32 (Z j) := by
        simp [hj] at hv
        exact hv.symm
      rw [e, Addr.add_lit]
      exact (hb0.cell (p := ⟨b, off + j, none⟩) hlt).trans (hc j hj)
  refine wpList_copy_own hgd d s 40 40 ho 24 Try.underlying40 (by kernel_rfl) w0.heap.size 0 n n x n c hd hs (madeCells #[.int .u32 0] n) 24 hg ((List.range n).map (fun i => Value.int .u32 (Z i))) ?_ key ?_ ?_ ?_
  · rw [hl]; exact (Nat.min_self n).symm
  · rw [hl, hm]; omega
  · intro u hu
    obtain ⟨i, _, rfl⟩ := List.mem_map.1 hu
    rfl
  · have := h ((w0.alloc (.cells (madeCells #[.int .u32 0] n) 24)).setRow w0.heap.size ((madeCells #[Value.int .u32 0] n).toList.take 0 ++ ((List.range n).map (fun i => Value.int .u32 (Z i)) ++ (madeCells #[Value.int .u32 0] n).toList.drop (0 + ((List.range n).map (fun i => Value.int .u32 (Z i))).length))).toArray) ?_ ?_
    · rw [hl] at this ⊢
      exact this
    · refine .inr ⟨_, 0, rfl, by simp [World.setRow], fun i hi => ?_⟩
      rw [Nat.zero_add, cell_setRow_same _ _ _ _ _ _ _ hg]
      simp only [List.take_zero, List.nil_append, List.getElem?_toArray]
      rw [List.getElem?_append_left (by rw [hl]; omega)]
      simp [hi]
    · exact below_setRow hb0 (Nat.le_refl _) _

theorem made_cells (w : World) (n : Nat) : (w.alloc (.cells (madeCells #[.int .u32 0] n) 24)).heap[w.heap.size]? = some (.cells (madeCells #[.int .u32 0] n) 24 (0, 0)) := Deep.blk_alloc_new _ _

set_option maxRecDepth 100000 in
set_option maxHeartbeats 4000000 in
theorem walk (bits : Int) (a1 : Option Addr) (n1 c1 : Nat) (Z1 : Nat → Int) (a2 : Option Addr) (n2 c2 : Nat) (Z2 : Nat → Int) (a3 : Option Addr) (n3 c3 : Nat) (Z3 : Nat → Int) (a4 : Option Addr) (n4 c4 : Nat) (Z4 : Nat → Int) (n a b : Int) (w : World)
    (h1 : U32s w a1 n1 Z1) (k1 : a1 = none → n1 = 0 ∧ c1 = 0) (h2 : U32s w a2 n2 Z2) (k2 : a2 = none → n2 = 0 ∧ c2 = 0) (h3 : U32s w a3 n3 Z3) (k3 : a3 = none → n3 = 0 ∧ c3 = 0) (h4 : U32s w a4 n4 Z4) (k4 : a4 = none → n4 = 0 ∧ c4 = 0) :
    Calls Try.prog 6 #[.int .i64 bits, .slice a1 n1 c1, .slice a2 n2 c2, .slice a3 n3 c3, .slice a4 n4 c4, .int .i64 n, .int .i64 a, .int .i64 b] w (Yes w) := by
  go_enter Try.func6, Try.ntmps6
  go_wp2_with fail
  refine (zzBytes_any bits a1 n1 c1 a2 n2 c2 a3 n3 c3 a4 n4 c4 n a b w).mono ?_
  rintro e w0 ⟨r, rfl, rfl⟩
  cases r
  · go_wp2
    go_ret
    exact ⟨rfl, Below.refl _ _⟩
  by_cases q1 : (65536 : Int) < (n1 : Int)
  · go_wp2
    go_ret
    exact ⟨rfl, Below.refl _ _⟩
  have dq1 : decide ((65536 : Int) < (n1 : Int)) = false := decide_eq_false q1
  by_cases q2 : (65536 : Int) < (n2 : Int)
  · go_wp2
    go_ret
    exact ⟨rfl, Below.refl _ _⟩
  have dq2 : decide ((65536 : Int) < (n2 : Int)) = false := decide_eq_false q2
  by_cases q3 : (65536 : Int) < (n3 : Int)
  · go_wp2
    go_ret
    exact ⟨rfl, Below.refl _ _⟩
  have dq3 : decide ((65536 : Int) < (n3 : Int)) = false := decide_eq_false q3
  by_cases q4 : (65536 : Int) < (n4 : Int)
  · go_wp2
    go_ret
    exact ⟨rfl, Below.refl _ _⟩
  have dq4 : decide ((65536 : Int) < (n4 : Int)) = false := decide_eq_false q4
  by_cases q5 : bits < 0
  · go_wp2
    go_ret
    exact ⟨rfl, Below.refl _ _⟩
  have dq5 : decide (bits < 0) = false := decide_eq_false q5
  by_cases q6 : 61 < bits
  · go_wp2
    go_ret
    exact ⟨rfl, Below.refl _ _⟩
  have dq6 : decide (61 < bits) = false := decide_eq_false q6
  by_cases q7 : n < 0
  · go_wp2
    go_ret
    exact ⟨rfl, Below.refl _ _⟩
  have dq7 : decide (n < 0) = false := decide_eq_false q7
  by_cases q8 : 65536 < n
  · go_wp2
    go_ret
    exact ⟨rfl, Below.refl _ _⟩
  have dq8 : decide (65536 < n) = false := decide_eq_false q8
  by_cases q9 : a < 0
  · go_wp2
    go_ret
    exact ⟨rfl, Below.refl _ _⟩
  have dq9 : decide (a < 0) = false := decide_eq_false q9
  by_cases q10 : 65536 < a
  · go_wp2
    go_ret
    exact ⟨rfl, Below.refl _ _⟩
  have dq10 : decide (65536 < a) = false := decide_eq_false q10
  by_cases q11 : b < 0
  · go_wp2
    go_ret
    exact ⟨rfl, Below.refl _ _⟩
  have dq11 : decide (b < 0) = false := decide_eq_false q11
  by_cases q12 : 65536 < b
  · go_wp2
    go_ret
    exact ⟨rfl, Below.refl _ _⟩
  have dq12 : decide (65536 < b) = false := decide_eq_false q12
  by_cases q13 : 65536 < n + a
  · go_wp2
    go_ret
    exact ⟨rfl, Below.refl _ _⟩
  have dq13 : decide (65536 < n + a) = false := decide_eq_false q13
  by_cases q14 : 65536 < n + b
  · go_wp2
    go_ret
    exact ⟨rfl, Below.refl _ _⟩
  have dq14 : decide (65536 < n + b) = false := decide_eq_false q14
  by_cases m2 : ¬ n2 = n1
  · have dm2 : ((n2 : Int) != (n1 : Int)) = true := by rw [bne_iff_ne]; omega
    go_wp2
    go_ret
    exact ⟨rfl, Below.refl _ _⟩
  have dm2 : ((n2 : Int) != (n1 : Int)) = false := by rw [bne_eq_false_iff_eq]; omega
  by_cases m3 : ¬ n3 = n1
  · have dm3 : ((n3 : Int) != (n1 : Int)) = true := by rw [bne_iff_ne]; omega
    go_wp2
    go_ret
    exact ⟨rfl, Below.refl _ _⟩
  have dm3 : ((n3 : Int) != (n1 : Int)) = false := by rw [bne_eq_false_iff_eq]; omega
  by_cases m4 : ¬ n4 = n1
  · have dm4 : ((n4 : Int) != (n1 : Int)) = true := by rw [bne_iff_ne]; omega
    go_wp2
    go_ret
    exact ⟨rfl, Below.refl _ _⟩
  have dm4 : ((n4 : Int) != (n1 : Int)) = false := by rw [bne_eq_false_iff_eq]; omega
  obtain rfl : n2 = n1 := by omega
  obtain rfl : n3 = n2 := by omega
  obtain rfl : n4 = n3 := by omega
  obtain ⟨b0, rfl⟩ := Int.eq_ofNat_of_zero_le (show 0 ≤ bits by omega)
  obtain ⟨n, rfl⟩ := Int.eq_ofNat_of_zero_le (show 0 ≤ n by omega)
  obtain ⟨a, rfl⟩ := Int.eq_ofNat_of_zero_le (show 0 ≤ a by omega)
  obtain ⟨b, rfl⟩ := Int.eq_ofNat_of_zero_le (show 0 ≤ b by omega)
  clear m2 m3 m4
  have hb0 : b0 ≤ 61 := by omega
  have hna : n + a ≤ 65536 := by omega
  have hnb : n + b ≤ 65536 := by omega
  have hn4 : n4 ≤ 65536 := by omega
  have hmk := run_make_row' (P := Try.prog) 40 24 _ _ Try.underlying40 Try.info24 rfl .i64 .i64 n4 (by omega) (by omega)
  go_upto_if 137 with fail
  clear dq1 dq2 dq3 dq4 dq5 dq6 dq7 dq8 dq9 dq10 dq11 dq12 dq13 dq14 dm2 dm3 dm4 q1 q2 q3 q4 q5 q6 q7 q8 q9 q10 q11 q12 q13 q14
  go_cut [1] from 36 (fun s wd => ∃ y1, s = .slice y1 n4 n4 ∧ U32s wd y1 n4 Z1 ∧ U32s wd a2 n4 Z2 ∧ U32s wd a3 n4 Z3 ∧ U32s wd a4 n4 Z4 ∧ Below w0.heap.size w0 wd)
  case first => as_aux_lemma =>
    cases a1 with
    | none =>
      obtain ⟨rfl, rfl⟩ := k1 rfl
      go_wp2
      go_meet
      case rel => exact ⟨none, rfl, h1, h2, h3, h4, Below.refl _ _⟩
    | some x =>
      have H := hide' (show U32s w0 (some x) n4 Z1 ∧ U32s w0 a2 n4 Z2 ∧ U32s w0 a3 n4 Z3 ∧ U32s w0 a4 n4 Z4 from ⟨h1, h2, h3, h4⟩)
      clear h2 h3 h4
      go_upto_region 16 with fail
      go_wp2_with (refine wpList_copyU32 w0 n4 c1 x Z1 h1 rfl (.tmp 141) (.tmp 142) rfl rfl rfl ?_)
      intro w1 u1 b1
      go_wp2
      go_meet
      case rel => exact ⟨_, rfl, u1, H.out.2.1.below b1, H.out.2.2.1.below b1, H.out.2.2.2.below b1, b1⟩
  case rest =>
  clear h1 h2 h3 h4
  obtain ⟨y1, rfl, h1, h2, h3, h4, hbc⟩ := hcut
  go_upto_if 146 with fail
  go_cut [2] from 36 (fun s wd => ∃ y2, s = .slice y2 n4 n4 ∧ U32s wd y1 n4 Z1 ∧ U32s wd y2 n4 Z2 ∧ U32s wd a3 n4 Z3 ∧ U32s wd a4 n4 Z4 ∧ Below w0.heap.size w0 wd)
  case first => as_aux_lemma =>
    cases a2 with
    | none =>
      obtain ⟨rfl, rfl⟩ := k2 rfl
      go_wp2
      go_meet
      case rel => exact ⟨none, rfl, h1, h2, h3, h4, hbc⟩
    | some x =>
      have H := hide' (show U32s wc y1 n4 Z1 ∧ U32s wc (some x) n4 Z2 ∧ U32s wc a3 n4 Z3 ∧ U32s wc a4 n4 Z4 from ⟨h1, h2, h3, h4⟩)
      clear h1 h3 h4
      go_upto_region 20 with fail
      go_wp2_with (refine wpList_copyU32 wc n4 c2 x Z2 h2 rfl (.tmp 150) (.tmp 151) rfl rfl rfl ?_)
      intro w1 u1 b1
      go_wp2
      go_meet
      case rel => exact ⟨_, rfl, H.out.1.below b1, u1, H.out.2.2.1.below b1, H.out.2.2.2.below b1, hbc.trans (b1.mono hbc.size)⟩
  case rest =>
  clear h1 h2 h3 h4 hbc
  obtain ⟨y2, rfl, h1, h2, h3, h4, hbc⟩ := hcut
  go_upto_if 155 with fail
  go_cut [3] from 36 (fun s wd => ∃ y3, s = .slice y3 n4 n4 ∧ U32s wd y1 n4 Z1 ∧ U32s wd y2 n4 Z2 ∧ U32s wd y3 n4 Z3 ∧ U32s wd a4 n4 Z4 ∧ Below w0.heap.size w0 wd)
  case first => as_aux_lemma =>
    cases a3 with
    | none =>
      obtain ⟨rfl, rfl⟩ := k3 rfl
      go_wp2
      go_meet
      case rel => exact ⟨none, rfl, h1, h2, h3, h4, hbc⟩
    | some x =>
      have H := hide' (show U32s wc y1 n4 Z1 ∧ U32s wc y2 n4 Z2 ∧ U32s wc (some x) n4 Z3 ∧ U32s wc a4 n4 Z4 from ⟨h1, h2, h3, h4⟩)
      clear h1 h2 h4
      go_upto_region 24 with fail
      go_wp2_with (refine wpList_copyU32 wc n4 c3 x Z3 h3 rfl (.tmp 159) (.tmp 160) rfl rfl rfl ?_)
      intro w1 u1 b1
      go_wp2
      go_meet
      case rel => exact ⟨_, rfl, H.out.1.below b1, H.out.2.1.below b1, u1, H.out.2.2.2.below b1, hbc.trans (b1.mono hbc.size)⟩
  case rest =>
  clear h1 h2 h3 h4 hbc
  obtain ⟨y3, rfl, h1, h2, h3, h4, hbc⟩ := hcut
  go_upto_if 164 with fail
  go_cut [4] from 36 (fun s wd => ∃ y4, s = .slice y4 n4 n4 ∧ U32s wd y1 n4 Z1 ∧ U32s wd y2 n4 Z2 ∧ U32s wd y3 n4 Z3 ∧ U32s wd y4 n4 Z4 ∧ Below w0.heap.size w0 wd)
  case first => as_aux_lemma =>
    cases a4 with
    | none =>
      obtain ⟨rfl, rfl⟩ := k4 rfl
      go_wp2
      go_meet
      case rel => exact ⟨none, rfl, h1, h2, h3, h4, hbc⟩
    | some x =>
      have H := hide' (show U32s wc y1 n4 Z1 ∧ U32s wc y2 n4 Z2 ∧ U32s wc y3 n4 Z3 ∧ U32s wc (some x) n4 Z4 from ⟨h1, h2, h3, h4⟩)
      clear h1 h2 h3
      go_upto_region 28 with fail
      go_wp2_with (refine wpList_copyU32 wc n4 c4 x Z4 h4 rfl (.tmp 168) (.tmp 169) rfl rfl rfl ?_)
      intro w1 u1 b1
      go_wp2
      go_meet
      case rel => exact ⟨_, rfl, H.out.1.below b1, H.out.2.1.below b1, H.out.2.2.1.below b1, u1, hbc.trans (b1.mono hbc.size)⟩
  case rest =>
  clear h1 h2 h3 h4 hbc
  obtain ⟨y4, rfl, h1, h2, h3, h4, hbc⟩ := hcut
  clear hmk k1 k2 k3 k4
  go_wp2_with fail
  refine (new_any (b0 : Int) y1 n4 y2 y3 y4 Z1 Z2 Z3 Z4 (n : Int) _ hn4 h1 h2 h3 h4).mono ?_
  rintro e w1 ⟨v1, rfl, hr1, hb1⟩
  have hes := entsTo_length Z1 Z2 Z3 Z4 n4 n4
  have HU := hide' (show U32s wc y1 n4 Z1 ∧ U32s wc y2 n4 Z2 ∧ U32s wc y3 n4 Z3 ∧ U32s wc y4 n4 Z4 from ⟨h1, h2, h3, h4⟩)
  have HNEW := hide' (show ∀ W, Below wc.heap.size wc W → Calls Try.prog 21 #[.int .i64 (b0 : Int), .slice y1 n4 n4, .slice y2 n4 n4, .slice y3 n4 n4, .slice y4 n4 n4, .int .i64 (n : Int)] W (New W (b0 : Int) (n : Int) (entsTo Z1 Z2 Z3 Z4 n4 n4)) from
    fun W hW => new_any (b0 : Int) y1 n4 y2 y3 y4 Z1 Z2 Z3 Z4 (n : Int) W hn4 (h1.below hW) (h2.below hW) (h3.below hW) (h4.below hW))
  clear h1 h2 h3 h4 HU
  generalize entsTo Z1 Z2 Z3 Z4 n4 n4 = es at *
  generalize hR1 : wc.heap.size = R1 at *
  go_wp2_with fail
  refine (grow22 hb0 hna (by omega) hr1).mono ?_
  rintro e w2 ⟨ba, v2, rfl, hla, hr2, hb2⟩
  have hba : ba ≤ 61 := by rcases hla.bound (by omega) with h | h <;> omega
  have hl2 := grown_length hla hna es
  clear hr1
  go_wp2_with fail
  refine (grow22 hba hnb (by omega) hr2).mono ?_
  rintro e w3 ⟨bb, v3, rfl, hlb, hr3, hb3⟩
  have hl3 := grown_length hlb hnb (P.grown used home zeroEnt b0 ba es)
  clear hr2
  have hbA : Below R1 wc w3 := (hb1.trans hb2).trans hb3
  have hbW : Below w0.heap.size w0 w3 := hbc.trans (hbA.mono (by rw [← hR1]; exact hbc.size))
  have hs3 : R1 ≤ w3.heap.size := by have := hr3.lt; omega
  clear hb1 hb2 hb3 hbc
  have HLA := hide' hla
  have HLB := hide' hlb
  clear hla hlb
  obtain ⟨m, hm⟩ : ∃ m, m = max a b := ⟨_, rfl⟩
  have hnm : n + m ≤ 65536 := by omega
  have HM := hide' hm
  go_upto_if 188 with fail
  go_cut [22] from 36 (fun s wx => s = .int .i64 (m : Int) ∧ wx = w3)
  case first => as_aux_lemma =>
    by_cases hab : (a : Int) < (b : Int)
    · have HE := hide' (show ((b : Nat) : Int) = (m : Int) by omega)
      clear hm
      go_wp2
      go_meet
      case rel => exact ⟨by rw [HE.out], rfl⟩
    · have HE := hide' (show ((a : Nat) : Int) = (m : Int) by omega)
      clear hm
      go_wp2
      go_meet
      case rel => exact ⟨by rw [HE.out], rfl⟩
  case rest => as_aux_lemma =>
  obtain ⟨rfl, hw3⟩ := hcut
  subst hw3
  clear hm
  go_wp2_with fail
  refine (HNEW.out _ hbA).mono ?_
  rintro e w4 ⟨v4, rfl, hr4, hb4⟩
  clear HNEW hbA
  go_wp2_with fail
  refine (grow22 hb0 hnm (by omega) hr4).mono ?_
  rintro e w5 ⟨bm, v5, rfl, hlm, hr5, hb5⟩
  have hb35 := hb4.trans hb5
  have hr35 := hr3.below hb35
  have hfin := hbW.trans (hb35.mono hbW.size)
  have hlm' : P.Least b0 (4 * (n + max a b)) bm := by rw [← HM.out]; exact hlm
  obtain ⟨e1, e2⟩ := P.twice used home zeroEnt zero_unused home_lt hb0 hna es HLA.out HLB.out hlm'
  subst e1
  rw [e2] at hr35 hl3
  clear hr3 hr4 hb4 hb5 hb35 hlm hlm' HLA HLB e2 hbW
  generalize P.grown used home zeroEnt b0 bb es = out at *
  have hol : out.length ≤ 1048576 := by omega
  have hbe : ((bb : Int) == (bb : Int)) = true := by simp
  have hne : ((n : Int) == (n : Int)) = true := by simp
  go_wp2_with fail
  refine (fields_any hol hr35).mono ?_
  rintro e w6 ⟨x1, x2, x3, x4, rfl, s1, s2, s3, s4, hb6⟩
  have hr56 := hr5.below hb6
  have hfin := hfin.trans (hb6.mono hfin.size)
  clear hr35 hr5 hb6
  go_wp2_with fail
  refine (fields_any hol hr56).mono ?_
  rintro e w7 ⟨z1, z2, z3, z4, rfl, t1, t2, t3, t4, hb7⟩
  have s1 := s1.below hb7
  have s2 := s2.below hb7
  have s3 := s3.below hb7
  have s4 := s4.below hb7
  have hfin := hfin.trans (hb7.mono hfin.size)
  clear hr56 hb7
  go_wp2_with fail
  refine (same_any x1 z1 out.length _ _ _ _ (by omega) s1 t1).mono ?_
  rintro e p1 ⟨rfl, hp⟩
  have s2 := s2.below hp
  have t2 := t2.below hp
  have s3 := s3.below hp
  have t3 := t3.below hp
  have s4 := s4.below hp
  have t4 := t4.below hp
  have hfin := hfin.trans (hp.mono hfin.size)
  clear hp
  go_wp2_with fail
  refine (same_any x2 z2 out.length _ _ _ _ (by omega) s2 t2).mono ?_
  rintro e p2 ⟨rfl, hp⟩
  have s3 := s3.below hp
  have t3 := t3.below hp
  have s4 := s4.below hp
  have t4 := t4.below hp
  have hfin := hfin.trans (hp.mono hfin.size)
  clear hp
  go_wp2_with fail
  refine (same_any x3 z3 out.length _ _ _ _ (by omega) s3 t3).mono ?_
  rintro e p3 ⟨rfl, hp⟩
  have s4 := s4.below hp
  have t4 := t4.below hp
  have hfin := hfin.trans (hp.mono hfin.size)
  clear hp
  go_wp2_with fail
  refine (same_any x4 z4 out.length _ _ _ _ (by omega) s4 t4).mono ?_
  rintro e p4 ⟨rfl, hp⟩
  have hfin := hfin.trans (hp.mono hfin.size)
  clear hp
  go_wp2
  go_ret
  exact ⟨rfl, hfin⟩
end Go.Proofs.Qxb6602557a.W
