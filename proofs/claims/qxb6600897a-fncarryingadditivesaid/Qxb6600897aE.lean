import Derived.Test.Qxb6600897aD
namespace Go.Proofs.Qxb6600897a.W
open Go.RowKit Go.Maps
set_option linter.unusedVariables false

/-- cloneStrsB1, whatever comes in. -/
def CloneS (w : World) (a : Option Addr) (n : Nat) (S : Nat → ByteArray) (e : Ending) (w' : World) : Prop :=
  ∃ a', e = .returned (.slice a' n n) ∧ Strs w' a' n S ∧ Below w.heap.size w w' ∧ (a ≠ none → ∃ x, a' = some x)
def CloneI (w : World) (a : Option Addr) (n : Nat) (Z : Nat → Int) (e : Ending) (w' : World) : Prop :=
  ∃ a', e = .returned (.slice a' n n) ∧ Ints w' a' n Z ∧ Below w.heap.size w w'

theorem cloneStrs_any (a : Option Addr) (n c : Nat) (S : Nat → ByteArray) (w : World) (hn : n ≤ 1048576) (hnil : a = none → n = 0 ∧ c = 0) (h : Strs w a n S) :
    Calls Try.prog 12 #[.slice a n c] w (CloneS w a n S) := by
  cases a with
  | none =>
    obtain ⟨rfl, rfl⟩ := hnil rfl
    refine (cloneStrs_nil w (fun i => .string (S i)) 9).mono ?_
    intro e w' h
    rcases h with ⟨_, rfl, rfl⟩ | ⟨h, _⟩
    · exact ⟨none, rfl, .inl rfl, Below.refl _ _, fun h => absurd rfl h⟩
    · exact absurd rfl h
  | some x =>
    refine (cloneStrs_some x n c S w hn h).mono ?_
    intro e w' h
    rcases h with ⟨h, _⟩ | ⟨_, rfl, hr, hb⟩
    · cases h
    · exact ⟨_, rfl, .inr ⟨_, 0, rfl, hr.lt, fun i hi => by rw [Nat.zero_add]; exact hr.cell hi⟩, hb, fun _ => ⟨_, rfl⟩⟩

theorem cloneInts_any (a : Option Addr) (n c : Nat) (S : Nat → Int) (w : World) (hn : n ≤ 1048576) (hnil : a = none → n = 0 ∧ c = 0) (h : Ints w a n S) :
    Calls Try.prog 13 #[.slice a n c] w (CloneI w a n S) := by
  cases a with
  | none =>
    obtain ⟨rfl, rfl⟩ := hnil rfl
    refine (cloneInts_nil w (fun i => .int .i64 (S i)) 3).mono ?_
    intro e w' h
    rcases h with ⟨_, rfl, rfl⟩ | ⟨h, _⟩
    · exact ⟨none, rfl, .inl rfl, Below.refl _ _⟩
    · exact absurd rfl h
  | some x =>
    refine (cloneInts_some x n c S w hn h).mono ?_
    intro e w' h
    rcases h with ⟨h, _⟩ | ⟨_, rfl, hr, hb⟩
    · cases h
    · exact ⟨_, rfl, .inr ⟨_, 0, rfl, hr.lt, fun i hi => by rw [Nat.zero_add]; exact hr.cell hi⟩, hb⟩

/-- The joined slice while it is being filled: its first k strings are there. -/
def Filled (B : Nat) (S T : Nat → ByteArray) (n m : Nat) (w5 : World) (k : Nat) (wr : World) : Prop :=
  wr.rowIs B 9 (n + m) (fun i => if i < k then .string (joined S T n i) else .string ByteArray.empty) ∧ Below B w5 wr

theorem Filled.start (S T : Nat → ByteArray) (n m : Nat) (w5 : World) : Filled w5.heap.size S T n m w5 0 (w5.alloc (.cells (madeCells #[.string ByteArray.empty] (n + m)) 9)) :=
  ⟨by simpa using World.rowIs_made w5 (.string ByteArray.empty) (n + m) 9, (Below.refl _ _).alloc (Nat.le_refl _) _⟩

theorem Filled.step {B : Nat} {S T : Nat → ByteArray} {n m : Nat} {w5 : World} {k : Nat} {wr : World} (h : Filled B S T n m w5 k wr) {s : ByteArray} (hs : s = joined S T n k) :
    Filled B S T n m w5 (k + 1) (wr.setCell ⟨B, k, none⟩ (.string s)) := by
  subst hs
  refine ⟨(h.1.set k _).congr (fun j hj => ?_), h.2.setCell (Nat.le_refl _) _⟩
  by_cases e : j = k
  · subst e; simp
  · rw [if_neg e]
    by_cases e1 : j < k
    · rw [if_pos e1, if_pos (by omega)]
    · rw [if_neg e1, if_neg (by omega)]

theorem Filled.strs {S T : Nat → ByteArray} {n m : Nat} {w5 : World} {wr : World} (h : Filled w5.heap.size S T n m w5 (n + m) wr) :
    Strs wr (some ⟨w5.heap.size, 0, none⟩) (n + m) (joined S T n) :=
  .inr ⟨_, 0, rfl, h.1.lt, fun i hi => by rw [Nat.zero_add, h.1.cell hi, if_pos hi]⟩

theorem joined_left {S T : Nat → ByteArray} {n k : Nat} (h : k < n) : S k = joined S T n k := by simp [joined, h]
theorem joined_right {S T : Nat → ByteArray} {n k : Nat} : T k = joined S T n (n + k) := by
  unfold joined
  rw [if_neg (by omega), Nat.add_sub_cancel_left]

theorem joined_size {S T : Nat → ByteArray} {n m : Nat} (hS : ∀ i, i < n → (S i).size ≤ maxLen) (hT : ∀ i, i < m → (T i).size ≤ maxLen) : ∀ i, i < n + m → (joined S T n i).size ≤ maxLen := by
  intro i hi
  unfold joined
  split
  · exact hS i (by omega)
  · exact hT _ (by omega)

/-- The law's end. -/
def Fine (w : World) (e : Ending) (w' : World) : Prop := e = .returned (.bool true) ∧ Below w.heap.size w w'

set_option maxRecDepth 100000 in
set_option maxHeartbeats 2000000 in
theorem walk (ns0 key0 : ByteArray) (any0 : Int) (a3 : Option Addr) (n3 c3 : Nat) (S3 : Nat → ByteArray) (a4 : Option Addr) (n4 c4 : Nat) (Z4 : Nat → Int) (ns key : ByteArray)
    (a7 : Option Addr) (n7 c7 : Nat) (S7 : Nat → ByteArray) (a8 : Option Addr) (n8 c8 : Nat) (S8 : Nat → ByteArray) (w : World)
    (hns0 : ns0.size ≤ maxLen) (hkey0 : key0.size ≤ maxLen) (hns : ns.size ≤ maxLen) (hkey : key.size ≤ maxLen)
    (h3 : Strs w a3 n3 S3) (e3 : a3 = none → n3 = 0 ∧ c3 = 0) (s3 : ∀ i, i < n3 → (S3 i).size ≤ maxLen)
    (h4 : Ints w a4 n4 Z4) (e4 : a4 = none → n4 = 0 ∧ c4 = 0) (s4 : ∀ i, i < n4 → (Lit.int .i64 (Z4 i)).wf = true)
    (h7 : Strs w a7 n7 S7) (e7 : a7 = none → n7 = 0 ∧ c7 = 0) (s7 : ∀ i, i < n7 → (S7 i).size ≤ maxLen)
    (h8 : Strs w a8 n8 S8) (e8 : a8 = none → n8 = 0 ∧ c8 = 0) (s8 : ∀ i, i < n8 → (S8 i).size ≤ maxLen) :
    Calls Try.prog 3 #[.string ns0, .string key0, .int .i64 any0, .slice a3 n3 c3, .slice a4 n4 c4, .string ns, .string key, .slice a7 n7 c7, .slice a8 n8 c8] w (Fine w) := by
  have q22 : ∀ (w : World) (a : Option Addr) (n c n' c' : Nat), (binOp .eql 22 (.slice a n c) (.slice none n' c')).run Try.prog w = .ok (.bool a.isNone) w := fun w a n c n' c' => Lib.run_eql_slice_nil w _ _ a n c n' c' Try.underlying22
  go_enter Try.func3, Try.ntmps3
  go_wp2_with fail
  refine (zzBytes_any ns0 key0 any0 a3 n3 c3 S3 a4 n4 c4 ns key a7 n7 c7 S7 a8 n8 c8 S8 w h3 h7 h8).mono ?_
  rintro e w' ⟨r, rfl, rfl⟩
  cases r
  · go_wp2
    go_ret
    exact ⟨rfl, Below.refl _ _⟩
  by_cases g3 : (65536 : Int) < (n3 : Int)
  · go_wp2
    go_ret
    exact ⟨rfl, Below.refl _ _⟩
  have d3 : decide ((65536 : Int) < (n3 : Int)) = false := decide_eq_false g3
  by_cases g4 : (65536 : Int) < (n4 : Int)
  · go_wp2
    go_ret
    exact ⟨rfl, Below.refl _ _⟩
  have d4 : decide ((65536 : Int) < (n4 : Int)) = false := decide_eq_false g4
  by_cases g7 : (65536 : Int) < (n7 : Int)
  · go_wp2
    go_ret
    exact ⟨rfl, Below.refl _ _⟩
  have d7 : decide ((65536 : Int) < (n7 : Int)) = false := decide_eq_false g7
  by_cases g8 : (65536 : Int) < (n8 : Int)
  · go_wp2
    go_ret
    exact ⟨rfl, Below.refl _ _⟩
  have d8 : decide ((65536 : Int) < (n8 : Int)) = false := decide_eq_false g8
  go_wp2_with fail
  refine (countsBytes_any ns0 key0 a3 n3 c3 S3 a4 n4 c4 _ (by omega) (by omega) h3).mono ?_
  rintro e w' ⟨r1, h10, h11, rfl, rfl⟩
  go_wp2_with fail
  refine (addBytes_any _ _ _).mono ?_
  rintro e w' ⟨r2, h20, h21, rfl, rfl⟩
  go_wp2_with fail
  refine (addBytes_any _ _ _).mono ?_
  rintro e w' ⟨r3, h30, h31, rfl, rfl⟩
  go_wp2_with fail
  refine (strsBytes_any _ _ _ S7 _ (by omega) h7).mono ?_
  rintro e w' ⟨r4, h40, h41, rfl, rfl⟩
  go_wp2_with fail
  refine (addBytes_any _ _ _).mono ?_
  rintro e w' ⟨r5, h50, h51, rfl, rfl⟩
  go_wp2_with fail
  refine (strsBytes_any _ _ _ S8 _ (by omega) h8).mono ?_
  rintro e w' ⟨r6, h60, h61, rfl, rfl⟩
  go_wp2_with fail
  refine (addBytes_any _ _ _).mono ?_
  rintro e w0 ⟨r7, h70, h71, rfl, rfl⟩
  by_cases gt : (1048576 : Int) < r7
  · go_wp2
    go_ret
    exact ⟨rfl, Below.refl _ _⟩
  by_cases gn : ¬ n4 = n3
  · have gd : ((n4 : Int) != (n3 : Int)) = true := by rw [bne_iff_ne]; omega
    go_wp2
    go_ret
    exact ⟨rfl, Below.refl _ _⟩
  obtain rfl : n4 = n3 := by omega
  have gd : ((n4 : Int) != (n4 : Int)) = false := by simp
  clear gn
  cases a7 with
  | none =>
    go_wp2
    go_ret
    exact ⟨rfl, Below.refl _ _⟩
  | some x7 =>
  cases a8 with
  | none =>
    go_wp2
    go_ret
    exact ⟨rfl, Below.refl _ _⟩
  | some x8 =>
  clear e7 e8 h10 h11 h20 h21 h30 h31 h40 h41 h50 h51 h60 h61
  go_wp2_with fail
  refine (cloneStrs_any a3 n4 c3 S3 _ (by omega) e3 h3).mono ?_
  rintro e w1 ⟨y3, rfl, k3, hb1, _⟩
  have h4 := h4.below hb1
  have h7 := h7.below hb1
  have h8 := h8.below hb1
  clear h3
  go_wp2_with fail
  refine (cloneInts_any a4 n4 c4 Z4 _ (by omega) e4 h4).mono ?_
  rintro e w2 ⟨y4, rfl, k4, hb2⟩
  have k3 := k3.below hb2
  have h7 := h7.below hb2
  have h8 := h8.below hb2
  have hb2 := hb1.trans (hb2.mono hb1.size)
  clear h4 hb1
  go_wp2_with fail
  refine (cloneStrs_any (some x7) n7 c7 S7 _ (by omega) (fun h => by cases h) h7).mono ?_
  rintro e w3 ⟨y7, rfl, k7, hb3, f7⟩
  have k3 := k3.below hb3
  have k4 := k4.below hb3
  have h8 := h8.below hb3
  have hb3 := hb2.trans (hb3.mono hb2.size)
  obtain ⟨y7, rfl⟩ := f7 (by simp)
  clear h7 hb2 f7
  go_wp2_with fail
  refine (cloneStrs_any (some x8) n8 c8 S8 _ (by omega) (fun h => by cases h) h8).mono ?_
  rintro e w4 ⟨y8, rfl, k8, hb4, f8⟩
  have k3 := k3.below hb4
  have k4 := k4.below hb4
  have k7 := k7.below hb4
  have hb4 := hb3.trans (hb4.mono hb3.size)
  obtain ⟨y8, rfl⟩ := f8 (by simp)
  clear h8 hb3 f8
  go_wp2_with fail
  refine (build_any ns0 key0 any0 y3 n4 n4 S3 y4 n4 Z4 _ (by omega) k3 k4 s3 s4 hns0 hkey0).mono ?_
  rintro e w5 ⟨Bc, rfl, hcs, hb5⟩
  have k7 := k7.below hb5
  have k8 := k8.below hb5
  have hb5 := hb4.trans (hb5.mono hb4.size)
  clear k3 k4 hb4 s3 s4
  obtain ⟨f, hf⟩ := carry15 hcs hns hkey
  have HF : Hid (∀ w', Below w5.heap.size w5 w' → ∀ (x : Addr) (n c : Nat) (S : Nat → ByteArray), n ≤ 1048576 → Strs w' (some x) n S → (∀ i, i < n → (S i).size ≤ maxLen) →
      Calls Try.prog 15 #[.map (some Bc), .string ns, .agg #[.string key, .slice (some x) n c]] w' (Gives (sumW f S n) w')) := hf
  clear hf hcs
  have hmk := run_make_row' (P := Try.prog) 22 9 _ _ Try.underlying22 Try.info9 rfl .i64 .i64 (n7 + n8) (by omega) (by omega)
  have ec : ((n7 + n8 : Nat) : Int) = (n7 : Int) + (n8 : Int) := by omega
  rw [ec] at hmk
  clear ec
  go_wp2_with fail
  clear hmk
  go_loopw [22] (fun i wr => ∃ k : Nat, k ≤ n7 ∧ i = .int .i64 k ∧ Filled w5.heap.size S7 S8 n7 n8 w5 k wr) (fun i _ => n7 - (intOf i).toNat)
  case atStart => exact ⟨0, Nat.zero_le _, rfl, Filled.start _ _ _ _ _⟩
  case round =>
    obtain ⟨k, hk, rfl, hfill⟩ := hrel
    by_cases hlt : k < n7
    · rcases k7 with rfl | ⟨b, off, hx, hl, hc⟩
      · omega
      obtain rfl : y7 = ⟨b, off, none⟩ := Option.some.inj hx
      clear hx
      have hcx : wr.cell? ⟨b, off + k, none⟩ = some (.string (S7 k)) := (hfill.2.cell (p := ⟨b, off + k, none⟩) hl).trans (hc k hlt)
      have hcy := hfill.1.cell (i := k) (by omega)
      have hfy := hfill.1.frozen k
      have R := hfill.step (joined_left (T := S8) hlt)
      clear hfill hc k8 HF
      go_wp2
      go_roundw
      case rel => exact ⟨k + 1, by omega, by go_num, R⟩
      case measure => simp [intOf]; omega
    · have hkn : n7 = k := by omega
      subst hkn
      go_wp2_with fail
      go_loopw [23] (fun i wx => ∃ k : Nat, k ≤ n8 ∧ i = .int .i64 k ∧ Filled w5.heap.size S7 S8 n7 n8 w5 (n7 + k) wx) (fun i _ => n8 - (intOf i).toNat)
      case atStart => exact ⟨0, Nat.zero_le _, rfl, hfill⟩
      case round =>
        clear hfill hk hlt
        obtain ⟨k, hk, rfl, hfill⟩ := hrel
        rename_i wx
        by_cases hlt : k < n8
        · rcases k8 with rfl | ⟨b, off, hx, hl, hc⟩
          · omega
          obtain rfl : y8 = ⟨b, off, none⟩ := Option.some.inj hx
          clear hx
          have hcx := (hfill.2.cell (p := ⟨b, off + k, none⟩) hl).trans (hc k hlt)
          have hcy := hfill.1.cell (i := n7 + k) (by omega)
          have hfy := hfill.1.frozen (n7 + k)
          have R := hfill.step (joined_right (S := S7) (T := S8) (n := n7) (k := k))
          clear hfill hc k7 HF
          go_wp2
          go_roundw
          case rel => exact ⟨k + 1, by omega, by go_num, R⟩
          case measure => simp [intOf]; omega
        · have hkn : n8 = k := by omega
          subst hkn
          have kab := hfill.strs
          have hbr := hfill.2
          have k7 := k7.below hbr
          have k8 := k8.below hbr
          have sab := joined_size s7 s8
          clear hfill hk hlt
          go_wp2_with fail
          refine (HF.out _ hbr _ _ (n7 + n8) _ (by omega) kab sab).mono ?_
          rintro e v1 ⟨rfl, hb1⟩
          have hbr1 := hbr.trans (hb1.mono hbr.size)
          have k7 := k7.below hb1
          have k8 := k8.below hb1
          clear kab sab hbr hb1
          go_wp2_with fail
          refine (HF.out _ hbr1 _ _ n7 _ (by omega) k7 s7).mono ?_
          rintro e v2 ⟨rfl, hb2⟩
          have hbr2 := hbr1.trans (hb2.mono hbr1.size)
          have k8 := k8.below hb2
          clear k7 hbr1 hb2
          go_wp2_with fail
          refine (HF.out _ hbr2 _ _ n8 _ (by omega) k8 s8).mono ?_
          rintro e v3 ⟨rfl, hb3⟩
          have hbr3 := hbr2.trans (hb3.mono hbr2.size)
          have hend := hb5.trans (hbr3.mono hb5.size)
          clear k8 hbr2 hb3 hbr3
          have HS : Hid (sumW f (joined S7 S8 n7) (n7 + n8) = wrap64 (sumW f S7 n7 + sumW f S8 n8)) := sumW_right f S7 S8 n7 n8
          go_wp2
          go_ret
          exact ⟨by rw [HS.out]; simp, hend⟩

end Go.Proofs.Qxb6600897a.W
