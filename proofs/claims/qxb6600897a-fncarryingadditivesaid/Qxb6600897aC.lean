import Derived.Test.Qxb6600897aB
namespace Go.Proofs.Qxb6600897a.W
open Go.RowKit Go.Maps
set_option linter.unusedVariables false

/-- The sum of f over the first k strings, wrapped at each step. -/
def sumW (f : ByteArray → Int) (S : Nat → ByteArray) : Nat → Int
  | 0 => 0
  | k + 1 => wrap64 (sumW f S k + f (S k))

theorem wrap64_wf' (z : Int) : -9223372036854775808 ≤ wrap64 z ∧ wrap64 z ≤ 9223372036854775807 := by
  unfold wrap64; omega
theorem sumW_range (f : ByteArray → Int) (S : Nat → ByteArray) (k : Nat) : -9223372036854775808 ≤ sumW f S k ∧ sumW f S k ≤ 9223372036854775807 := by
  cases k with
  | zero => simp [sumW]
  | succ k => exact wrap64_wf' _
theorem sumW_zero (S : Nat → ByteArray) : ∀ k, sumW (fun _ => 0) S k = 0
  | 0 => rfl
  | k + 1 => by simp [sumW, sumW_zero S k, wrap64]
theorem sumW_skip {f : ByteArray → Int} {S : Nat → ByteArray} {k : Nat} (h : f (S k) = 0) : sumW f S (k + 1) = sumW f S k := by
  have := sumW_range f S k
  simp only [sumW, h]
  unfold wrap64; omega

/-- A number comes back; what was there is kept. -/
def Gives (z : Int) (w : World) (e : Ending) (w' : World) : Prop := e = .returned (.int .i64 z) ∧ Below w.heap.size w w'

theorem good_fun {w : World} {D : DataW Value} (h : Good w D) : ∃ f : ByteArray → Int, ∀ s : ByteArray,
    (D.atKey (.string s.data.toList) (.held (.pointer none)) = .held (.pointer none) ∧ f s = 0) ∨
    ∃ p, p < w.heap.size ∧ D.atKey (.string s.data.toList) (.held (.pointer none)) = .held (.pointer (some ⟨p, 0, none⟩)) ∧ w.cell? ⟨p, 0, none⟩ = some (.int .i64 (f s)) := by
  have h' : ∀ s : ByteArray, ∃ z : Int, (D.atKey (.string s.data.toList) (.held (.pointer none)) = .held (.pointer none) ∧ z = 0) ∨
    ∃ p, p < w.heap.size ∧ D.atKey (.string s.data.toList) (.held (.pointer none)) = .held (.pointer (some ⟨p, 0, none⟩)) ∧ w.cell? ⟨p, 0, none⟩ = some (.int .i64 z) := by
    intro s
    rcases h (.string s.data.toList) with h | ⟨p, c, h1, h2, h3, _⟩
    · exact ⟨0, .inl ⟨h, rfl⟩⟩
    · exact ⟨c, .inr ⟨p, h1, h2, h3⟩⟩
  exact ⟨fun s => Classical.choose (h' s), fun s => Classical.choose_spec (h' s)⟩

theorem look50_nil {key : ByteArray} (hkey : key.size ≤ maxLen) (W : World) : (Instr.lookup 50 (.map none) (.string key) false).run Try.prog W = .ok (.pointer none) W := by
  simpa using Maps.look_nil (w := W) false law9 Try.underlying50 (zero57 W) (key9 hkey)

set_option maxRecDepth 100000 in
/-- No such namespace. -/
theorem carrying_none {w : World} {Bc nc : Nat} {Dc : DataW Value} {ns key : ByteArray} (hns : ns.size ≤ maxLen) (hkey : key.size ≤ maxLen) (hown : w.ownsMap Try.prog 9 held Bc nc Dc) (hat : Dc.atKey (.string ns.data.toList) (.held (.map none)) = .held (.map none))
    (x : Addr) (n c : Nat) : Calls Try.prog 34 #[.map (some Bc), .string ns, .agg #[.string key, .slice (some x) n c]] w (Gives 0 w) := by
  have hnil := fun W => look50_nil hkey W
  go_enter Try.func34, Try.ntmps34
  go_wp2_with (first
    | (at_lookup; refine wpList_lookup_held _ rfl _ _ 31 rfl 9 50 law9 Try.underlying31 (.map none) (zero50 _) Bc nc Dc rfl (hown.alloc _) _ _ rfl (key9 hns) (.map none) hat ?_)
    | go_in)
  go_ret
  exact ⟨rfl, (Below.refl _ _).alloc (Nat.le_refl _) _⟩

set_option maxRecDepth 100000 in
/-- No such key. -/
theorem carrying_nokey {w : World} {Bc nc Bk nk : Nat} {Dc Dk : DataW Value} {ns key : ByteArray} (hns : ns.size ≤ maxLen) (hkey : key.size ≤ maxLen) (hown : w.ownsMap Try.prog 9 held Bc nc Dc) (hat : Dc.atKey (.string ns.data.toList) (.held (.map none)) = .held (.map (some Bk)))
    (hownk : w.ownsMap Try.prog 9 held Bk nk Dk) (hatk : Dk.atKey (.string key.data.toList) (.held (.pointer none)) = .held (.pointer none))
    (x : Addr) (n c : Nat) : Calls Try.prog 34 #[.map (some Bc), .string ns, .agg #[.string key, .slice (some x) n c]] w (Gives 0 w) := by
  go_enter Try.func34, Try.ntmps34
  go_wp2_with (first
    | (at_lookup; refine wpList_lookup_held _ rfl _ _ 31 rfl 9 50 law9 Try.underlying31 (.map none) (zero50 _) Bc nc Dc rfl (hown.alloc _) _ _ rfl (key9 hns) (.map (some Bk)) hat ?_)
    | (at_lookup; refine wpList_lookup_held _ rfl _ _ 50 rfl 9 57 law9 Try.underlying50 (.pointer none) (zero57 _) Bk nk Dk rfl (hownk.alloc _) _ _ rfl (key9 hkey) (.pointer none) hatk ?_)
    | go_in)
  go_ret
  exact ⟨rfl, (Below.refl _ _).alloc (Nat.le_refl _) _⟩

set_option maxRecDepth 100000 in
set_option maxHeartbeats 1000000 in
/-- The key is there. -/
theorem carrying_key {w : World} {Bc nc Bk nk Bl B0 n0 : Nat} {Dc Dk D0 : DataW Value} {ns key : ByteArray} {cl : Int} (hns : ns.size ≤ maxLen) (hkey : key.size ≤ maxLen) (hown : w.ownsMap Try.prog 9 held Bc nc Dc) (hat : Dc.atKey (.string ns.data.toList) (.held (.map none)) = .held (.map (some Bk)))
    (hownk : w.ownsMap Try.prog 9 held Bk nk Dk) (hatk : Dk.atKey (.string key.data.toList) (.held (.pointer none)) = .held (.pointer (some ⟨Bl, 0, none⟩)))
    (hBl : Bl < w.heap.size) (c0 : w.cell? ⟨Bl, 0, none⟩ = some (.int .i64 cl)) (c1 : w.cell? ⟨Bl, 1, none⟩ = some (.map (some B0))) (hown0 : w.ownsMap Try.prog 9 held B0 n0 D0) (f : ByteArray → Int)
    (hf : ∀ s : ByteArray, (D0.atKey (.string s.data.toList) (.held (.pointer none)) = .held (.pointer none) ∧ f s = 0) ∨
    ∃ p, p < w.heap.size ∧ D0.atKey (.string s.data.toList) (.held (.pointer none)) = .held (.pointer (some ⟨p, 0, none⟩)) ∧ w.cell? ⟨p, 0, none⟩ = some (.int .i64 (f s)))
    (x : Addr) (n c : Nat) (S : Nat → ByteArray) (hn : n ≤ 1048576) (h : Strs w (some x) n S) (hS : ∀ i, i < n → (S i).size ≤ maxLen) : Calls Try.prog 34 #[.map (some Bc), .string ns, .agg #[.string key, .slice (some x) n c]] w (Gives (sumW f S n) w) := by
  have q22 : ∀ (w : World) (a : Option Addr) (n c n' c' : Nat), (binOp .eql 22 (.slice a n c) (.slice none n' c')).run Try.prog w = .ok (.bool a.isNone) w := fun w a n c n' c' => Lib.run_eql_slice_nil w _ _ a n c n' c' Try.underlying22
  go_enter Try.func34, Try.ntmps34
  go_wp2_with (first
    | (at_lookup; refine wpList_lookup_held _ rfl _ _ 31 rfl 9 50 law9 Try.underlying31 (.map none) (zero50 _) Bc nc Dc rfl (hown.alloc _) _ _ rfl (key9 hns) (.map (some Bk)) hat ?_)
    | (at_lookup; refine wpList_lookup_held _ rfl _ _ 50 rfl 9 57 law9 Try.underlying50 (.pointer none) (zero57 _) Bk nk Dk rfl (hownk.alloc _) _ _ rfl (key9 hkey) (.pointer (some ⟨Bl, 0, none⟩)) hatk ?_)
    | go_in)
  clear hown hat hownk hatk c0
  go_loop [8, 32] (fun t i => ∃ k : Nat, k ≤ n ∧ i = .int .i64 k ∧ t = .int .i64 (sumW f S k)) (fun _ i => n - (intOf i).toNat)
  case atStart => exact ⟨0, Nat.zero_le _, rfl, rfl⟩
  case round =>
    obtain ⟨k, hk, rfl, rfl⟩ := hrel
    by_cases hlt : k < n
    · rcases h with rfl | ⟨b, off, hx, hl, hc⟩
      · omega
      obtain rfl : x = ⟨b, off, none⟩ := Option.some.inj hx
      clear hx
      have hcx := hc k hlt
      have hSk := hS k hlt
      clear hc hS
      rcases hf (S k) with ⟨hat, hz⟩ | ⟨p, hp, hat, hcp⟩
      · have HZ : Hid (f (S k) = 0) := hz
        clear hz
        go_wp2_with (first
          | (at_lookup; refine wpList_lookup_held _ rfl _ _ 58 rfl 9 55 law9 Try.underlying58 (.pointer none) (zero55 _) B0 n0 D0 rfl (hown0.alloc _) _ _ rfl (key9 hSk) (.pointer none) hat ?_)
          | go_in)
        go_round
        case rel => exact ⟨k + 1, by omega, by go_num, by rw [sumW_skip HZ.out]⟩
        case measure => simp [intOf]; omega
      · go_wp2_with (first
          | (at_lookup; refine wpList_lookup_held _ rfl _ _ 58 rfl 9 55 law9 Try.underlying58 (.pointer none) (zero55 _) B0 n0 D0 rfl (hown0.alloc _) _ _ rfl (key9 hSk) (.pointer (some ⟨p, 0, none⟩)) hat ?_)
          | go_in)
        go_round
        case rel => exact ⟨k + 1, by omega, by go_num, rfl⟩
        case measure => simp [intOf]; omega
    · have : k = n := by omega
      subst this
      go_wp2
      go_ret
      exact ⟨rfl, (Below.refl _ _).alloc (Nat.le_refl _) _⟩

end Go.Proofs.Qxb6600897a.W
