import Derived.Test.Qxb6600897aC
namespace Go.Proofs.Qxb6600897a.W
open Go.RowKit Go.Maps
set_option linter.unusedVariables false

/-- carrying, over whatever counts: one function f says what each value adds, in every later world. -/
theorem carry34 {w : World} {Bc : Nat} (h : Cs w Bc) {ns key : ByteArray} (hns : ns.size ≤ maxLen) (hkey : key.size ≤ maxLen) :
    ∃ f : ByteArray → Int, ∀ w', Below w.heap.size w w' → ∀ (x : Addr) (n c : Nat) (S : Nat → ByteArray), n ≤ 1048576 → Strs w' (some x) n S → (∀ i, i < n → (S i).size ≤ maxLen) →
      Calls Try.prog 34 #[.map (some Bc), .string ns, .agg #[.string key, .slice (some x) n c]] w' (Gives (sumW f S n) w') := by
  obtain ⟨Dc, nc, hown, hc⟩ := h
  rcases hc (.string ns.data.toList) with hat | ⟨Bk, hat, Dk, nk, hownk, hk⟩
  · refine ⟨fun _ => 0, fun w' hb x n c S hn hx hS => ?_⟩
    rw [sumW_zero]
    exact carrying_none hns hkey (ownsMap_below hown hb) hat x n c
  · rcases hk (.string key.data.toList) with hatk | ⟨Bl, hatk, hlc⟩
    · refine ⟨fun _ => 0, fun w' hb x n c S hn hx hS => ?_⟩
      rw [sumW_zero]
      exact carrying_nokey hns hkey (ownsMap_below hown hb) hat (ownsMap_below hownk hb) hatk x n c
    · obtain ⟨B0, D0, n0, cl, hBl, c0, c1, hown0, hgood⟩ := hlc
      obtain ⟨f, hf⟩ := good_fun hgood
      refine ⟨f, fun w' hb x n c S hn hx hS => ?_⟩
      refine carrying_key hns hkey (ownsMap_below hown hb) hat (ownsMap_below hownk hb) hatk (Nat.lt_of_lt_of_le hBl hb.size) ((hb.cell (p := ⟨Bl, 0, none⟩) hBl).trans c0) ((hb.cell (p := ⟨Bl, 1, none⟩) hBl).trans c1) (ownsMap_below hown0 hb) f ?_ x n c S hn hx hS
      intro s
      rcases hf s with hz | ⟨p, hp, h1, h2⟩
      · exact .inl hz
      · exact .inr ⟨p, Nat.lt_of_lt_of_le hp hb.size, h1, (hb.cell (p := ⟨p, 0, none⟩) hp).trans h2⟩

set_option maxRecDepth 100000 in
/-- ZZCarryingB1. -/
theorem carry15 {w : World} {Bc : Nat} (h : Cs w Bc) {ns key : ByteArray} (hns : ns.size ≤ maxLen) (hkey : key.size ≤ maxLen) :
    ∃ f : ByteArray → Int, ∀ w', Below w.heap.size w w' → ∀ (x : Addr) (n c : Nat) (S : Nat → ByteArray), n ≤ 1048576 → Strs w' (some x) n S → (∀ i, i < n → (S i).size ≤ maxLen) →
      Calls Try.prog 15 #[.map (some Bc), .string ns, .agg #[.string key, .slice (some x) n c]] w' (Gives (sumW f S n) w') := by
  obtain ⟨f, hf⟩ := carry34 h hns hkey
  refine ⟨f, fun w' hb x n c S hn hx hS => ?_⟩
  have ha : Below w'.heap.size w' (w'.alloc (.cells #[.string key, .slice (some x) n c] 35)) := (Below.refl _ _).alloc (Nat.le_refl _) _
  have hcall := hf _ (hb.trans (ha.mono hb.size)) x n c S hn (hx.below ha) hS
  clear hf
  go_enter Try.func15, Try.ntmps15
  go_wp2_with fail
  refine hcall.mono ?_
  rintro e w1 ⟨rfl, hb1⟩
  clear hcall
  go_wp2
  go_ret
  exact ⟨rfl, ha.trans (hb1.mono (by simp))⟩

/-! ### The plain law -/
theorem wrap64_add (a b : Int) : wrap64 (wrap64 a + b) = wrap64 (a + b) := by
  unfold wrap64; omega
theorem wrap64_add' (a b : Int) : wrap64 (a + wrap64 b) = wrap64 (a + b) := by
  unfold wrap64; omega
theorem wrap64_id {a : Int} (h : -9223372036854775808 ≤ a ∧ a ≤ 9223372036854775807) : wrap64 a = a := by
  unfold wrap64; omega

/-- The strings of a, then those of b. -/
def joined (S T : Nat → ByteArray) (n : Nat) (i : Nat) : ByteArray := if i < n then S i else T (i - n)

theorem sumW_left (f : ByteArray → Int) (S T : Nat → ByteArray) (n : Nat) : ∀ k, k ≤ n → sumW f (joined S T n) k = sumW f S k
  | 0, _ => rfl
  | k + 1, h => by
    simp only [sumW]
    rw [sumW_left f S T n k (by omega)]
    simp [joined, show k < n by omega]
theorem sumW_right (f : ByteArray → Int) (S T : Nat → ByteArray) (n : Nat) : ∀ k, sumW f (joined S T n) (n + k) = wrap64 (sumW f S n + sumW f T k)
  | 0 => by
    show sumW f (joined S T n) n = wrap64 (sumW f S n + 0)
    rw [sumW_left f S T n n (Nat.le_refl _), Int.add_zero, wrap64_id (sumW_range _ _ _)]
  | k + 1 => by
    show wrap64 (sumW f (joined S T n) (n + k) + f (joined S T n (n + k))) = wrap64 (sumW f S n + wrap64 (sumW f T k + f (T k)))
    rw [sumW_right f S T n k, wrap64_add, wrap64_add']
    have e : joined S T n (n + k) = T k := by
      unfold joined
      rw [if_neg (by omega)]
      congr 1
      omega
    rw [e, Int.add_assoc]

end Go.Proofs.Qxb6600897a.W
