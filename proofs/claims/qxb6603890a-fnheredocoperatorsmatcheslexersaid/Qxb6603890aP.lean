/-
  The plain law of the here-document operators: no Go in sight.
  'lt i': is the byte at i a less-than sign (false beyond the end)? 'esc i': does an odd number of backslashes stand right before i? 'from': where the reading begins; n: the text's length.
-/
namespace Go.Proofs.Qxb6603890a.P

section
variable (lt esc : Nat → Bool) (start n : Nat)

/-- A sign that opens a run and is escaped. -/
def plain (k : Nat) : Bool := (k == start || !lt (k - 1)) && esc k

/-- The greedy lexer, with fuel. -/
def lexF : Nat → Nat → List Nat
  | 0, _ => []
  | f + 1, k =>
    if k < n then
      if lt k then
        if plain lt esc start k then lexF f (k + 1)
        else if lt (k + 1) && lt (k + 2) then lexF f (k + 3)
        else if lt (k + 1) then k :: lexF f (k + 2)
        else lexF f (k + 1)
      else lexF f (k + 1)
    else []

theorem lexF_fuel : ∀ (f g k : Nat), n ≤ k + f → n ≤ k + g → lexF lt esc start n f k = lexF lt esc start n g k
  | 0, 0, k, _, _ => rfl
  | 0, g + 1, k, h, _ => by
    unfold lexF
    rw [if_neg (by omega)]
  | f + 1, 0, k, _, h => by
    unfold lexF
    rw [if_neg (by omega)]
  | f + 1, g + 1, k, h, h' => by
    unfold lexF
    rw [lexF_fuel f g (k + 1) (by omega) (by omega), lexF_fuel f g (k + 2) (by omega) (by omega), lexF_fuel f g (k + 3) (by omega) (by omega)]

def lex (k : Nat) : List Nat := lexF lt esc start n (n + 1) k

theorem lex_eq (k : Nat) : lex lt esc start n k = if k < n then
      if lt k then
        if plain lt esc start k then lex lt esc start n (k + 1)
        else if lt (k + 1) && lt (k + 2) then lex lt esc start n (k + 3)
        else if lt (k + 1) then k :: lex lt esc start n (k + 2)
        else lex lt esc start n (k + 1)
      else lex lt esc start n (k + 1)
    else [] := by
  unfold lex
  conv => lhs; unfold lexF
  rw [lexF_fuel lt esc start n n (n + 1) (k + 1) (by omega) (by omega), lexF_fuel lt esc start n n (n + 1) (k + 2) (by omega) (by omega), lexF_fuel lt esc start n n (n + 1) (k + 3) (by omega) (by omega)]

theorem lex_end {k : Nat} (h : n ≤ k) : lex lt esc start n k = [] := by
  rw [lex_eq, if_neg (by omega)]
theorem lex_skip {k : Nat} (h : lt k = false) : lex lt esc start n k = lex lt esc start n (k + 1) := by
  rw [lex_eq]
  by_cases hk : k < n
  · rw [if_pos hk, h]
    simp
  · rw [if_neg hk, lex_end _ _ _ _ (by omega)]
theorem lex_plain {k : Nat} (hk : k < n) (h : lt k = true) (hp : plain lt esc start k = true) : lex lt esc start n k = lex lt esc start n (k + 1) := by
  rw [lex_eq, if_pos hk, if_pos h, if_pos hp]
theorem lex_three {k : Nat} (hk : k < n) (h : lt k = true) (hp : plain lt esc start k = false) (h1 : lt (k + 1) = true) (h2 : lt (k + 2) = true) : lex lt esc start n k = lex lt esc start n (k + 3) := by
  rw [lex_eq, if_pos hk, if_pos h, hp, h1, h2]
  simp
theorem lex_two {k : Nat} (hk : k < n) (h : lt k = true) (hp : plain lt esc start k = false) (h1 : lt (k + 1) = true) (h2 : lt (k + 2) = false) : lex lt esc start n k = k :: lex lt esc start n (k + 2) := by
  rw [lex_eq, if_pos hk, if_pos h, hp, h1, h2]
  simp
theorem lex_one {k : Nat} (hk : k < n) (h : lt k = true) (hp : plain lt esc start k = false) (h1 : lt (k + 1) = false) : lex lt esc start n k = lex lt esc start n (k + 1) := by
  rw [lex_eq, if_pos hk, if_pos h, hp, h1]
  simp

theorem plain_inner {k : Nat} (hs : start < k) (h : lt (k - 1) = true) : plain lt esc start k = false := by
  unfold plain
  rw [h]
  have : (k == start) = false := by simp; omega
  rw [this]
  rfl

/-- A run from k to e (its last sign), at k no plain sign: the lexer reports its last two, if two are left behind the threes. -/
theorem run (hlt : ∀ i, lt i = true → i < n) (e : Nat) (he : lt (e + 1) = false) : ∀ (r k : Nat), e + 1 = k + r → start ≤ k → (∀ i, k ≤ i → i ≤ e → lt i = true) → (r = 0 ∨ plain lt esc start k = false) →
    lex lt esc start n k = (if r % 3 = 2 then [e - 1] else []) ++ lex lt esc start n (e + 1)
  | 0, k, h, _, _, _ => by
    have : k = e + 1 := by omega
    rw [this]
    simp
  | 1, k, h, _, hr, hp => by
    have hk : k = e := by omega
    subst hk
    have h0 := hr k (Nat.le_refl _) (Nat.le_refl _)
    rw [lex_one lt esc start n (hlt k h0) h0 (hp.resolve_left (by omega)) he]
    simp
  | 2, k, h, _, hr, hp => by
    have hk : e = k + 1 := by omega
    subst hk
    have h0 := hr k (Nat.le_refl _) (by omega)
    have h1 := hr (k + 1) (by omega) (Nat.le_refl _)
    rw [lex_two lt esc start n (hlt k h0) h0 (hp.resolve_left (by omega)) h1 he]
    simp
  | r + 3, k, h, hs, hr, hp => by
    have h0 := hr k (Nat.le_refl _) (by omega)
    have h1 := hr (k + 1) (by omega) (by omega)
    have h2 := hr (k + 2) (by omega) (by omega)
    rw [lex_three lt esc start n (hlt k h0) h0 (hp.resolve_left (by omega)) h1 h2]
    rw [run hlt e he r (k + 3) (by omega) (by omega) (fun i a b => hr i (by omega) b) (.inr (plain_inner lt esc start (by omega) h2))]
    have : (r + 3) % 3 = r % 3 := by omega
    rw [this]

/-- A WHOLE RUN, as heredocOperators reckons it: from s to e, s the first sign of it. -/
theorem whole (hlt : ∀ i, lt i = true → i < n) {s e : Nat} (hse : s ≤ e) (hs : start ≤ s) (hr : ∀ i, s ≤ i → i ≤ e → lt i = true) (he : lt (e + 1) = false) (hf : s = start ∨ lt (s - 1) = false) :
    lex lt esc start n s = (if (e + 1 - (if esc s then s + 1 else s)) % 3 = 2 then [e - 1] else []) ++ lex lt esc start n (e + 1) := by
  have hfresh : (s == start || !lt (s - 1)) = true := by
    rcases hf with h | h
    · simp [h]
    · simp [h]
  have h0 := hr s (Nat.le_refl _) hse
  cases hesc : esc s
  · have hp : plain lt esc start s = false := by unfold plain; rw [hesc]; simp
    have := run lt esc start n hlt e he (e + 1 - s) s (by omega) hs hr (.inr hp)
    simpa using this
  · have hp : plain lt esc start s = true := by unfold plain; rw [hesc, hfresh]; rfl
    rw [lex_plain lt esc start n (hlt s h0) h0 hp]
    have := run lt esc start n hlt e he (e + 1 - (s + 1)) (s + 1) (by omega) (by omega) (fun i a b => hr i (by omega) b) (.inr (plain_inner lt esc start (by omega) h0))
    simpa using this
end
end Go.Proofs.Qxb6603890a.P
