/-
  The plain law of the growing table: no Go in sight.
-/
namespace Go.Proofs.Qxb6602557a.P

section
variable {α : Type} (used : α → Bool) (home : α → Nat)

/-- One entry of the old table goes to its place in the new one. -/
def step (st : List α × Nat) (e : α) : List α × Nat :=
  if used e then
    (if max (home e) st.2 = st.1.length then st.1 ++ [e] else st.1.set (max (home e) st.2) e, max (home e) st.2 + 1)
  else st

def lay (z : α) (N : Nat) (es : List α) : List α × Nat := es.foldl (step used home) (List.replicate N z, 0)

/-- What holds while the entries 'done' have gone over. -/
structure Inv (N : Nat) (done : List α) (st : List α × Nat) : Prop where
  next : st.2 ≤ st.1.length
  len : N ≤ st.1.length
  most : st.1.length ≤ N + done.length
  rest : ∀ x ∈ st.1.drop st.2, used x = false
  kept : (st.1.take st.2).filter used = done.filter used

theorem Inv.start {z : α} (hz : used z = false) (N : Nat) : Inv used N [] (List.replicate N z, 0) :=
  ⟨by simp, by simp, by simp, by intro x hx; simp at hx; rw [hx.2]; exact hz, by simp⟩

theorem filter_none {l : List α} (h : ∀ x ∈ l, used x = false) : l.filter used = [] := by
  rw [List.filter_eq_nil_iff]
  intro x hx
  simp [h x hx]

theorem Inv.step {N : Nat} {done : List α} {st : List α × Nat} (h : Inv used N done st) (e : α) (hh : home e < N) : Inv used N (done ++ [e]) (step used home st e) := by
  obtain ⟨out, nx⟩ := st
  obtain ⟨h1, h2, h3, h4, h5⟩ := h
  simp only at h1 h2 h3 h4 h5
  unfold P.step
  by_cases hu : used e
  · rw [if_pos hu]
    simp only
    generalize hat : max (home e) nx = at'
    have a1 : nx ≤ at' := by omega
    have a2 : at' ≤ out.length := by omega
    -- the head up to 'at''
    have hhead : (out.take at').filter used = done.filter used := by
      have e1 : out.take at' = out.take nx ++ (out.drop nx).take (at' - nx) := by
        have e0 : at' = nx + (at' - nx) := by omega
        rw [e0, List.take_add]
        simp
      rw [e1, List.filter_append, h5, filter_none used (l := (out.drop nx).take (at' - nx)) (fun x hx => h4 x (List.mem_of_mem_take hx)), List.append_nil]
    by_cases hl : at' = out.length
    · rw [if_pos hl]
      refine ⟨by simp [hl], by simp; omega, by simp; omega, ?_, ?_⟩
      · intro x hx
        simp [hl] at hx
      · have e2 : (out ++ [e]).take (at' + 1) = out.take at' ++ [e] := by
          rw [hl, List.take_of_length_le (by simp), List.take_length]
        simp only [e2, List.filter_append, hhead]
    · rw [if_neg hl]
      have hlt : at' < out.length := by omega
      refine ⟨by simp; omega, by simpa using h2, by simp; omega, ?_, ?_⟩
      · intro x hx
        simp only at hx
        rw [List.drop_set_of_lt (by omega)] at hx
        have e3 : out.drop (at' + 1) = (out.drop nx).drop (at' + 1 - nx) := by
          rw [List.drop_drop]
          congr 1
          omega
        rw [e3] at hx
        exact h4 x (List.mem_of_mem_drop hx)
      · have e4 : (out.set at' e).take (at' + 1) = out.take at' ++ [e] := by
          rw [List.take_succ_eq_append_getElem (by simpa using hlt)]
          simp [List.take_set_of_le]
        simp only [e4, List.filter_append, hhead]
  · rw [if_neg hu]
    have hu' : used e = false := by simpa using hu
    exact ⟨h1, h2, by simp; omega, h4, by simp [h5, hu']⟩

theorem lay_inv {z : α} (hz : used z = false) (N : Nat) (hh : ∀ e, home e < N) : ∀ (es done : List α) (st : List α × Nat), Inv used N done st → Inv used N (done ++ es) (es.foldl (step used home) st)
  | [], done, st, h => by simpa using h
  | e :: es, done, st, h => by
    have := lay_inv hz N hh es (done ++ [e]) _ (h.step used home e (hh e))
    simpa using this

theorem lay_ok {z : α} (hz : used z = false) (N : Nat) (hh : ∀ e, home e < N) (es : List α) : Inv used N es (lay used home z N es) := by
  have h := lay_inv used home hz N hh es [] _ (Inv.start used hz N)
  rw [List.nil_append] at h
  exact h

theorem Inv.same {N : Nat} {done : List α} {st : List α × Nat} (h : Inv used N done st) : st.1.filter used = done.filter used := by
  have e1 : st.1 = st.1.take st.2 ++ st.1.drop st.2 := (List.take_append_drop _ _).symm
  rw [e1, List.filter_append, h.kept, filter_none used h.rest, List.append_nil]

theorem fold_filter : ∀ (es : List α) (st : List α × Nat), es.foldl (step used home) st = (es.filter used).foldl (step used home) st
  | [], _ => rfl
  | e :: es, st => by
    by_cases hu : used e
    · rw [List.filter_cons_of_pos hu, List.foldl_cons, List.foldl_cons]
      exact fold_filter es _
    · rw [List.filter_cons_of_neg hu, List.foldl_cons]
      have : step used home st e = st := by unfold step; rw [if_neg hu]
      rw [this]
      exact fold_filter es _
end

/-- LAID TWICE IS LAID ONCE: what the second laying sees is the used entries, in their order. -/
theorem lay_lay {α : Type} (used : α → Bool) (home1 home2 : α → Nat) {z : α} (hz : used z = false) (N1 N2 : Nat) (h1 : ∀ e, home1 e < N1) (es : List α) :
    lay used home2 z N2 (lay used home1 z N1 es).1 = lay used home2 z N2 es := by
  unfold lay
  rw [fold_filter used home2, fold_filter used home2 es]
  have := (lay_ok used home1 hz N1 h1 es).same
  unfold lay at this
  rw [this]

/-- The least number of bits from 'bits' on that holds 'need'. -/
def Least (bits need b : Nat) : Prop := bits ≤ b ∧ need ≤ 3 * 2 ^ b ∧ (b = bits ∨ (bits < b ∧ 3 * 2 ^ (b - 1) < need))

theorem pow_mono {a b : Nat} (h : a ≤ b) : 2 ^ a ≤ 2 ^ b := Nat.pow_le_pow_right (by decide) h

theorem Least.unique {bits need b b' : Nat} (h : Least bits need b) (h' : Least bits need b') : b = b' := by
  obtain ⟨h1, h2, h3⟩ := h
  obtain ⟨g1, g2, g3⟩ := h'
  rcases Nat.lt_trichotomy b b' with hlt | heq | hgt
  · rcases g3 with g3 | ⟨g3, g4⟩
    · omega
    · have := pow_mono (show b ≤ b' - 1 by omega)
      omega
  · exact heq
  · rcases h3 with h3 | ⟨h3, h4⟩
    · omega
    · have := pow_mono (show b' ≤ b - 1 by omega)
      omega

theorem Least.bound {bits need b : Nat} (h : Least bits need b) (hn : need ≤ 262144) : b ≤ bits ∨ b ≤ 17 := by
  obtain ⟨h1, h2, h3 | ⟨h3, h4⟩⟩ := h
  · exact .inl (by omega)
  · right
    by_cases hb : b ≤ 17
    · exact hb
    · have := pow_mono (show 17 ≤ b - 1 by omega)
      omega

section
variable {α : Type} (used : α → Bool) (home : Nat → α → Nat) (z : α)
/-- grow, plainly: from 'bits' bits to b. -/
def grown (bits b : Nat) (es : List α) : List α := if b = bits then es else (lay used (home b) z (2 ^ b) es).1

theorem grown_same (bits : Nat) (es : List α) : grown used home z bits bits es = es := by
  unfold grown
  rw [if_pos rfl]

/-- THE LAW. -/
theorem twice {bits n a b ba bb bm : Nat} (hz : used z = false) (hh : ∀ c e, c ≤ 61 → home c e < 2 ^ c) (hbits : bits ≤ 61) (hna : n + a ≤ 65536) (es : List α)
    (ha : Least bits (4 * (n + a)) ba) (hb : Least ba (4 * (n + b)) bb) (hm : Least bits (4 * (n + max a b)) bm) :
    bb = bm ∧ grown used home z ba bb (grown used home z bits ba es) = grown used home z bits bm es := by
  have hba : ba ≤ 61 := by rcases ha.bound (by omega) with h | h <;> omega
  by_cases hab : b ≤ a
  · have e1 : max a b = a := by omega
    rw [e1] at hm
    have e2 : bm = ba := hm.unique ha
    have e3 : bb = ba := hb.unique ⟨Nat.le_refl _, by have := ha.2.1; omega, .inl rfl⟩
    subst e2
    subst e3
    refine ⟨rfl, ?_⟩
    rw [grown_same]
  · have e1 : max a b = b := by omega
    rw [e1] at hm
    have e2 : bb = bm := by
      refine Least.unique (bits := bits) (need := 4 * (n + b)) ⟨Nat.le_trans ha.1 hb.1, hb.2.1, ?_⟩ hm
      rcases hb.2.2 with h | ⟨h, h'⟩
      · rcases ha.2.2 with g | ⟨g, g'⟩
        · exact .inl (by omega)
        · right
          refine ⟨by omega, ?_⟩
          rw [h]
          omega
      · exact .inr ⟨Nat.lt_of_le_of_lt ha.1 h, h'⟩
    subst e2
    refine ⟨rfl, ?_⟩
    by_cases g1 : ba = bits
    · subst g1
      rw [grown_same]
    · by_cases g2 : bb = ba
      · subst g2
        rw [grown_same]
      · have g3 : bb ≠ bits := by have := ha.1; have := hb.1; omega
        unfold grown
        rw [if_neg g1, if_neg g2, if_neg g3, lay_lay used (home ba) (home bb) hz _ _ (fun e => hh ba e hba)]
end

end Go.Proofs.Qxb6602557a.P
