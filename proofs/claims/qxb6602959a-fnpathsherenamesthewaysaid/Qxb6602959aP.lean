import Derived.Test.Qxb6602959aW1
/-
  The plain law: what 'here' makes of a way and its nodes. No Go in sight.
-/
namespace Go.Proofs.Qxb6602959a.W

/-- The parent of step a: the node of the step before it, -1 at the root. -/
def par (id : Nat → Nat) (a : Nat) : Int := if a = 0 then -1 else (id (a - 1) : Int)
theorem par_zero (id : Nat → Nat) : par id 0 = -1 := rfl
theorem par_succ (id : Nat → Nat) (a : Nat) : par id (a + 1) = (id a : Int) := rfl

/-- What the premise says. -/
structure Prem (S : Nat → St) (n : Nat) (T : Nat → Nd) (N m : Nat) : Prop where
  made : Made S n m
  rest : ∀ j, m ≤ j → j < n → (S j).n < 0
  dist : ∀ i j, i < j → j < N → T i ≠ T j
  place : ∀ j, j < m → (S j).n < N ∧ T (S j).n.toNat = ⟨if j = 0 then -1 else (S (j - 1)).n, (S j).k, (S j).i⟩

/-- j steps have their nodes: ns are the nodes by now, id a the node of step a, c a how many nodes there were ahead of step a. -/
structure Went (S : Nat → St) (ns0 : List Nd) (m j : Nat) (ns : List Nd) (id c : Nat → Nat) : Prop where
  ext : ∃ e, ns = ns0 ++ e
  dist : ns.Pairwise (fun x y => x ≠ y)
  place : ∀ a, a < j → ns[id a]? = some ⟨par id a, (S a).k, (S a).i⟩
  made : ∀ a, a < m → (id a : Int) = (S a).n
  c0 : c 0 = ns0.length
  cs : ∀ a, a < j → (id a < ns0.length ∧ c (a + 1) = c a) ∨ (id a = c a ∧ ns0.length ≤ c a ∧ c (a + 1) = c a + 1)
  cj : c j = ns.length
  mj : m ≤ j

section
variable {S : Nat → St} {ns0 : List Nd} {m j : Nat} {ns : List Nd} {id c : Nat → Nat}

theorem Went.lt (h : Went S ns0 m j ns id c) {a : Nat} (ha : a < j) : id a < ns.length := (List.getElem?_eq_some_iff.1 (h.place a ha)).1

/-- Two steps of the way never have one node. -/
theorem Went.inj (h : Went S ns0 m j ns id c) : ∀ (a b : Nat), a < b → b < j → id a ≠ id b
  | 0, b, hab, hb, e => by
    have h1 := h.place 0 (by omega)
    have h2 := h.place b hb
    rw [e, h2] at h1
    simp only [Option.some.injEq, Nd.mk.injEq] at h1
    obtain ⟨b', rfl⟩ : ∃ b', b = b' + 1 := ⟨b - 1, by omega⟩
    rw [par_zero, par_succ] at h1
    omega
  | a + 1, b, hab, hb, e => by
    have h1 := h.place (a + 1) (by omega)
    have h2 := h.place b hb
    rw [e, h2] at h1
    simp only [Option.some.injEq, Nd.mk.injEq] at h1
    obtain ⟨b', rfl⟩ : ∃ b', b = b' + 1 := ⟨b - 1, by omega⟩
    rw [par_succ, par_succ] at h1
    exact Went.inj h a b' (by omega) (by omega) (by omega)

/-- Each new node is some step's. -/
theorem Went.cover (h : Went S ns0 m j ns id c) : ∀ (k : Nat), k ≤ j → ∀ i, ns0.length ≤ i → i < c k → ∃ a, a < k ∧ id a = i
  | 0, _, i, h1, h2 => by rw [h.c0] at h2; omega
  | k + 1, hk, i, h1, h2 => by
    rcases h.cs k (by omega) with ⟨_, h3⟩ | ⟨h3, _, h4⟩
    · rw [h3] at h2
      obtain ⟨a, ha, e⟩ := Went.cover h k (by omega) i h1 h2
      exact ⟨a, by omega, e⟩
    · by_cases e : i = c k
      · exact ⟨k, by omega, by omega⟩
      · obtain ⟨a, ha, e'⟩ := Went.cover h k (by omega) i h1 (by omega)
        exact ⟨a, by omega, e'⟩

/-- A node that is found for the next step is an old one. -/
theorem Went.old (h : Went S ns0 m j ns id c) {i : Nat} {k : ByteArray} {x : Int} (hi : ns[i]? = some ⟨par id j, k, x⟩) : i < ns0.length := by
  by_cases ho : i < ns0.length
  · exact ho
  · have hl : i < ns.length := (List.getElem?_eq_some_iff.1 hi).1
    rw [← h.cj] at hl
    obtain ⟨a, ha, e⟩ := h.cover j (Nat.le_refl _) i (by omega) hl
    have h1 := h.place a ha
    rw [e, hi] at h1
    simp only [Option.some.injEq, Nd.mk.injEq] at h1
    obtain ⟨j', rfl⟩ : ∃ j', j = j' + 1 := ⟨j - 1, by omega⟩
    rw [par_succ] at h1
    cases a with
    | zero => rw [par_zero] at h1; omega
    | succ a =>
      rw [par_succ] at h1
      exact absurd (show id a = id j' by omega) (h.inj a j' (by omega) (by omega))

/-- A function turned at one place. -/
def upd (f : Nat → Nat) (j v : Nat) (a : Nat) : Nat := if a = j then v else f a
theorem upd_same (f : Nat → Nat) (j v : Nat) : upd f j v j = v := by unfold upd; rw [if_pos rfl]
theorem upd_other (f : Nat → Nat) {j v a : Nat} (h : a ≠ j) : upd f j v a = f a := by unfold upd; rw [if_neg h]
theorem par_upd (id : Nat → Nat) {j v a : Nat} (h : a ≤ j) : par (upd id j v) a = par id a := by
  unfold par
  by_cases e : a = 0
  · rw [if_pos e, if_pos e]
  · rw [if_neg e, if_neg e, upd_other _ (by omega)]

theorem Went.found (h : Went S ns0 m j ns id c) {i : Nat} (hi : ns[i]? = some ⟨par id j, (S j).k, (S j).i⟩) : Went S ns0 m (j + 1) ns (upd id j i) (upd c (j + 1) (c j)) := by
  have ho := h.old hi
  have hmj := h.mj
  refine ⟨h.ext, h.dist, ?_, ?_, ?_, ?_, ?_, by omega⟩
  · intro a ha
    rw [par_upd id (show a ≤ j by omega)]
    by_cases e : a = j
    · rw [e, upd_same]; exact hi
    · rw [upd_other _ e]; exact h.place a (by omega)
  · intro a ha
    rw [upd_other _ (by omega)]; exact h.made a ha
  · rw [upd_other _ (by omega)]; exact h.c0
  · intro a ha
    by_cases e : a = j
    · subst e
      rw [upd_same, upd_same, upd_other _ (by omega)]
      exact .inl ⟨ho, rfl⟩
    · rw [upd_other _ e, upd_other _ (by omega), upd_other _ (by omega)]
      exact h.cs a (by omega)
  · rw [upd_same]; exact h.cj

theorem Went.new (h : Went S ns0 m j ns id c) (hx : (⟨par id j, (S j).k, (S j).i⟩ : Nd) ∉ ns) : Went S ns0 m (j + 1) (ns ++ [⟨par id j, (S j).k, (S j).i⟩]) (upd id j ns.length) (upd c (j + 1) (c j + 1)) := by
  have hmj := h.mj
  obtain ⟨e0, he0⟩ := h.ext
  refine ⟨⟨e0 ++ [⟨par id j, (S j).k, (S j).i⟩], by rw [he0, List.append_assoc]⟩, ?_, ?_, ?_, ?_, ?_, ?_, by omega⟩
  · rw [List.pairwise_append]
    refine ⟨h.dist, List.pairwise_singleton _ _, ?_⟩
    intro x hx1 y hy
    simp at hy
    subst hy
    intro e
    exact hx (e ▸ hx1)
  · intro a ha
    rw [par_upd id (show a ≤ j by omega)]
    by_cases e : a = j
    · subst e
      rw [upd_same]
      simp
    · rw [upd_other _ e, List.getElem?_append_left (h.lt (by omega))]
      exact h.place a (by omega)
  · intro a ha
    rw [upd_other _ (by omega)]; exact h.made a ha
  · rw [upd_other _ (by omega)]; exact h.c0
  · intro a ha
    by_cases e : a = j
    · subst e
      rw [upd_same, upd_same, upd_other _ (by omega)]
      refine .inr ⟨h.cj.symm, ?_, rfl⟩
      rw [h.cj, he0, List.length_append]
      omega
    · rw [upd_other _ e, upd_other _ (by omega), upd_other _ (by omega)]
      exact h.cs a (by omega)
  · rw [upd_same, h.cj]
    simp

/-- The nodes as a list. -/
def listOf (T : Nat → Nd) (N : Nat) : List Nd := (List.range N).map T
theorem listOf_length (T : Nat → Nd) (N : Nat) : (listOf T N).length = N := by simp [listOf]
theorem listOf_get (T : Nat → Nd) {N i : Nat} (h : i < N) : (listOf T N)[i]? = some (T i) := by simp [listOf, h]

theorem Went.start {n N : Nat} {T : Nat → Nd} (h : Prem S n T N m) : Went S (listOf T N) m m (listOf T N) (fun a => (S a).n.toNat) (fun _ => N) := by
  have hm := h.made
  refine ⟨⟨[], by simp⟩, ?_, ?_, ?_, (listOf_length T N).symm, ?_, (listOf_length T N).symm, Nat.le_refl _⟩
  · rw [List.pairwise_iff_getElem]
    intro i j hi hj hij
    rw [listOf_length] at hi hj
    simp only [listOf, List.getElem_map, List.getElem_range]
    exact h.dist i j hij hj
  · intro a ha
    have h1 := h.place a ha
    have h2 := hm.2.1 a ha
    rw [listOf_get T (by omega), h1.2]
    congr 2
    unfold par
    by_cases e : a = 0
    · rw [if_pos e, if_pos e]
    · rw [if_neg e, if_neg e]
      have := hm.2.1 (a - 1) (by omega)
      show (S (a - 1)).n = (((S (a - 1)).n.toNat : Nat) : Int)
      omega
  · intro a ha
    have := hm.2.1 a ha
    show (((S a).n.toNat : Nat) : Int) = (S a).n
    omega
  · intro a ha
    have h1 := h.place a ha
    have h2 := hm.2.1 a ha
    exact .inl ⟨by rw [listOf_length]; omega, rfl⟩
end

end Go.Proofs.Qxb6602959a.W
