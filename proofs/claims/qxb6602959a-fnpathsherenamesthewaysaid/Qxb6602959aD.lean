import Derived.Test.Qxb6602959aQ
namespace Go.Proofs.Qxb6602959a.W
open Go.RowKit Go.Maps
set_option linter.unusedVariables false

/-! ### rows of three cells an element -/
structure T3 where
  a : Value
  b : Value
  c : Value
def St.tri (x : St) : T3 := ⟨.string x.k, .int .i64 x.i, .int .i32 x.n⟩
def Nd.tri (x : Nd) : T3 := ⟨.int .i32 x.p, .string x.k, .int .i64 x.i⟩
def flat3 : List T3 → List Value
  | [] => []
  | e :: es => e.a :: e.b :: e.c :: flat3 es

theorem flat3_length : ∀ es : List T3, (flat3 es).length = es.length * 3
  | [] => rfl
  | e :: es => by simp [flat3, flat3_length es]; omega
theorem flat3_append : ∀ es fs : List T3, flat3 (es ++ fs) = flat3 es ++ flat3 fs
  | [], _ => rfl
  | e :: es, fs => by simp [flat3, flat3_append es fs]
theorem flat3_get : ∀ (es : List T3) (i : Nat), (flat3 es)[i * 3]? = (es[i]?).map (·.a) ∧ (flat3 es)[i * 3 + 1]? = (es[i]?).map (·.b) ∧ (flat3 es)[i * 3 + 2]? = (es[i]?).map (·.c)
  | [], i => by simp [flat3]
  | e :: es, 0 => by simp [flat3]
  | e :: es, i + 1 => by
    have h := flat3_get es i
    have e1 : (i + 1) * 3 = i * 3 + 3 := by omega
    have e2 : (i + 1) * 3 + 1 = (i * 3 + 1) + 3 := by omega
    have e3 : (i + 1) * 3 + 2 = (i * 3 + 2) + 3 := by omega
    refine ⟨?_, ?_, ?_⟩
    · rw [e1]
      show (flat3 es)[i * 3]? = _
      rw [h.1]; simp
    · rw [e2]
      show (flat3 es)[i * 3 + 1]? = _
      rw [h.2.1]; simp
    · rw [e3]
      show (flat3 es)[i * 3 + 2]? = _
      rw [h.2.2]; simp
theorem flat3_set : ∀ (es : List T3) (i : Nat) (e : T3), flat3 (es.set i e) = (((flat3 es).set (i * 3) e.a).set (i * 3 + 1) e.b).set (i * 3 + 2) e.c
  | [], i, e => by simp [flat3]
  | e0 :: es, 0, e => by simp [flat3]
  | e0 :: es, i + 1, e => by
    have h := flat3_set es i e
    show e0.a :: e0.b :: e0.c :: flat3 (es.set i e) = _
    rw [h, show (i + 1) * 3 = i * 3 + 1 + 1 + 1 by omega]
    simp only [flat3, show i * 3 + 1 + 1 + 1 + 1 = (i * 3 + 1) + 1 + 1 + 1 by omega, show i * 3 + 1 + 1 + 1 + 2 = (i * 3 + 2) + 1 + 1 + 1 by omega, List.set_cons_succ]
/-- Only the last cell of an element is turned. -/
theorem flat3_setc : ∀ (es : List T3) (i : Nat) (h : i < es.length) (v : Value), flat3 (es.set i ⟨(es[i]).a, (es[i]).b, v⟩) = (flat3 es).set (i * 3 + 2) v
  | e0 :: es, 0, _, v => by simp [flat3]
  | e0 :: es, i + 1, h, v => by
    have h' := flat3_setc es i (by simpa using h) v
    simp only [List.getElem_cons_succ, List.set_cons_succ]
    show e0.a :: e0.b :: e0.c :: flat3 (es.set i ⟨(es[i]'(by simpa using h)).a, (es[i]'(by simpa using h)).b, v⟩) = _
    rw [h', show (i + 1) * 3 + 2 = (i * 3 + 2) + 1 + 1 + 1 by omega]
    simp [flat3]
theorem made3 (a b c : Value) (n : Nat) : (madeCells #[a, b, c] (n * 3)).toList = flat3 (List.replicate n ⟨a, b, c⟩) := by
  apply List.ext_getElem?
  intro i
  have h3 : i = (i / 3) * 3 ∨ i = (i / 3) * 3 + 1 ∨ i = (i / 3) * 3 + 2 := by omega
  have hg := flat3_get (List.replicate n (⟨a, b, c⟩ : T3)) (i / 3)
  by_cases hi : i < n * 3
  · have hd : i / 3 < n := by omega
    have hr : (List.replicate n (⟨a, b, c⟩ : T3))[i / 3]? = some ⟨a, b, c⟩ := by rw [List.getElem?_replicate, if_pos hd]
    rw [hr] at hg
    have hm : (madeCells #[a, b, c] (n * 3)).toList[i]? = #[a, b, c][i % 3]? := by
      simp [madeCells, hi]
      rcases (by omega : i % 3 = 0 ∨ i % 3 = 1 ∨ i % 3 = 2) with hh | hh | hh <;> simp [hh]
    rw [hm]
    rcases h3 with h | h | h
    · rw [show i % 3 = 0 by omega]; conv => rhs; rw [h]; rw [hg.1]
      rfl
    · rw [show i % 3 = 1 by omega]; conv => rhs; rw [h]; rw [hg.2.1]
      rfl
    · rw [show i % 3 = 2 by omega]; conv => rhs; rw [h]; rw [hg.2.2]
      rfl
  · rw [List.getElem?_eq_none (by simp [madeCells]; omega), List.getElem?_eq_none (by rw [flat3_length, List.length_replicate]; omega)]

/-! ### what a store turns -/
theorem grownBy_trans {a b c : World} {r : Option Nat} (h : a.grownBy b r) (k : b.grownBy c r) : a.grownBy c r :=
  ⟨k.os.trans h.os, k.tape.trans h.tape, k.output.trans h.output, Nat.le_trans h.size k.size, fun i hi hr => (k.block i (Nat.lt_of_lt_of_le hi h.size) hr).trans (h.block i hi hr)⟩
theorem grownBy_of_below {a b : World} (h : Below a.heap.size a b) (r : Option Nat) : a.grownBy b r :=
  ⟨h.os, h.tape, h.output, h.size, fun i hi _ => h.block i hi⟩
theorem grownBy_setCell (w : World) (a : Addr) (v : Value) : w.grownBy (w.setCell a v) (some a.block) :=
  ⟨rfl, rfl, rfl, by simp [World.setCell], fun i _ hr => Below.heap_setCell _ _ _ _ (fun e => hr (by rw [e]))⟩
theorem grownBy_drew (w : World) (r : Option Nat) : w.grownBy w.drew r := ⟨rfl, rfl, rfl, Nat.le_refl _, fun _ _ _ => rfl⟩
theorem ownsRow_below {w w' : World} {base n e size : Nat} {v : Value} {xs : List Value} (h : w.ownsRow base e size v n xs) (hb : Below w.heap.size w w') : w'.ownsRow base e size v n xs := by
  refine ⟨h.1, ?_⟩
  rcases h.2 with h' | ⟨g, cap, cur, hv, hg, hh, r⟩
  · exact .inl h'
  · exact .inr ⟨g, cap, cur, hv, hg, (hb.block g (Array.getElem?_eq_some_iff.1 hh).1).trans hh, r⟩
/-- Rows of different types lie apart. -/
theorem own_apart {w : World} {base base' n n' e e' size size' : Nat} {v v' : Value} {xs xs' : List Value} (h : w.ownsRow base e size v n xs) (h' : w.ownsRow base' e' size' v' n' xs') (hne : e ≠ e') : v.ownBlock = none ∨ v.ownBlock ≠ v'.ownBlock := by
  rcases h.2 with ⟨rfl, _⟩ | ⟨g, cap, cur, rfl, _, hh, _⟩
  · exact .inl rfl
  · right
    rcases h'.2 with ⟨rfl, _⟩ | ⟨g', cap', cur', rfl, _, hh', _⟩
    · intro e; cases e
    · intro e2
      simp [Value.ownBlock] at e2
      rw [e2, hh'] at hh
      simp at hh
      exact hne hh.2.symm
/-- A row and a map lie apart. -/
theorem own_map_apart {w : World} {base n e size B m : Nat} {v : Value} {xs : List Value} {D : DataW Value} {k : TypeId} (h : w.ownsRow base e size v n xs) (h' : w.ownsMap Try.prog k held B m D) : v.ownBlock = none ∨ v.ownBlock ≠ some B := by
  rcases h.2 with ⟨rfl, _⟩ | ⟨g, cap, cur, rfl, _, hh, _⟩
  · exact .inl rfl
  · right
    intro e2
    simp [Value.ownBlock] at e2
    obtain ⟨es, clock, hb, _⟩ := h'
    rw [e2, hb] at hh
    cases hh
theorem own_shape {w : World} {base n e size : Nat} {v : Value} {xs : List Value} (h : w.ownsRow base e size v (n + 1) xs) : ∃ g cap, v = .slice (some ⟨g, 0, none⟩) (n + 1) cap ∧ base ≤ g ∧ g < w.heap.size ∧ n + 1 ≤ cap := by
  rcases h.2 with ⟨_, h'⟩ | ⟨g, cap, cur, hv, hg, hh, hn, _⟩
  · omega
  · exact ⟨g, cap, hv, hg, (Array.getElem?_eq_some_iff.1 hh).1, hn⟩
/-- The shape of a row's value, whatever its length. -/
theorem own_slice {w : World} {base n e size : Nat} {v : Value} {xs : List Value} (h : w.ownsRow base e size v n xs) : ∃ a cap, v = .slice a n cap ∧ (n = 0 ∨ ∃ g, a = some ⟨g, 0, none⟩) := by
  rcases h.2 with ⟨rfl, h'⟩ | ⟨g, cap, cur, hv, hg, hh, hn, _⟩
  · exact ⟨none, 0, by rw [h'], .inl h'⟩
  · exact ⟨_, cap, hv, .inr ⟨g, rfl⟩⟩

/-- The cells of element i. -/
theorem own_cells {w : World} {base e g cap : Nat} {es : List T3} (h : w.ownsRow base e 3 (.slice (some ⟨g, 0, none⟩) es.length cap) es.length (flat3 es)) (i : Nat) (hi : i < es.length) :
    w.cell? ⟨g, i * 3, none⟩ = some (es[i]).a ∧ w.cell? ⟨g, i * 3 + 1, none⟩ = some (es[i]).b ∧ w.cell? ⟨g, i * 3 + 2, none⟩ = some (es[i]).c := by
  have hg := flat3_get es i
  rw [h.cellAt _ (by omega), h.cellAt _ (by omega), h.cellAt _ (by omega), hg.1, hg.2.1, hg.2.2, List.getElem?_eq_getElem hi]
  exact ⟨rfl, rfl, rfl⟩

def put3 (w : World) (g i : Nat) (e : T3) : World := ((w.setCell ⟨g, i * 3, none⟩ e.a).setCell ⟨g, i * 3 + 1, none⟩ e.b).setCell ⟨g, i * 3 + 2, none⟩ e.c
theorem put3_grown (w : World) (g i : Nat) (e : T3) : w.grownBy (put3 w g i e) (some g) :=
  grownBy_trans (grownBy_trans (grownBy_setCell _ _ _) (grownBy_setCell _ _ _)) (grownBy_setCell _ _ _)
theorem put3_own {w : World} {base e n g cap : Nat} {es : List T3} (h : w.ownsRow base e 3 (.slice (some ⟨g, 0, none⟩) n cap) n (flat3 es)) (i : Nat) (x : T3) :
    (put3 w g i x).ownsRow base e 3 (.slice (some ⟨g, 0, none⟩) n cap) n (flat3 (es.set i x)) := by
  rw [flat3_set]
  exact (((h.stored _ _).1.stored _ _).1.stored _ _).1
theorem own_made3 {w : World} {base e : Nat} (a b c : Value) (n : Nat) (hb : base ≤ w.heap.size) (hn : n ≤ maxLen) : (w.alloc (.cells (madeCells #[a, b, c] (n * 3)) e)).ownsRow base e 3 (.slice (some ⟨w.heap.size, 0, none⟩) n n) n (flat3 (List.replicate n ⟨a, b, c⟩)) := by
  refine ⟨by rw [flat3_length, List.length_replicate], .inr ⟨w.heap.size, n, madeCells #[a, b, c] (n * 3), rfl, hb, Deep.blk_alloc_new _ _, Nat.le_refl _, hn, by simp [madeCells], ?_⟩⟩
  rw [made3, List.take_of_length_le]
  rw [flat3_length, List.length_replicate]
  exact Nat.le_refl _

end Go.Proofs.Qxb6602959a.W
