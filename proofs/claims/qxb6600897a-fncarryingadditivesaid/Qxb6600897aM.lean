import Derived.Test.Qxb6600897aW4
import Derived.Maps.OwnOps
import Derived.Maps.OwnSet
namespace Go.Proofs.Qxb6600897a.W
open Go.RowKit Go.Maps
set_option linter.unusedVariables false

/-- The reader of a map's elements that keeps each value whole, as a token. -/
def held (v : Value) : Option (DataW Value × List MemPlace) := some (.held v, [])
theorem held_inj {v : Value} {d : DataW Value} {ps : List MemPlace} (h : held v = some (d, ps)) : d = .held v := by
  unfold held at h
  simp only [Option.some.injEq, Prod.mk.injEq] at h
  exact h.1.symm

theorem law9 : Keyed Try.prog 9 := string_keyed Try.underlying9
theorem key9 {s : ByteArray} (h : s.size ≤ maxLen) : keyOf Try.prog 9 (.string s) = some (.string s.data.toList) := WideMaps.keyOf_string_mk Try.underlying9 h

theorem zero55 (w : World) : (zeroValue 55).run Try.prog w = .ok (.pointer none) w := by kernel_rfl
theorem zero57 (w : World) : (zeroValue 57).run Try.prog w = .ok (.pointer none) w := by kernel_rfl
theorem zero50 (w : World) : (zeroValue 50).run Try.prog w = .ok (.map none) w := by kernel_rfl

/-- 'm[k]' at the operation, its elements kept whole: the value that stands at the key. -/
theorem wpList_lookup_held {P : Program} (w : World) {ops : Array Oper} {rest : List Oper} {o : Oper} {a : Act} {Q : Exit → Act → World → Prop}
    (hg : o.guard = none) (m x : Operand) (t : TypeId) (hop : o.op = Op.lookup t m x false)
    (k e : TypeId) (K : Keyed P k) (ht : P.underlying t = some (.map k e)) (z : Value) (hz : (zeroValue e).run P w = .ok z w) (b n : Nat) (D : DataW Value)
    (hm : a.eval m = .map (some b)) (hown : w.ownsMap P k held b n D) (key : Value) (kl : Lit) (hx : a.eval x = key) (hkey : keyOf P k key = some kl)
    (v : Value) (hv : D.atKey kl (.held z) = .held v)
    (hK : wpList P ops Q rest (a.put o.dst v) w) :
    wpList P ops Q (o :: rest) a w := by
  refine wpList_plain hg fun K' hK' => ?_
  obtain ⟨v', ps, hrun, hat⟩ := hown.lookup K ht hz (zd := .held z) (zp := []) rfl hkey
  have h1 := held_inj hat
  rw [hv] at h1
  injection h1 with h1
  subst h1
  unfold Oper.wp
  simp [execOp, hop, hm, hx, hrun, Result.andThen]
  exact hK' _ _ hK

/-- What the map of counters gives at each key: nothing, or a pointer to a number. -/
def Good (w : World) (D : DataW Value) : Prop := ∀ kl : Lit, D.atKey kl (.held (.pointer none)) = .held (.pointer none) ∨
  ∃ p c, p < w.heap.size ∧ D.atKey kl (.held (.pointer none)) = .held (.pointer (some ⟨p, 0, none⟩)) ∧ w.cell? ⟨p, 0, none⟩ = some (.int .i64 c) ∧ (Lit.int .i64 c).wf = true

theorem Good.empty (w : World) : Good w (.map []) := fun kl => .inl rfl

theorem Good.kept {w w' : World} {D : DataW Value} (h : Good w D) (hs : w.heap.size ≤ w'.heap.size) (hk : ∀ p c, p < w.heap.size → w.cell? ⟨p, 0, none⟩ = some (.int .i64 c) → w'.cell? ⟨p, 0, none⟩ = some (.int .i64 c)) : Good w' D := by
  intro kl
  rcases h kl with h | ⟨p, c, hp, h1, h2, h3⟩
  · exact .inl h
  · exact .inr ⟨p, c, by omega, h1, hk p c hp h2, h3⟩

theorem Good.below {w w' : World} {D : DataW Value} (h : Good w D) (hb : Below w.heap.size w w') : Good w' D :=
  h.kept hb.size (fun p c hp hc => (hb.cell (p := ⟨p, 0, none⟩) hp).trans hc)

theorem Good.put {w : World} {D : DataW Value} (h : Good w D) (hD : IsMap D) {kl : Lit} (hk : WideAt.IsKeyLit kl) {p : Nat} {c : Int} (hp : p < w.heap.size) (hc : w.cell? ⟨p, 0, none⟩ = some (.int .i64 c)) (hw : (Lit.int .i64 c).wf = true) :
    Good w (D.put kl (.held (.pointer (some ⟨p, 0, none⟩)))) := by
  intro kl'
  by_cases e : kl' = kl
  · subst e
    exact .inr ⟨p, c, hp, atKey_put_same hD hk _ _, hc, hw⟩
  · rw [atKey_put_other e]
    exact h kl'

theorem ownsMap_isMap {w : World} {P : Program} {k : TypeId} {R : Value → Option (DataW Value × List MemPlace)} {b n : Nat} {D : DataW Value} (h : w.ownsMap P k R b n D) : IsMap D := by
  obtain ⟨es, clock, _, _, _, rfl⟩ := h
  exact ⟨_, rfl⟩

/-- The counters of one key: a struct of two cells, the second the map of counters. -/
def Lc (w : World) (Bl : Nat) : Prop := ∃ B0 D0 n0 c, Bl < w.heap.size ∧ w.cell? ⟨Bl, 0, none⟩ = some (.int .i64 c) ∧ w.cell? ⟨Bl, 1, none⟩ = some (.map (some B0)) ∧ w.ownsMap Try.prog 9 held B0 n0 D0 ∧ Good w D0
/-- The keys of one namespace. -/
def Ks (w : World) (Bk : Nat) : Prop := ∃ Dk nk, w.ownsMap Try.prog 9 held Bk nk Dk ∧ ∀ kl, Dk.atKey kl (.held (.pointer none)) = .held (.pointer none) ∨ ∃ Bl, Dk.atKey kl (.held (.pointer none)) = .held (.pointer (some ⟨Bl, 0, none⟩)) ∧ Lc w Bl
/-- The whole. -/
def Cs (w : World) (Bc : Nat) : Prop := ∃ Dc nc, w.ownsMap Try.prog 9 held Bc nc Dc ∧ ∀ kl, Dc.atKey kl (.held (.map none)) = .held (.map none) ∨ ∃ Bk, Dc.atKey kl (.held (.map none)) = .held (.map (some Bk)) ∧ Ks w Bk

theorem ownsMap_below {w w' : World} {P : Program} {k : TypeId} {R : Value → Option (DataW Value × List MemPlace)} {b n : Nat} {D : DataW Value} (h : w.ownsMap P k R b n D) (hb : Below w.heap.size w w') : w'.ownsMap P k R b n D := by
  have hlt := h.lt
  obtain ⟨es, clock, h1, r⟩ := h
  exact ⟨es, clock, (hb.block b hlt).trans h1, r⟩

theorem Lc.below {w w' : World} {B : Nat} (h : Lc w B) (hb : Below w.heap.size w w') : Lc w' B := by
  obtain ⟨B0, D0, n0, c, hl, h1, h2, h3, h4⟩ := h
  exact ⟨B0, D0, n0, c, Nat.lt_of_lt_of_le hl hb.size, (hb.cell (p := ⟨B, 0, none⟩) hl).trans h1, (hb.cell (p := ⟨B, 1, none⟩) hl).trans h2, ownsMap_below h3 hb, h4.below hb⟩
theorem Ks.below {w w' : World} {B : Nat} (h : Ks w B) (hb : Below w.heap.size w w') : Ks w' B := by
  obtain ⟨D, n, h1, h2⟩ := h
  refine ⟨D, n, ownsMap_below h1 hb, fun kl => ?_⟩
  rcases h2 kl with h | ⟨Bl, h, h'⟩
  · exact .inl h
  · exact .inr ⟨Bl, h, h'.below hb⟩
theorem Cs.below {w w' : World} {B : Nat} (h : Cs w B) (hb : Below w.heap.size w w') : Cs w' B := by
  obtain ⟨D, n, h1, h2⟩ := h
  refine ⟨D, n, ownsMap_below h1 hb, fun kl => ?_⟩
  rcases h2 kl with h | ⟨Bl, h, h'⟩
  · exact .inl h
  · exact .inr ⟨Bl, h, h'.below hb⟩

end Go.Proofs.Qxb6600897a.W
