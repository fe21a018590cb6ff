import Derived.Test.Qxb6602959aW1
import Derived.Maps.OwnOps
import Derived.Maps.OwnSet
import Derived.DeepKeys4
import Derived.Laws.StructEq
namespace Go.Proofs.Qxb6602959a.W
open Go.RowKit Go.Maps
set_option linter.unusedVariables false

/-- The reader of a map's elements that keeps each value whole, as a token. -/
def held (v : Value) : Option (DataW Value × List MemPlace) := some (.held v, [])
theorem held_inj {v : Value} {d : DataW Value} {ps : List MemPlace} (h : held v = some (d, ps)) : d = .held v := by
  unfold held at h
  simp only [Option.some.injEq, Prod.mk.injEq] at h
  exact h.1.symm

theorem laidOut : laidOutB Try.prog = true := by kernel_rfl
theorem law34 : Keyed Try.prog 34 := Keyed.of_law (deep_law_laid laidOut (m := 2) (by omega) (of_decide_eq_true (by kernel_rfl)) (by kernel_rfl) (by kernel_rfl))
theorem law56 : Keyed Try.prog 56 := Keyed.of_law (deep_law_laid laidOut (m := 3) (by omega) (of_decide_eq_true (by kernel_rfl)) (by kernel_rfl) (by kernel_rfl))

def Nd.val (x : Nd) : Value := .agg #[.int .i32 x.p, .string x.k, .int .i64 x.i]
def Nd.ok (x : Nd) : Prop := (Lit.int .i32 x.p).wf = true ∧ x.k.size ≤ maxLen ∧ (Lit.int .i64 x.i).wf = true
theorem Nd.val_inj {x y : Nd} (h : x.val = y.val) : x = y := by
  obtain ⟨p, k, i⟩ := x
  obtain ⟨p', k', i'⟩ := y
  simp [Nd.val] at h
  obtain ⟨rfl, rfl, rfl⟩ := h
  rfl

theorem cells34 : Try.prog.cellsOf 34 = 3 := by kernel_rfl
theorem cells56 : Try.prog.cellsOf 56 = 3 := by kernel_rfl
theorem cells54 : Try.prog.cellsOf 54 = 2 := by kernel_rfl
theorem cells9 : Try.prog.cellsOf 9 = 1 := by kernel_rfl
theorem cells3 : Try.prog.cellsOf 3 = 1 := by kernel_rfl
theorem cells21 : Try.prog.cellsOf 21 = 1 := by kernel_rfl
theorem kt34 : Try.prog.keyType 34 = true := by kernel_rfl
theorem kt56 : Try.prog.keyType 56 = true := by kernel_rfl
theorem tsize : ∃ d, Try.prog.types.size = d + 3 := ⟨Try.prog.types.size - 3, by
  have : 3 ≤ Try.prog.types.size := of_decide_eq_true (by kernel_rfl)
  omega⟩

/-- The key that a node reads as. -/
def kl (x : Nd) : Lit := .string (keyBytes [.int .i32 x.p, .string x.k.data.toList, .int .i64 x.i])
theorem key34 {x : Nd} (h : x.ok) : keyOf Try.prog 34 x.val = some (kl x) := by
  obtain ⟨h1, h2, h3⟩ := h
  obtain ⟨d, hd⟩ := tsize
  unfold keyOf
  rw [Try.underlying34, hd]
  simp [kt34, Nd.val, Value.formed, Try.underlying34, cells34, Value.cells, Program.keyLits, Try.underlying21, Try.underlying9, Try.underlying3, cells21, cells9, cells3, h1, h2, h3, kl]
theorem key56 {x : Nd} (h : x.ok) : keyOf Try.prog 56 x.val = some (kl x) := by
  obtain ⟨h1, h2, h3⟩ := h
  obtain ⟨d, hd⟩ := tsize
  unfold keyOf
  rw [Try.underlying56, hd]
  simp [kt56, Nd.val, Value.formed, Try.underlying56, Try.underlying54, cells56, cells54, Value.cells, Program.keyLits, Try.underlying21, Try.underlying9, Try.underlying3, cells21, cells9, cells3, h1, h2, h3]
  rw [if_pos (by
    intro i hi
    match i, hi with
    | 0, _ => show ¬ "key" = "_"; decide
    | 1, _ => show ¬ "index" = "_"; decide)]
  rfl
theorem kl_inj {x y : Nd} (hx : x.ok) (hy : y.ok) (h : kl x = kl y) : x = y := Nd.val_inj (law34.inj (key34 hx) (h ▸ key34 hy))
theorem kl_key (x : Nd) : WideAt.IsKeyLit (kl x) := by trivial

theorem zero3 (w : World) : (zeroValue 3).run Try.prog w = .ok (.int .i64 0) w := by kernel_rfl
theorem zero21 (w : World) : (zeroValue 21).run Try.prog w = .ok (.int .i32 0) w := by kernel_rfl

theorem ownsMap_isMap {w : World} {P : Program} {k : TypeId} {R : Value → Option (DataW Value × List MemPlace)} {b n : Nat} {D : DataW Value} (h : w.ownsMap P k R b n D) : IsMap D := by
  obtain ⟨es, clock, _, _, _, rfl⟩ := h
  exact ⟨_, rfl⟩
theorem ownsMap_below {w w' : World} {P : Program} {k : TypeId} {R : Value → Option (DataW Value × List MemPlace)} {b n : Nat} {D : DataW Value} (h : w.ownsMap P k R b n D) (hb : Below w.heap.size w w') : w'.ownsMap P k R b n D := by
  have hlt := h.lt
  obtain ⟨es, clock, h1, r⟩ := h
  exact ⟨es, clock, (hb.block b hlt).trans h1, r⟩

/-- 'v, ok := m[k]', the elements kept whole: its run. -/
theorem look_ok {P : Program} {k e t : TypeId} {w : World} {b n : Nat} {D : DataW Value} (h : w.ownsMap P k held b n D) (K : Keyed P k) (ht : P.underlying t = some (.map k e)) {z : Value} (hz : (zeroValue e).run P w = .ok z w)
    {key : Value} {kl : Lit} (hkey : keyOf P k key = some kl) {v : Value} (hv : D.atKey kl (.held z) = .held v) : (Instr.lookup t (.map (some b)) key true).run P w = .ok (.tuple #[v, .bool (Maps.has D kl)]) w := by
  obtain ⟨v', ps, hrun, hat⟩ := h.look_ok K ht hz (zd := .held z) (zp := []) rfl hkey
  have h1 := held_inj hat
  rw [hv] at h1
  injection h1 with h1
  subst h1
  exact hrun

theorem fields34 : Try.prog.underlying 34 = some (.struct (Try.prog.fieldsOf 34)) := by
  unfold Program.fieldsOf
  rw [Try.underlying34]
theorem held34 : Try.prog.stoodInHeld 34 = false := by kernel_rfl
theorem guard34 : Try.prog.eqGuardType Try.prog.depth 34 = false := by kernel_rfl
theorem part_i32 (w : World) (a b c : Value) : (part 21 #[a, b, c] 0).run Try.prog w = .ok a w := by kernel_rfl
theorem part_str (w : World) (a b c : Value) : (part 9 #[a, b, c] 1).run Try.prog w = .ok b w := by kernel_rfl
theorem part_int (w : World) (a b c : Value) : (part 3 #[a, b, c] 2).run Try.prog w = .ok c w := by kernel_rfl
theorem neq34 (x y : Nd) (w : World) : (binOp .neq 34 x.val y.val).run Try.prog w = .ok (.bool (!((x.p == y.p) && (x.k.toList == y.k.toList) && (x.i == y.i)))) w := by
  unfold Nd.val
  rw [run_neq_struct, run_equalIn_agg w 9999 34 _ _ fields34 held34]
  have hf : (Try.prog.fieldsOf 34).toList.map (fun f => (f.name, f.type, f.offset)) = [("Parent", 21, 0), ("Key", 9, 1), ("Index", 3, 2)] := by kernel_rfl
  generalize (Try.prog.fieldsOf 34).toList = fs at hf
  obtain ⟨f1, f2, f3, rfl⟩ : ∃ f1 f2 f3, fs = [f1, f2, f3] := by
    have hlen : fs.length = 3 := by have := congrArg List.length hf; simpa using this
    match fs, hlen with
    | [a, b, c], _ => exact ⟨a, b, c, rfl⟩
  · simp only [List.map_cons, List.map_nil, List.cons.injEq, Prod.mk.injEq, and_true] at hf
    obtain ⟨⟨n1, t1, o1⟩, ⟨n2, t2, o2⟩, ⟨n3, t3, o3⟩⟩ := hf
    cases h1 : x.p == y.p <;> cases h2 : x.k.toList == y.k.toList <;> cases h3 : x.i == y.i <;>
    simp [Op.eqFields, n1, t1, o1, n2, t2, o2, n3, t3, o3, part_i32, part_str, part_int, run_equalIn_int w _ 21 .i32 .i32 _ _ Try.underlying21, run_equalIn_string w _ 9 _ _ Try.underlying9, run_equalIn_int w _ 3 .i64 .i64 _ _ Try.underlying3, h1, h2, h3]
theorem bytes_eq {a b : ByteArray} (h : a.toList = b.toList) : a = b := by
  rw [ByteArray.toList_eq, ByteArray.toList_eq] at h
  obtain ⟨⟨x⟩⟩ := a
  obtain ⟨⟨y⟩⟩ := b
  simp only at h
  rw [h]
theorem neq34_same (x : Nd) (w : World) : (binOp .neq 34 x.val x.val).run Try.prog w = .ok (.bool false) w := by
  rw [neq34]
  simp
theorem neq34_other {x y : Nd} (h : x ≠ y) (w : World) : (binOp .neq 34 x.val y.val).run Try.prog w = .ok (.bool true) w := by
  rw [neq34]
  have : ((x.p == y.p) && (x.k.toList == y.k.toList) && (x.i == y.i)) = false := by
    cases hb : ((x.p == y.p) && (x.k.toList == y.k.toList) && (x.i == y.i))
    · rfl
    · simp only [Bool.and_eq_true, beq_iff_eq] at hb
      obtain ⟨⟨h1, h2⟩, h3⟩ := hb
      obtain ⟨p, k, i⟩ := x
      obtain ⟨p', k', i'⟩ := y
      simp only at h1 h2 h3
      exact absurd (by rw [h1, bytes_eq h2, h3]) h
  rw [this]
  rfl

end Go.Proofs.Qxb6602959a.W
