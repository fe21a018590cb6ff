import Derived.Test.Qxb6602959aRows
import Derived.Test.Qxb6602959aL
import Derived.Deep.Slices
import Derived.Deep.Strs
import Derived.WalkKit
import Derived.ProofKit
import Derived.OpenShut
import Derived.ShutString
import Derived.ChangeOld
import Derived.SliceStrings
namespace Go.Proofs.Qxb6602959a.W
open Go.ChangeShapes Go.WideShapes Go.ChangeAt Go.RowKit
open Go.ChangeMaps (open_string shut_string)
set_option linter.unusedVariables false

theorem own : ownKnob Try.prog.godebug = none := by kernel_rfl

theorem cell_lt {w : World} {a : Addr} {v : Value} (h : w.cell? a = some v) : a.block < w.heap.size := by
  unfold World.cell? at h
  split at h
  · rename_i hb
    exact (Array.getElem?_eq_some_iff.1 hb).1
  · cases h

theorem cells40 : Try.prog.cellsOf 40 = 3 := by kernel_rfl

section
variable {H : Type} {enc : TypeId × Value → H} {W : World}

theorem three {w : World} {base : Nat} {a : Addr} {cs : List Value} (h : w.cells? base a 3 = some cs) : ∃ u v z, cs = [u, v, z] ∧ w.cell? a = some u ∧ w.cell? (a.add 1) = some v ∧ w.cell? (a.add 2) = some z := by
  obtain ⟨_, hlen, hc⟩ := World.cells?_some h
  match cs, hlen with
  | [u, v, z], _ => exact ⟨u, v, z, rfl, by simpa [Addr.add] using hc 0 (by omega), by simpa using hc 1 (by omega), by simpa using hc 2 (by omega)⟩

theorem i32_le {n : Int} (h : (Lit.int .i32 n).wf = true) : n ≤ 2147483647 := by
  simp [Lit.wf, IntKind.min, IntKind.max, IntKind.bits, IntKind.signed] at h
  omega

theorem one_step {fuel : Nat} {cs : List Value} {x : DataW H × List MemPlace} (hl : cs.length = 3) (h : DataW.trod enc Try.prog W 0 (fun _ => true) true fuel 40 cs = some x) :
    ∃ s : St, cs = [.string s.k, .int .i64 s.i, .int .i32 s.n] ∧ s.ok ∧ s.n ≤ 2147483647 := by
  obtain ⟨y0, y1, y2, n, _, _, g0, g1, g2⟩ := Deep.trod_struct3 Try.underlying40 h
  match cs, hl with
  | [u, v, z], _ =>
    simp only [cells9, cells3, cells21] at g0 g1 g2
    obtain ⟨s, e0, _, hs⟩ := DataW.trod_string Try.underlying9 g0
    obtain ⟨i, e1, _, hi⟩ := DataW.trod_int Try.underlying3 g1
    obtain ⟨m, e2, _, hm⟩ := DataW.trod_int Try.underlying21 g2
    simp at e0 e1 e2
    subst e0
    subst e1
    subst e2
    exact ⟨⟨s, i, m⟩, rfl, ⟨hs, hi⟩, i32_le hm⟩

theorem one_node {fuel : Nat} {cs : List Value} {x : DataW H × List MemPlace} (hl : cs.length = 3) (h : DataW.trod enc Try.prog W 0 (fun _ => true) true fuel 34 cs = some x) :
    ∃ s : Nd, cs = [.int .i32 s.p, .string s.k, .int .i64 s.i] ∧ s.ok := by
  obtain ⟨y0, y1, y2, n, _, _, g0, g1, g2⟩ := Deep.trod_struct3 Try.underlying34 h
  match cs, hl with
  | [u, v, z], _ =>
    simp only [cells9, cells3, cells21] at g0 g1 g2
    obtain ⟨m, e0, _, hm⟩ := DataW.trod_int Try.underlying21 g0
    obtain ⟨s, e1, _, hs⟩ := DataW.trod_string Try.underlying9 g1
    obtain ⟨i, e2, _, hi⟩ := DataW.trod_int Try.underlying3 g2
    simp at e0 e1 e2
    subst e0
    subst e1
    subst e2
    exact ⟨⟨m, s, i⟩, rfl, ⟨hm, hs, hi⟩⟩

theorem view_steps {a : Option Addr} {len cap : Nat} {d : DataW H} {p : List MemPlace} (h : DataW.Trod enc Try.prog W 0 (fun _ => true) true 22 (.slice a len cap) d p) :
    ∃ S : Nat → St, Steps W a len S ∧ (a = none → len = 0 ∧ cap = 0) ∧ ∀ i, i < len → (S i).ok ∧ (S i).n ≤ 2147483647 := by
  obtain ⟨fuel, hf⟩ := h
  rcases Deep.open_slice Try.underlying22 hf with ⟨hcs, _⟩ | ⟨x, l, c, m, k, D, Pl, hcs, _, hl, hm, hmm, _, hx⟩
  · simp [Value.cells] at hcs
    obtain ⟨rfl, rfl, rfl⟩ := hcs
    exact ⟨fun _ => zSt, .inl rfl, fun _ => ⟨rfl, rfl⟩, fun i hi => absurd hi (by omega)⟩
  · simp [Value.cells] at hcs
    obtain ⟨rfl, rfl, rfl⟩ := hcs
    simp only [if_true] at hmm
    subst hmm
    rw [cells40] at hx
    haveI : Inhabited St := ⟨zSt⟩
    obtain ⟨S, hS⟩ := Deep.choose_lt (α := St) (n := m) (p := fun i s => (W.cell? (x.add (i * 3)) = some (.string s.k) ∧ W.cell? ((x.add (i * 3)).add 1) = some (.int .i64 s.i) ∧ W.cell? ((x.add (i * 3)).add 2) = some (.int .i32 s.n)) ∧ s.ok ∧ s.n ≤ 2147483647) (fun i hi => by
      obtain ⟨cs', g1, g2⟩ := hx i hi
      obtain ⟨u, v, z, rfl, c0, c1, c2⟩ := three g1
      obtain ⟨s, es, hs⟩ := one_step rfl g2
      simp at es
      obtain ⟨rfl, rfl, rfl⟩ := es
      exact ⟨s, ⟨c0, c1, c2⟩, hs⟩)
    refine ⟨S, ?_, (fun h => by cases h), fun i hi => (hS i (by omega)).2⟩
    by_cases h0 : len = 0
    · exact .inl h0
    · have h1 := (hS 0 (by omega)).1.1
      obtain ⟨b, off, spot⟩ := x
      have hspot : spot = none := by simpa [Addr.add] using World.cell?_spot h1
      subst hspot
      refine .inr ⟨b, off, rfl, by simpa [Addr.add] using cell_lt h1, fun i hi => ?_⟩
      have := (hS i (by omega)).1
      simp only [add_plain] at this
      exact this

theorem view_nodes {a : Option Addr} {len cap : Nat} {d : DataW H} {p : List MemPlace} (h : DataW.Trod enc Try.prog W 0 (fun _ => true) true 23 (.slice a len cap) d p) :
    ∃ S : Nat → Nd, Nodes W a len S ∧ (a = none → len = 0 ∧ cap = 0) ∧ ∀ i, i < len → (S i).ok := by
  obtain ⟨fuel, hf⟩ := h
  rcases Deep.open_slice Try.underlying23 hf with ⟨hcs, _⟩ | ⟨x, l, c, m, k, D, Pl, hcs, _, hl, hm, hmm, _, hx⟩
  · simp [Value.cells] at hcs
    obtain ⟨rfl, rfl, rfl⟩ := hcs
    exact ⟨fun _ => zNd, .inl rfl, fun _ => ⟨rfl, rfl⟩, fun i hi => absurd hi (by omega)⟩
  · simp [Value.cells] at hcs
    obtain ⟨rfl, rfl, rfl⟩ := hcs
    simp only [if_true] at hmm
    subst hmm
    rw [cells34] at hx
    haveI : Inhabited Nd := ⟨zNd⟩
    obtain ⟨S, hS⟩ := Deep.choose_lt (α := Nd) (n := m) (p := fun i s => (W.cell? (x.add (i * 3)) = some (.int .i32 s.p) ∧ W.cell? ((x.add (i * 3)).add 1) = some (.string s.k) ∧ W.cell? ((x.add (i * 3)).add 2) = some (.int .i64 s.i)) ∧ s.ok) (fun i hi => by
      obtain ⟨cs', g1, g2⟩ := hx i hi
      obtain ⟨u, v, z, rfl, c0, c1, c2⟩ := three g1
      obtain ⟨s, es, hs⟩ := one_node rfl g2
      simp at es
      obtain ⟨rfl, rfl, rfl⟩ := es
      exact ⟨s, ⟨c0, c1, c2⟩, hs⟩)
    refine ⟨S, ?_, (fun h => by cases h), fun i hi => (hS i (by omega)).2⟩
    by_cases h0 : len = 0
    · exact .inl h0
    · have h1 := (hS 0 (by omega)).1.1
      obtain ⟨b, off, spot⟩ := x
      have hspot : spot = none := by simpa [Addr.add] using World.cell?_spot h1
      subst hspot
      refine .inr ⟨b, off, rfl, by simpa [Addr.add] using cell_lt h1, fun i hi => ?_⟩
      have := (hS i (by omega)).1
      simp only [add_plain] at this
      exact this
end


set_option maxRecDepth 100000 in
set_option maxHeartbeats 1000000 in
theorem lifted (os : Os) (started : os.Started) (H : Type) (enc : TypeId × Value → H) :
    ReturnsInHanded {} Try.checked os 3 .any (Rows.fnPathsHereNamesTheWaySpec.pre6 enc Try.prog Try.f3 Rows.fnPathsHereNamesTheWayRow.domain false) (Rows.fnPathsHereNamesTheWaySpec.post enc Try.prog Try.f3 false true false false) := by
  refine returnsInHanded_of_change (C := Try.checked) own started (by kernel_rfl) Try.func3
    (ChangeSpec.witness6 (enc := enc) (C := Try.checked) false ⟨#[], #[.slice none 0 0, .slice none 0 0], []⟩ 8 (by kernel_rfl) (by kernel_rfl) (by kernel_rfl) (by kernel_rfl)) ?_
  intro W base args ds gs before hval0 hW hcnd _
  have hval : ∀ (j : Nat) t v, Try.f3.params[j]? = some t → args[j]? = some v → Value.okWide Try.prog W .any base t v := hval0
  have hW' := hW
  obtain ⟨p, q, hA0, hV, rfl, hfz, hnd⟩ := hW
  have hA : DataW.TrodAll enc Try.prog W 0 (fun _ => true) true Try.f3.params.toList args.toList ds p := hA0
  rw [Try.params3] at hA hval
  obtain ⟨v0, vs0, d0, ds0, p0, q0, hargs, rfl, rfl, h0, r0⟩ := trodAll_cons hA
  obtain ⟨v1, vs1, d1, ds1, p1, q1, rfl, rfl, rfl, h1, r1⟩ := trodAll_cons r0
  obtain ⟨rfl, rfl, rfl⟩ := trodAll_nil r1
  obtain rfl : args = #[v0, v1] := by cases args; simp_all
  obtain ⟨rfl, rfl⟩ := trodVars_none hV
  obtain ⟨a0, len0, cap0, rfl⟩ := okWide_slice Try.underlying22 (hval 0 22 v0 rfl rfl)
  have k0 := h0
  have lt0 : ∀ x ∈ p0, x.block < W.heap.size := by obtain ⟨m, hm⟩ := k0; exact DataW.trod_lt m _ _ _ hm
  obtain ⟨S0, sa0, sb0, sc0⟩ := view_steps h0
  obtain ⟨a1, len1, cap1, rfl⟩ := okWide_slice Try.underlying23 (hval 1 23 v1 rfl rfl)
  have k1 := h1
  have lt1 : ∀ x ∈ p1, x.block < W.heap.size := by obtain ⟨m, hm⟩ := k1; exact DataW.trod_lt m _ _ _ hm
  obtain ⟨S1, sa1, sb1, sc1⟩ := view_nodes h1
  clear hA0 hval0
  refine (walk a0 len0 cap0 S0 a1 len1 cap1 S1 W sa0 sa1 sb0 sc0 sc1).mono fun e W' ⟨he, bel⟩ => ?_
  subst he
  exact ⟨_, rfl, _, _, _, [], _, [], hW', trodAll_mk1 (shut_bool Try.underlying4 _), (trodAll_cons_mk (Below.trod laidOut (by kernel_rfl) (of_decide_eq_true (by kernel_rfl)) k0 bel lt0) (trodAll_cons_mk (Below.trod laidOut (by kernel_rfl) (of_decide_eq_true (by kernel_rfl)) k1 bel lt1) trodAll_mk0)), rfl, bel.frame _, fun h => by cases h⟩

theorem over : Rows.fnPathsHereNamesTheWayRow.holds Try.pinned (OpenSpec.ofChange Rows.fnPathsHereNamesTheWaySpec) :=
  OpenClaim.holds_of_wide 3 Try.f3 rfl rfl rfl rfl rfl rfl rfl ⟨rfl, rfl, rfl, rfl, rfl⟩ rfl rfl rfl rfl rfl (by kernel_rfl) Try.func3 (by kernel_rfl)
    (of_decide_eq_true (by kernel_rfl)) (by unfold Func.isWrapper; first | (rw [if_pos (by decide +kernel)]; kernel_rfl) | (rw [if_neg (by decide +kernel)]; exact ⟨rfl, rfl⟩))
    (fun os started H enc _ => lifted os started H enc)

end Go.Proofs.Qxb6602959a.W

namespace Go.Proofs.Qxb6602959a
/-- The statement. -/
theorem fnPathsHereNamesTheWayProved : Rows.FnPathsHereNamesTheWaySaid := W.over
end Go.Proofs.Qxb6602959a
