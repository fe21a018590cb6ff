import Derived.Test.Qxb6602959aF
import Derived.Deep.RegionLaw
import Derived.Carry
namespace Go.Proofs.Qxb6602959a.W
open Go.RowKit Go.Maps
set_option linter.unusedVariables false

/-- append onto a row of the call's own, as one step of a region that draws its order. -/
theorem step_append_own {P : Program} {ops : Array Oper} {o : Oper} {a : Act} {w : World} {K : Act → World → Prop} {Q : Exit → Act → World → Prop} {E : Prop}
    (hg : o.guard = none) (s x : Operand) (t : TypeId) (hop : o.op = Op.call { callee := Callee.builtin Builtin.append, args := #[s, x], argTypes := #[t, t] })
    (base : Nat) (e : TypeId) (i : TypeInfo) (z : Value) (size bytes : Nat) (h1 : P.underlying t = some (.slice e)) (h2 : P.info? e = some i) (h3 : i.zero = some z) (h4 : i.size = size) (h5 : i.bytes = bytes) (h6 : z.cells.size = size) (h7 : 0 < size)
    (v : Value) (n : Nat) (xs : List Value) (hs : a.eval s = v) (hown : w.ownsRow base e size v n xs)
    (ad : Addr) (m c : Nat) (news : List Value) (hx : a.eval x = .slice (some ad) m c) (hn : news.length = m * size) (hc : ∀ j u, news[j]? = some u → w.cell? (ad.add j) = some u) (h1c : ∀ u ∈ news, u.oneCell' = true)
    (b1 : n + m ≤ maxLen) (b2 : (n + m) * bytes ≤ 140737488355328) (hbase : base ≤ w.heap.size)
    (hK : ∀ v' w', w'.ownsRow base e size v' (n + m) (xs ++ news) → w.grownBy w' v.ownBlock → K (a.put o.dst v') w') :
    if Region.wanted o (yielded ops a.tmps) = true then Oper.wp P o a w K Q else E := by
  have hw : Region.wanted o (yielded ops a.tmps) = true := by simp [Region.wanted, hg]
  rw [if_pos hw]
  obtain ⟨v', w', hrun, r1, r2, _⟩ := run_append_own (P := P) w base t o.type e i z size bytes h1 h2 h3 h4 h5 h6 h7 v n xs hown ad m c news hn hc h1c b1 b2 hbase
  unfold Oper.wp
  simp [execOp, hop, resolve, invoke, builtin, hs, hx, hrun, Result.andThen]
  exact hK v' w' r1 r2

/-- The way with the nodes of its first j steps. -/
def wayTo (S : Nat → St) (id : Nat → Nat) (n j : Nat) : List St := (List.range n).map (fun a => ⟨(S a).k, (S a).i, if a < j then (id a : Int) else (S a).n⟩)
theorem wayTo_length (S : Nat → St) (id : Nat → Nat) (n j : Nat) : (wayTo S id n j).length = n := by simp [wayTo]
theorem wayTo_get (S : Nat → St) (id : Nat → Nat) {n j a : Nat} (h : a < n) : (wayTo S id n j)[a]? = some ⟨(S a).k, (S a).i, if a < j then (id a : Int) else (S a).n⟩ := by simp [wayTo, h]
theorem listSt_get (S : Nat → St) {n a : Nat} (h : a < n) : (listSt S n)[a]? = some (S a) := by simp [listSt, h]
theorem wayTo_start {S : Nat → St} {id : Nat → Nat} {n m : Nat} (h : ∀ a, a < m → (id a : Int) = (S a).n) : wayTo S id n m = listSt S n := by
  unfold wayTo listSt
  apply List.map_congr_left
  intro a ha
  by_cases e : a < m
  · rw [if_pos e, h a e]
  · rw [if_neg e]
theorem wayTo_set {S : Nat → St} {id : Nat → Nat} {n j v : Nat} : (wayTo S id n j).set j ⟨(S j).k, (S j).i, (v : Int)⟩ = wayTo S (upd id j v) n (j + 1) := by
  apply List.ext_getElem
  · simp [wayTo]
  · intro a h1 h2
    rw [List.getElem_set]
    by_cases e : j = a
    · subst e; simp [wayTo, upd]
    · rw [if_neg e]
      simp only [wayTo, List.getElem_map, List.getElem_range, St.mk.injEq, true_and]
      by_cases e1 : a < j
      · rw [if_pos e1, if_pos (by omega), upd_other _ (by omega)]
      · rw [if_neg e1, if_neg (by omega)]

theorem Went.clen {S : Nat → St} {ns0 : List Nd} {m j : Nat} {ns : List Nd} {id c : Nat → Nat} (h : Went S ns0 m j ns id c) : ∀ k, k ≤ j → c k ≤ ns0.length + k
  | 0, _ => by rw [h.c0]; omega
  | k + 1, hk => by
    have := Went.clen h k (by omega)
    rcases h.cs k (by omega) with ⟨_, h3⟩ | ⟨_, _, h4⟩ <;> omega
theorem Went.len {S : Nat → St} {ns0 : List Nd} {m j : Nat} {ns : List Nd} {id c : Nat → Nat} (h : Went S ns0 m j ns id c) : ns.length ≤ ns0.length + j := by
  have := h.clen j (Nat.le_refl _)
  rw [h.cj] at this
  exact this
/-- The parent's bounds. -/
theorem Went.par {S : Nat → St} {ns0 : List Nd} {m j : Nat} {ns : List Nd} {id c : Nat → Nat} (h : Went S ns0 m j ns id c) : -1 ≤ par id j ∧ par id j < ns.length ∨ (par id j = -1) := by
  cases j with
  | zero => exact .inr rfl
  | succ j =>
    rw [par_succ]
    have := h.lt (show j < j + 1 by omega)
    omega
theorem wf_i32 {x : Int} (h1 : -2147483648 ≤ x) (h2 : x ≤ 2147483647) : (Lit.int .i32 x).wf = true := WalkArith.wf_i32 ⟨h1, h2⟩

def St.ok (x : St) : Prop := x.k.size ≤ maxLen ∧ (Lit.int .i64 x.i).wf = true

section
variable {w : World} {R : Nat} {vw vn vm : Value} {ws : List St} {ns ks : List Nd}
theorem Pth.setNode' {g cap n : Nat} (h : Pth w R (.slice (some ⟨g, 0, none⟩) n cap) vn vm ws ns ks) (hn : n = ws.length) (i : Nat) {x : St} (hx : ws[i]? = some x) (v : Int) :
    Pth (w.setCell ⟨g, i * 3 + 2, none⟩ (.int .i32 v)) R (.slice (some ⟨g, 0, none⟩) n cap) vn vm (ws.set i ⟨x.k, x.i, v⟩) ns ks := by
  subst hn
  obtain ⟨hi, rfl⟩ := List.getElem?_eq_some_iff.1 hx
  exact h.setNode i hi v
theorem cell_alloc (w : World) (cs : Array Value) (t : TypeId) (i : Nat) {v : Value} (h : cs[i]? = some v) : (w.alloc (.cells cs t)).cell? ⟨w.heap.size, i, none⟩ = some v := cell_new w cs t i h
theorem Pth.freshMap (h : Pth w R vw vn (.map none) ws ns ks) : Pth ((w.setCell ⟨R, 2, none⟩ (.map (some w.heap.size))).alloc (.map #[] 0)) R vw vn (.map (some w.heap.size)) ws ns ks := by
  obtain rfl : ks = [] := by
    rcases h.kn with ⟨_, h'⟩ | ⟨B, D, h', _⟩
    · exact h'
    · cases h'
  have hlt := h.lt
  have hg : w.grownBy (w.setCell ⟨R, 2, none⟩ (.map (some w.heap.size))) (some R) := grownBy_setCell _ _ _
  have hs : (w.setCell ⟨R, 2, none⟩ (.map (some w.heap.size))).heap.size = w.heap.size := by simp [World.setCell]
  have hw := h.way.kept hg (own_R h.way (by omega))
  have hn := h.nds.kept hg (own_R h.nds (by omega))
  have hst := set_st2 (v := .map (some w.heap.size)) h.st
  generalize w.setCell ⟨R, 2, none⟩ (.map (some w.heap.size)) = x at *
  rw [← hs] at hlt hst ⊢
  refine ⟨?_, hw.alloc _, hn.alloc _, .inr ⟨x.heap.size, .map [], rfl, hlt, World.ownsMap_made _ _ _ _, Knows.start⟩⟩
  rw [Below.heap_alloc _ _ _ hlt]
  exact hst
/-- The lookup, whatever the map. -/
theorem Pth.look (h : Pth w R vw vn vm ws ns ks) {x : Nd} (hx : x.ok) : ∃ (d : Int) (b : Bool), (Instr.lookup 50 vm x.val true).run Try.prog w = .ok (.tuple #[.int .i32 d, .bool b]) w ∧ (b = true → ∃ i : Nat, ks[i]? = some x ∧ d = (i : Int)) ∧ (b = false → x ∉ ks) := by
  rcases h.kn with ⟨rfl, rfl⟩ | ⟨B, D, rfl, hB, hm, hk⟩
  · refine ⟨0, false, Maps.look_nil true law56 Try.underlying50 (zero21 _) (key56 hx), (fun h => by cases h), fun _ h => by cases h⟩
  · cases hb : Maps.has D (kl x)
    · have hn : x ∉ ks := fun hmem => by
        have := (hk.has x hx).2 hmem
        rw [hb] at this
        cases this
      have hr := look_ok hm law56 Try.underlying50 (zero21 _) (key56 hx) (hk.no x hx hn)
      rw [hb] at hr
      exact ⟨0, false, hr, (fun h => by cases h), fun _ => hn⟩
    · have hmem := (hk.has x hx).1 hb
      obtain ⟨i, hi, he⟩ := List.getElem_of_mem hmem
      have hi' : ks[i]? = some x := by rw [List.getElem?_eq_getElem hi, he]
      have hr := look_ok hm law56 Try.underlying50 (zero21 _) (key56 hx) (hk.num i x hi')
      rw [hb] at hr
      exact ⟨(i : Int), true, hr, (fun _ => ⟨i, hi', rfl⟩), fun h => by cases h⟩

/-- The map's store of the node that was appended. -/
theorem Pth.know {B : Nat} {x : Nd} (h : Pth w R vw vn (.map (some B)) ws ns ks) (hx : x.ok) (hno : x ∉ ks) (hl : ks.length < maxLen) :
    ∃ w', (Instr.mapUpdate 50 (.map (some B)) x.val (.int .i32 (ks.length : Int))).run Try.prog w = .ok () w' ∧ Pth w' R vw vn (.map (some B)) ws ns (ks ++ [x]) ∧ R < B ∧ w.grownBy w' (some B) := by
  rcases h.kn with ⟨h', _⟩ | ⟨B', D, e, hB, hm, hk⟩
  · cases h'
  cases e
  obtain ⟨w', hrun, hown, hturn⟩ := hm.store law56 Try.underlying50 hl (key56 hx) (val := .int .i32 (ks.length : Int)) (d := .held (.int .i32 (ks.length : Int))) (ps := []) rfl
  have hk' := hk.step (hm.tidy law56) hx hno
  exact ⟨w', hrun, h.turnMap hB hm hturn.grown (by rw [List.length_append]; exact hown) hk', hB, hturn.grown⟩

/-- What stands behind the append, ahead of the store. -/
theorem Pth.appended {w' : World} {v' : Value} {x : Nd} {q : Nat} (h : Pth w R vw vn vm ws ns ks) (hr : w'.ownsRow (R + 1) 56 3 v' (ns.length + 1) (flat3 (ns.map Nd.tri) ++ [.int .i32 x.p, .string x.k, .int .i64 x.i])) (hg : w.grownBy w' vn.ownBlock)
    (hq : q < w.heap.size) (hqR : q ≠ R) (hqn : ∀ b, vn.ownBlock = some b → b < q) :
    (∃ g cap, v' = .slice (some ⟨g, 0, none⟩) (ns.length + 1) cap) ∧ w'.cell? ⟨R, 1, none⟩ = some vn ∧ w'.frozen? ⟨R, 1, none⟩ = false ∧ Pth (w'.setCell ⟨R, 1, none⟩ v') R vw v' vm ws (ns ++ [x]) ks ∧
    (∀ i, (w'.setCell ⟨R, 1, none⟩ v').cell? ⟨q, i, none⟩ = w.cell? ⟨q, i, none⟩) ∧ q < (w'.setCell ⟨R, 1, none⟩ v').heap.size ∧ Below R w (w'.setCell ⟨R, 1, none⟩ v') := by
  have hR : some R ≠ vn.ownBlock := fun e => by have := (h.nds.lt R e.symm).1; omega
  have hb := hg.block R h.lt hR
  obtain ⟨g, cap, hv, _⟩ := own_shape hr
  have hs : (w'.setCell ⟨R, 1, none⟩ v').heap.size = w'.heap.size := by simp [World.setCell]
  have hqb : (w'.setCell ⟨R, 1, none⟩ v').heap[q]? = w.heap[q]? := (Below.heap_setCell _ _ _ _ hqR).trans (hg.block q hq (fun e => by have := hqn q e.symm; omega))
  refine ⟨⟨g, cap, hv⟩, (World.cell?_of_block (w := w) (a := ⟨R, 1, none⟩) hb).trans h.c1, (World.frozen?_of_block (w := w) (a := ⟨R, 1, none⟩) hb).trans (h.fz 1), ?_, fun i => World.cell?_of_block (w := w) (a := ⟨q, i, none⟩) hqb, by rw [hs]; exact Nat.lt_of_lt_of_le hq hg.size, ?_⟩
  · refine h.append hg ?_
    rw [List.map_append, flat3_append, List.length_append]
    exact hr
  · exact ((Below.refl R w).grown hg (Nat.le_of_lt h.lt) (fun k hk => by have := (h.nds.lt k hk).1; omega)).setCell (p := ⟨R, 1, none⟩) (Nat.le_refl _) _
theorem cells_new (w : World) (cs : List Value) (t : TypeId) {j : Nat} {u : Value} (h : cs[j]? = some u) : (w.alloc (.cells cs.toArray t)).drew.cell? ((⟨w.heap.size, 0, none⟩ : Addr).add j) = some u := by
  have : (⟨w.heap.size, 0, none⟩ : Addr).add j = ⟨w.heap.size, j, none⟩ := by simp [Addr.add]; omega
  rw [this]
  exact cell_new w cs.toArray t j (by simpa using h)
theorem setCell_size (w : World) (a : Addr) (v : Value) : (w.setCell a v).heap.size = w.heap.size := by simp [World.setCell]
theorem alloc_size (w : World) (o : Obj) : (w.alloc o).heap.size = w.heap.size + 1 := by simp
theorem blk_keep {q : Nat} {i : Nat} {v : Value} {o : Obj} (hq : q < w.heap.size) (hR : q ≠ R) : ((w.setCell ⟨R, i, none⟩ v).alloc o).heap[q]? = w.heap[q]? := by
  rw [Below.heap_alloc _ _ _ (by simpa [World.setCell] using hq)]
  exact Below.heap_setCell _ _ _ _ hR
end

end Go.Proofs.Qxb6602959a.W
