import Derived.Test.Qxb6602959aD
namespace Go.Proofs.Qxb6602959a.W
open Go.RowKit Go.Maps
set_option linter.unusedVariables false

/-- The map knows the nodes ks, each by its number. -/
structure Knows (D : DataW Value) (ks : List Nd) : Prop where
  has : ∀ x : Nd, x.ok → (Maps.has D (kl x) = true ↔ x ∈ ks)
  num : ∀ (i : Nat) (x : Nd), ks[i]? = some x → D.atKey (kl x) (.held (.int .i32 0)) = .held (.int .i32 (i : Int))
  no : ∀ x : Nd, x.ok → x ∉ ks → D.atKey (kl x) (.held (.int .i32 0)) = .held (.int .i32 0)
  size : Maps.size D = ks.length
  ok : ∀ x ∈ ks, x.ok

theorem Knows.start : Knows (.map []) [] := ⟨fun x _ => ⟨(fun h => by cases h), (fun h => by cases h)⟩, fun i x h => by simp at h, fun x _ _ => rfl, rfl, fun x h => by cases h⟩

theorem Knows.step {D : DataW Value} {ks : List Nd} (h : Knows D ks) (hD : Tidy D) {x : Nd} (hx : x.ok) (hno : x ∉ ks) : Knows (D.put (kl x) (.held (.int .i32 (ks.length : Int)))) (ks ++ [x]) := by
  have hM := hD.isMap
  have hne : ∀ y : Nd, y.ok → y ≠ x → kl y ≠ kl x := fun y hy e h' => e (kl_inj hy hx h')
  refine ⟨fun y hy => ?_, fun i y hi => ?_, fun y hy hn => ?_, ?_, fun y hy => ?_⟩
  · by_cases e : y = x
    · subst e
      rw [has_put_same hM (kl_key _)]
      simp
    · rw [has_put_other (hne y hy e), h.has y hy]
      simp [e]
  · by_cases hl : i < ks.length
    · rw [List.getElem?_append_left hl] at hi
      have hm : y ∈ ks := List.mem_of_getElem? hi
      have e : y ≠ x := fun e => hno (e ▸ hm)
      rw [atKey_put_other (hne y (h.ok y hm) e)]
      exact h.num i y hi
    · rw [List.getElem?_append_right (by omega)] at hi
      have hi0 : i - ks.length = 0 := by
        have := (List.getElem?_eq_some_iff.1 hi).1
        simpa using this
      rw [hi0] at hi
      simp at hi
      subst hi
      rw [atKey_put_same hM (kl_key _), show i = ks.length by omega]
  · have e : y ≠ x := fun e => hn (by simp [e])
    rw [atKey_put_other (hne y hy e)]
    exact h.no y hy (fun hm => hn (by simp [hm]))
  · rw [size_put hD]
    have : Maps.has D (kl x) = false := by
      cases hb : Maps.has D (kl x)
      · rfl
      · exact absurd ((h.has x hx).1 hb) hno
    rw [this, h.size]
    simp
  · rcases List.mem_append.1 hy with h1 | h1
    · exact h.ok y h1
    · simp at h1; subst h1; exact hx

/-- The paths struct in block R, its way, its nodes, and what its map knows. -/
structure Pth (w : World) (R : Nat) (vw vn vm : Value) (ws : List St) (ns ks : List Nd) : Prop where
  st : w.heap[R]? = some (.cells #[vw, vn, vm] 52 (0, 0))
  way : w.ownsRow (R + 1) 58 3 vw ws.length (flat3 (ws.map St.tri))
  nds : w.ownsRow (R + 1) 56 3 vn ns.length (flat3 (ns.map Nd.tri))
  kn : (vm = .map none ∧ ks = []) ∨ ∃ B D, vm = .map (some B) ∧ R < B ∧ w.ownsMap Try.prog 56 held B ks.length D ∧ Knows D ks

section
variable {w w' : World} {R : Nat} {vw vn vm : Value} {ws : List St} {ns ks : List Nd}

theorem Pth.lt (h : Pth w R vw vn vm ws ns ks) : R < w.heap.size := (Array.getElem?_eq_some_iff.1 h.st).1
theorem Pth.c0 (h : Pth w R vw vn vm ws ns ks) : w.cell? ⟨R, 0, none⟩ = some vw := by simp [World.cell?, h.st]
theorem Pth.c1 (h : Pth w R vw vn vm ws ns ks) : w.cell? ⟨R, 1, none⟩ = some vn := by simp [World.cell?, h.st]
theorem Pth.c2 (h : Pth w R vw vn vm ws ns ks) : w.cell? ⟨R, 2, none⟩ = some vm := by simp [World.cell?, h.st]
theorem Pth.fz (h : Pth w R vw vn vm ws ns ks) (i : Nat) : w.frozen? ⟨R, i, none⟩ = false := by simp [World.frozen?, h.st]

/-- Whatever turns no block of the struct's own keeps all. -/
theorem Pth.kept {row : Option Nat} (h : Pth w R vw vn vm ws ns ks) (hg : w.grownBy w' row) (h1 : some R ≠ row) (h2 : vw.ownBlock = none ∨ vw.ownBlock ≠ row) (h3 : vn.ownBlock = none ∨ vn.ownBlock ≠ row) (h4 : ∀ B, vm = .map (some B) → some B ≠ row) : Pth w' R vw vn vm ws ns ks := by
  refine ⟨(hg.block R h.lt h1).trans h.st, h.way.kept hg h2, h.nds.kept hg h3, ?_⟩
  rcases h.kn with h' | ⟨B, D, e, hB, hm, hk⟩
  · exact .inl h'
  · exact .inr ⟨B, D, e, hB, hm.kept hg (h4 B e), hk⟩
theorem own_ne_none {v : Value} : v.ownBlock = none ∨ v.ownBlock ≠ none := by
  cases v.ownBlock
  · exact .inl rfl
  · exact .inr (by simp)
theorem Pth.below (h : Pth w R vw vn vm ws ns ks) (hb : Below w.heap.size w w') : Pth w' R vw vn vm ws ns ks :=
  h.kept (grownBy_of_below hb none) (by simp) own_ne_none own_ne_none (by simp)
theorem Pth.drew (h : Pth w R vw vn vm ws ns ks) : Pth w.drew R vw vn vm ws ns ks := h.below (Below.refl _ _).drew

theorem apart_map {B m e : Nat} {v : Value} {base n size : Nat} {xs : List Value} {D : DataW Value} (h : w.ownsRow base e size v n xs) (h' : w.ownsMap Try.prog 56 held B m D) : ∀ g, v.ownBlock = some g → g ≠ B := by
  intro g hg e
  subst e
  rcases own_map_apart h h' with h1 | h1
  · rw [h1] at hg; cases hg
  · exact h1 hg

/-- The way's row is turned. -/
theorem Pth.turnWay {ws' : List St} (h : Pth w R vw vn vm ws ns ks) (hg : w.grownBy w' vw.ownBlock) (hr : w'.ownsRow (R + 1) 58 3 vw ws'.length (flat3 (ws'.map St.tri))) : Pth w' R vw vn vm ws' ns ks := by
  have hlt := fun k hk => (h.way.lt k hk).1
  refine ⟨(hg.block R h.lt (fun e => by have := hlt R e.symm; omega)).trans h.st, hr, h.nds.kept hg (own_apart h.nds h.way (by decide)), ?_⟩
  rcases h.kn with h' | ⟨B, D, e, hB, hm, hk⟩
  · exact .inl h'
  · exact .inr ⟨B, D, e, hB, hm.kept hg (fun e => apart_map h.way hm B e.symm rfl), hk⟩
/-- The nodes' row is turned. -/
theorem Pth.turnNds {ns' : List Nd} (h : Pth w R vw vn vm ws ns ks) (hg : w.grownBy w' vn.ownBlock) (hr : w'.ownsRow (R + 1) 56 3 vn ns'.length (flat3 (ns'.map Nd.tri))) : Pth w' R vw vn vm ws ns' ks := by
  have hlt := fun k hk => (h.nds.lt k hk).1
  refine ⟨(hg.block R h.lt (fun e => by have := hlt R e.symm; omega)).trans h.st, h.way.kept hg (own_apart h.way h.nds (by decide)), hr, ?_⟩
  rcases h.kn with h' | ⟨B, D, e, hB, hm, hk⟩
  · exact .inl h'
  · exact .inr ⟨B, D, e, hB, hm.kept hg (fun e => apart_map h.nds hm B e.symm rfl), hk⟩
/-- The map is turned. -/
theorem Pth.turnMap {B : Nat} {D D' : DataW Value} {ks' : List Nd} (h : Pth w R vw vn (.map (some B)) ws ns ks) (hB : R < B) (hm : w.ownsMap Try.prog 56 held B ks.length D) (hg : w.grownBy w' (some B)) (hr : w'.ownsMap Try.prog 56 held B ks'.length D') (hk : Knows D' ks') : Pth w' R vw vn (.map (some B)) ws ns ks' := by
  refine ⟨(hg.block R h.lt (fun e => by cases e; omega)).trans h.st, h.way.kept hg (own_map_apart h.way hm), h.nds.kept hg (own_map_apart h.nds hm), .inr ⟨B, D', rfl, hB, hr, hk⟩⟩

theorem set_st0 {a b c v : Value} (h : w.heap[R]? = some (.cells #[a, b, c] 52 (0, 0))) : (w.setCell ⟨R, 0, none⟩ v).heap[R]? = some (.cells #[v, b, c] 52 (0, 0)) := by
  obtain ⟨hl, he⟩ := Array.getElem?_eq_some_iff.1 h
  simp [World.setCell, hl, Array.getElem_modify, he]
theorem set_st1 {a b c v : Value} (h : w.heap[R]? = some (.cells #[a, b, c] 52 (0, 0))) : (w.setCell ⟨R, 1, none⟩ v).heap[R]? = some (.cells #[a, v, c] 52 (0, 0)) := by
  obtain ⟨hl, he⟩ := Array.getElem?_eq_some_iff.1 h
  simp [World.setCell, hl, Array.getElem_modify, he]
theorem set_st2 {a b c v : Value} (h : w.heap[R]? = some (.cells #[a, b, c] 52 (0, 0))) : (w.setCell ⟨R, 2, none⟩ v).heap[R]? = some (.cells #[a, b, v] 52 (0, 0)) := by
  obtain ⟨hl, he⟩ := Array.getElem?_eq_some_iff.1 h
  simp [World.setCell, hl, Array.getElem_modify, he]

theorem own_R {base n e size : Nat} {v : Value} {xs : List Value} (h : w.ownsRow base e size v n xs) (hb : R < base) : v.ownBlock = none ∨ v.ownBlock ≠ some R := by
  by_cases e : v.ownBlock = some R
  · exact absurd (h.lt R e).1 (by omega)
  · exact .inr e

/-- The struct's first cell: another way. -/
theorem Pth.put0 {vw' : Value} {ws' : List St} (h : Pth w R vw vn vm ws ns ks) (hr : w.ownsRow (R + 1) 58 3 vw' ws'.length (flat3 (ws'.map St.tri))) : Pth (w.setCell ⟨R, 0, none⟩ vw') R vw' vn vm ws' ns ks := by
  have hg : w.grownBy (w.setCell ⟨R, 0, none⟩ vw') (some R) := grownBy_setCell w ⟨R, 0, none⟩ vw'
  refine ⟨set_st0 h.st, hr.kept hg (own_R hr (by omega)), h.nds.kept hg (own_R h.nds (by omega)), ?_⟩
  rcases h.kn with h' | ⟨B, D, e, hB, hm, hk⟩
  · exact .inl h'
  · exact .inr ⟨B, D, e, hB, hm.kept hg (fun e => by cases e; omega), hk⟩
theorem Pth.put1 {vn' : Value} {ns' : List Nd} (h : Pth w R vw vn vm ws ns ks) (hr : w.ownsRow (R + 1) 56 3 vn' ns'.length (flat3 (ns'.map Nd.tri))) : Pth (w.setCell ⟨R, 1, none⟩ vn') R vw vn' vm ws ns' ks := by
  have hg : w.grownBy (w.setCell ⟨R, 1, none⟩ vn') (some R) := grownBy_setCell w ⟨R, 1, none⟩ vn'
  refine ⟨set_st1 h.st, h.way.kept hg (own_R h.way (by omega)), hr.kept hg (own_R hr (by omega)), ?_⟩
  rcases h.kn with h' | ⟨B, D, e, hB, hm, hk⟩
  · exact .inl h'
  · exact .inr ⟨B, D, e, hB, hm.kept hg (fun e => by cases e; omega), hk⟩
theorem Pth.put2 {B : Nat} {D : DataW Value} {ks' : List Nd} (h : Pth w R vw vn vm ws ns ks) (hB : R < B) (hm : w.ownsMap Try.prog 56 held B ks'.length D) (hk : Knows D ks') : Pth (w.setCell ⟨R, 2, none⟩ (.map (some B))) R vw vn (.map (some B)) ws ns ks' := by
  have hg : w.grownBy (w.setCell ⟨R, 2, none⟩ (.map (some B))) (some R) := grownBy_setCell w ⟨R, 2, none⟩ (.map (some B))
  exact ⟨set_st2 h.st, h.way.kept hg (own_R h.way (by omega)), h.nds.kept hg (own_R h.nds (by omega)), .inr ⟨B, D, rfl, hB, hm.kept hg (fun e => by cases e; omega), hk⟩⟩

/-- The append: the nodes' row is turned or laid anew, then stored. -/
theorem Pth.append {vn' : Value} {ns' : List Nd} (h : Pth w R vw vn vm ws ns ks) (hg : w.grownBy w' vn.ownBlock) (hr : w'.ownsRow (R + 1) 56 3 vn' ns'.length (flat3 (ns'.map Nd.tri))) : Pth (w'.setCell ⟨R, 1, none⟩ vn') R vw vn' vm ws ns' ks := by
  have hlt := fun k hk => (h.nds.lt k hk).1
  have hst : w'.heap[R]? = some (.cells #[vw, vn, vm] 52 (0, 0)) := (hg.block R h.lt (fun e => by have := hlt R e.symm; omega)).trans h.st
  have hg' : w'.grownBy (w'.setCell ⟨R, 1, none⟩ vn') (some R) := grownBy_setCell w' ⟨R, 1, none⟩ vn'
  have hw' : w'.ownsRow (R + 1) 58 3 vw ws.length (flat3 (ws.map St.tri)) := h.way.kept hg (own_apart h.way h.nds (by decide))
  refine ⟨set_st1 hst, hw'.kept hg' (own_R hw' (by omega)), hr.kept hg' (own_R hr (by omega)), ?_⟩
  rcases h.kn with h' | ⟨B, D, e, hB, hm, hk⟩
  · exact .inl h'
  · refine .inr ⟨B, D, e, hB, ?_, hk⟩
    have hm' : w'.ownsMap Try.prog 56 held B ks.length D := hm.kept hg (fun e => apart_map h.nds hm B e.symm rfl)
    exact hm'.kept hg' (fun e => by cases e; omega)

/-- One node's cell of the way is turned. -/
theorem Pth.setNode {g cap : Nat} (h : Pth w R (.slice (some ⟨g, 0, none⟩) ws.length cap) vn vm ws ns ks) (i : Nat) (hi : i < ws.length) (v : Int) :
    Pth (w.setCell ⟨g, i * 3 + 2, none⟩ (.int .i32 v)) R (.slice (some ⟨g, 0, none⟩) ws.length cap) vn vm (ws.set i ⟨(ws[i]).k, (ws[i]).i, v⟩) ns ks := by
  refine h.turnWay (grownBy_setCell _ _ _) ?_
  have := (h.way.stored (i * 3 + 2) (.int .i32 v)).1
  rw [List.map_set, List.length_set]
  have e := flat3_setc (ws.map St.tri) i (by simpa using hi) (.int .i32 v)
  rw [List.getElem_map] at e
  rw [show St.tri ⟨(ws[i]).k, (ws[i]).i, v⟩ = ⟨(St.tri ws[i]).a, (St.tri ws[i]).b, .int .i32 v⟩ from rfl, e]
  exact this
theorem Pth.putWay {g cap : Nat} {n : Nat} (h : Pth w R (.slice (some ⟨g, 0, none⟩) n cap) vn vm ws ns ks) (hn : n = ws.length) (i : Nat) (x : St) : Pth (put3 w g i x.tri) R (.slice (some ⟨g, 0, none⟩) n cap) vn vm (ws.set i x) ns ks := by
  subst hn
  refine h.turnWay (put3_grown _ _ _ _) ?_
  rw [List.map_set, List.length_set]
  exact put3_own h.way i x.tri
theorem Pth.putNds {g cap : Nat} {n : Nat} (h : Pth w R vw (.slice (some ⟨g, 0, none⟩) n cap) vm ws ns ks) (hn : n = ns.length) (i : Nat) (x : Nd) : Pth (put3 w g i x.tri) R vw (.slice (some ⟨g, 0, none⟩) n cap) vm ws (ns.set i x) ks := by
  subst hn
  refine h.turnNds (put3_grown _ _ _ _) ?_
  rw [List.map_set, List.length_set]
  exact put3_own h.nds i x.tri

/-- The cells of step i, of node i. -/
theorem Pth.step {g cap : Nat} {n : Nat} (h : Pth w R (.slice (some ⟨g, 0, none⟩) n cap) vn vm ws ns ks) (hn : n = ws.length) {i : Nat} {x : St} (hx : ws[i]? = some x) :
    w.cell? ⟨g, i * 3, none⟩ = some (.string x.k) ∧ w.cell? ⟨g, i * 3 + 1, none⟩ = some (.int .i64 x.i) ∧ w.cell? ⟨g, i * 3 + 2, none⟩ = some (.int .i32 x.n) ∧ (∀ j, w.frozen? ⟨g, j, none⟩ = false) := by
  subst hn
  have hw := h.way
  obtain ⟨hi, hxe⟩ := List.getElem?_eq_some_iff.1 hx
  have e : (ws.map St.tri).length = ws.length := by simp
  rw [← e] at hw
  have := own_cells hw i (by simpa using hi)
  simp only [List.getElem_map, hxe] at this
  exact ⟨this.1, this.2.1, this.2.2, fun j => hw.frozenAt j⟩
theorem Pth.node {g cap : Nat} {n : Nat} (h : Pth w R vw (.slice (some ⟨g, 0, none⟩) n cap) vm ws ns ks) (hn : n = ns.length) {i : Nat} {x : Nd} (hx : ns[i]? = some x) :
    w.cell? ⟨g, i * 3, none⟩ = some (.int .i32 x.p) ∧ w.cell? ⟨g, i * 3 + 1, none⟩ = some (.string x.k) ∧ w.cell? ⟨g, i * 3 + 2, none⟩ = some (.int .i64 x.i) ∧ (∀ j, w.frozen? ⟨g, j, none⟩ = false) := by
  subst hn
  have hw := h.nds
  obtain ⟨hi, hxe⟩ := List.getElem?_eq_some_iff.1 hx
  have e : (ns.map Nd.tri).length = ns.length := by simp
  rw [← e] at hw
  have := own_cells hw i (by simpa using hi)
  simp only [List.getElem_map, hxe] at this
  exact ⟨this.1, this.2.1, this.2.2, fun j => hw.frozenAt j⟩
end

end Go.Proofs.Qxb6602959a.W
