import Derived.Test.Qxb6602959aF
namespace Go.Proofs.Qxb6602959a.W
open Go.RowKit Go.Maps
set_option linter.unusedVariables false

section
variable {w : World} {R : Nat} {vw vn vm : Value} {ws : List St} {ns ks : List Nd}

def RetInt (w : World) (n : Nat) (e : Ending) (w' : World) : Prop := e = .returned (.int .i64 (n : Int)) ∧ w' = w
theorem wayLen_any (h : Pth w R vw vn vm ws ns ks) : Calls Try.prog 10 #[.pointer (some ⟨R, 0, none⟩)] w (RetInt w ws.length) := by
  obtain ⟨a, cap, rfl, _⟩ := own_slice h.way
  have c0 := h.c0
  clear h
  go_enter Try.func10, Try.ntmps10
  go_wp2
  go_ret
  exact ⟨rfl, rfl⟩
theorem nodesLen_any (h : Pth w R vw vn vm ws ns ks) : Calls Try.prog 11 #[.pointer (some ⟨R, 0, none⟩)] w (RetInt w ns.length) := by
  obtain ⟨a, cap, rfl, _⟩ := own_slice h.nds
  have c1 := h.c1
  clear h
  go_enter Try.func11, Try.ntmps11
  go_wp2
  go_ret
  exact ⟨rfl, rfl⟩
theorem knownLen_any (h : Pth w R vw vn vm ws ns ks) : Calls Try.prog 13 #[.pointer (some ⟨R, 0, none⟩)] w (RetInt w ks.length) := by
  have c2 := h.c2
  rcases h.kn with ⟨rfl, rfl⟩ | ⟨B, D, rfl, hB, hm, hk⟩
  · clear h
    have hlen := fun w ty => Maps.len_nil (P := Try.prog) (w := w) Try.underlying50 ty
    go_enter Try.func13, Try.ntmps13
    go_wp2
    go_ret
    exact ⟨rfl, rfl⟩
  · clear h
    go_enter Try.func13, Try.ntmps13
    go_wp2_with (refine wpList_len_own _ rfl _ 50 rfl 56 21 Try.underlying50 held B ks.length D rfl hm ?_)
    rw [hk.size]
    go_wp2
    go_ret
    exact ⟨rfl, rfl⟩

/-- What ZZPathsNode leaves. -/
def RetNd (w : World) (x : Nd) (e : Ending) (w' : World) : Prop := e = .returned (.tuple #[.int .i32 x.p, .string x.k, .int .i64 x.i]) ∧ Below w.heap.size w w'
theorem node_any (h : Pth w R vw vn vm ws ns ks) (i : Nat) (x : Nd) (hx : ns[i]? = some x) : Calls Try.prog 12 #[.pointer (some ⟨R, 0, none⟩), .int .i64 (i : Int)] w (RetNd w x) := by
  obtain ⟨a, cap, rfl, hz⟩ := own_slice h.nds
  have hi : i < ns.length := (List.getElem?_eq_some_iff.1 hx).1
  have hi' : (i : Int) < (ns.length : Int) := by omega
  rcases hz with hz | ⟨g, rfl⟩
  · omega
  have c1 := h.c1
  obtain ⟨d0, d1, d2, df⟩ := h.node rfl hx
  clear h df hx
  go_enter Try.func12, Try.ntmps12
  go_wp2
  go_quiet (fail)
  go_wp2
  refine bodyPost_ret (v := .tuple #[.int .i32 x.p, .string x.k, .int .i64 x.i]) (by simp [results, Try.results12, go_sem]) rfl ⟨rfl, ?_⟩
  exact below_drewN ((Below.refl _ _).alloc (Nat.le_refl _) _) _

def RetSt (w : World) (x : St) (e : Ending) (w' : World) : Prop := e = .returned (.tuple #[.string x.k, .int .i64 x.i, .int .i32 x.n]) ∧ Below w.heap.size w w'
theorem wayStep_any (h : Pth w R vw vn vm ws ns ks) (i : Nat) (x : St) (hx : ws[i]? = some x) : Calls Try.prog 15 #[.pointer (some ⟨R, 0, none⟩), .int .i64 (i : Int)] w (RetSt w x) := by
  obtain ⟨a, cap, rfl, hz⟩ := own_slice h.way
  have hi : i < ws.length := (List.getElem?_eq_some_iff.1 hx).1
  have hi' : (i : Int) < (ws.length : Int) := by omega
  rcases hz with hz | ⟨g, rfl⟩
  · omega
  have c0 := h.c0
  obtain ⟨d0, d1, d2, df⟩ := h.step rfl hx
  clear h df hx
  go_enter Try.func15, Try.ntmps15
  go_wp2
  go_quiet (fail)
  go_wp2
  refine bodyPost_ret (v := .tuple #[.string x.k, .int .i64 x.i, .int .i32 x.n]) (by simp [results, Try.results15, go_sem]) rfl ⟨rfl, ?_⟩
  exact below_drewN ((Below.refl _ _).alloc (Nat.le_refl _) _) _

def RetKn (w : World) (i : Nat) (e : Ending) (w' : World) : Prop := e = .returned (.tuple #[.int .i32 (i : Int), .bool true]) ∧ w' = w
theorem known_any (h : Pth w R vw vn vm ws ns ks) (i : Nat) (x : Nd) (hx : ks[i]? = some x) : Calls Try.prog 14 #[.pointer (some ⟨R, 0, none⟩), .int .i32 x.p, .string x.k, .int .i64 x.i] w (RetKn w i) := by
  have c2 := h.c2
  rcases h.kn with ⟨rfl, rfl⟩ | ⟨B, D, rfl, hB, hm, hk⟩
  · simp at hx
  · have hmem : x ∈ ks := List.mem_of_getElem? hx
    have hok := hk.ok x hmem
    have hrun := look_ok hm law56 Try.underlying50 (zero21 _) (key56 hok) (hk.num i x hx)
    rw [(hk.has x hok).2 hmem] at hrun
    unfold Nd.val at hrun
    clear h hk hm hok hx
    go_enter Try.func14, Try.ntmps14
    go_wp2
    refine bodyPost_ret (v := .tuple #[.int .i32 (i : Int), .bool true]) (by simp [results, Try.results14, go_sem]) rfl ⟨rfl, rfl⟩
end

end Go.Proofs.Qxb6602959a.W
