import Derived.Test.Qxb6600897aM
namespace Go.Proofs.Qxb6600897a.W
open Go.RowKit Go.Maps
set_option linter.unusedVariables false

theorem Good.grown {w w' : World} {D D' : DataW Value} {B n : Nat} (h : Good w D) (ho : w.ownsMap Try.prog 9 held B n D') (hg : w.grownBy w' (some B)) : Good w' D := by
  refine h.kept hg.size (fun p c hp hc => hg.cell hc ?_)
  intro e
  have e' : p = B := by simpa using e
  subst e'
  obtain ⟨es, clock, hb, _⟩ := ho
  simp [World.cell?, hb] at hc

/-- What buildCountsB1 leaves. -/
def Built (w : World) (e : Ending) (w' : World) : Prop := ∃ Bc, e = .returned (.map (some Bc)) ∧ Cs w' Bc ∧ Below w.heap.size w w'

/-- The round's step. -/
theorem round_step {w wr w1 : World} {k : Nat} {z : Int} {s : ByteArray} {D : DataW Value} (hs : s.size ≤ maxLen) (hz : (Lit.int .i64 z).wf = true) (hsz : w.heap.size < wr.heap.size)
    (hown : wr.ownsMap Try.prog 9 held w.heap.size k D) (hgood : Good wr D) (hbel : Below w.heap.size w wr)
    (hown1 : w1.ownsMap Try.prog 9 held w.heap.size (k + 1) (D.put (.string s.data.toList) (.held (.pointer (some ⟨wr.heap.size, 0, none⟩)))))
    (hgrow1 : (wr.alloc (.cells #[.int .i64 z] 3)).grownBy w1 (some w.heap.size)) :
    Good w1 (D.put (.string s.data.toList) (.held (.pointer (some ⟨wr.heap.size, 0, none⟩)))) ∧ Below w.heap.size w w1 ∧ w.heap.size < w1.heap.size := by
  have ha : Below wr.heap.size wr (wr.alloc (.cells #[.int .i64 z] 3)) := (Below.refl _ _).alloc (Nat.le_refl _) _
  refine ⟨Good.grown (Good.put (hgood.below ha) (ownsMap_isMap hown) (kl := .string s.data.toList) (by trivial) (by simp) (by simp) hz) (hown.alloc _) hgrow1, ?_, ?_⟩
  · exact (hbel.alloc hbel.size _).grown hgrow1 (by simp; omega) (fun j hj => by cases hj; exact Nat.le_refl _)
  · have := hgrow1.size; simp at this; omega

/-- A store into a map keeps the cells that were there. -/
theorem cell_grown {w w' : World} {B n : Nat} {D : DataW Value} {a : Addr} {v : Value} (ho : w.ownsMap Try.prog 9 held B n D) (hg : w.grownBy w' (some B)) (hc : w.cell? a = some v) : w'.cell? a = some v := by
  refine hg.cell hc ?_
  intro e
  have e' : a.block = B := by simpa using e
  obtain ⟨es, clock, hb, _⟩ := ho
  simp [World.cell?, e', hb] at hc

theorem end_step {w wr w1 w2 : World} {n : Nat} {any0 : Int} {D : DataW Value} {kl nl : Lit} (hsz : w.heap.size < wr.heap.size) (hown : wr.ownsMap Try.prog 9 held w.heap.size n D) (hgood : Good wr D) (hbel : Below w.heap.size w wr)
    (own1 : w1.ownsMap Try.prog 9 held wr.heap.size (0 + 1) ((DataW.map []).put kl (.held (.pointer (some ⟨wr.heap.size + 1, 0, none⟩)))))
    (grow1 : ((wr.alloc (.map #[] 0)).alloc (.cells #[.int .i64 any0, .map (some w.heap.size)] 88)).grownBy w1 (some wr.heap.size))
    (own2 : w2.ownsMap Try.prog 9 held w1.heap.size (0 + 1) ((DataW.map []).put nl (.held (.map (some wr.heap.size)))))
    (grow2 : (w1.alloc (.map #[] 0)).grownBy w2 (some w1.heap.size)) (hkl : WideAt.IsKeyLit kl) (hnl : WideAt.IsKeyLit nl) :
    Cs w2 w1.heap.size ∧ Below w.heap.size w w2 := by
  have hmade : (wr.alloc (.map #[] 0)).ownsMap Try.prog 9 held wr.heap.size 0 (.map []) := World.ownsMap_made _ _ _ _
  have hmade1 := hmade.alloc (.cells #[.int .i64 any0, .map (some w.heap.size)] 88)
  have hmade2 : (w1.alloc (.map #[] 0)).ownsMap Try.prog 9 held w1.heap.size 0 (.map []) := World.ownsMap_made _ _ _ _
  have hA : Below wr.heap.size wr ((wr.alloc (.map #[] 0)).alloc (.cells #[.int .i64 any0, .map (some w.heap.size)] 88)) := ((Below.refl _ _).alloc (Nat.le_refl _) _).alloc (by simp) _
  have hsz1 : wr.heap.size + 2 ≤ w1.heap.size := by have := grow1.size; simp at this; omega
  have hB : Below w1.heap.size w1 (w1.alloc (.map #[] 0)) := (Below.refl _ _).alloc (Nat.le_refl _) _
  have hsz2 : w1.heap.size + 1 ≤ w2.heap.size := by have := grow2.size; simp at this; omega
  -- the counters' map, the struct and the keys in w1
  have o1 : w1.ownsMap Try.prog 9 held w.heap.size n D := ((hown.alloc _).alloc _).kept grow1 (by intro e; simp at e; omega)
  have g1 : Good w1 D := (hgood.below hA).grown hmade1 grow1
  have c0 : w1.cell? ⟨wr.heap.size + 1, 0, none⟩ = some (.int .i64 any0) := cell_grown hmade1 grow1 (by simp [World.cell?_alloc_at])
  have c1 : w1.cell? ⟨wr.heap.size + 1, 1, none⟩ = some (.map (some w.heap.size)) := cell_grown hmade1 grow1 (by simp [World.cell?_alloc_at])
  have lc : Lc w1 (wr.heap.size + 1) := ⟨_, _, _, _, by omega, c0, c1, o1, g1⟩
  have ks : Ks w1 wr.heap.size := by
    refine ⟨_, _, own1, fun kl' => ?_⟩
    by_cases e : kl' = kl
    · subst e
      exact .inr ⟨_, atKey_put_same isMap_empty hkl _ _, lc⟩
    · exact .inl (by rw [atKey_put_other e]; rfl)
  have bel2 : Below w1.heap.size w1 w2 := hB.grown grow2 (by simp) (fun j hj => by cases hj; exact Nat.le_refl _)
  refine ⟨⟨_, _, own2, fun kl' => ?_⟩, ?_⟩
  · by_cases e : kl' = nl
    · subst e
      exact .inr ⟨_, atKey_put_same isMap_empty hnl _ _, ks.below bel2⟩
    · exact .inl (by rw [atKey_put_other e]; rfl)
  · have b1 : Below w.heap.size w w1 := (hbel.trans (hA.mono (by omega))).grown grow1 (by simp; omega) (fun j hj => by cases hj; omega)
    exact b1.trans (bel2.mono (by omega))

set_option maxRecDepth 100000 in
set_option maxHeartbeats 1000000 in
theorem build_any (ns0 key0 : ByteArray) (any0 : Int) (x3 : Option Addr) (n c3 : Nat) (S : Nat → ByteArray) (x4 : Option Addr) (c4 : Nat) (Z : Nat → Int) (w : World) (hn : n ≤ 65536)
    (h3 : Strs w x3 n S) (h4 : Ints w x4 n Z) (hS : ∀ i, i < n → (S i).size ≤ maxLen) (hZ : ∀ i, i < n → (Lit.int .i64 (Z i)).wf = true) (hns0 : ns0.size ≤ maxLen) (hkey0 : key0.size ≤ maxLen) :
    Calls Try.prog 14 #[.string ns0, .string key0, .int .i64 any0, .slice x3 n c3, .slice x4 n c4] w (Built w) := by
  have hmm := @run_makeMap Try.prog
  go_enter Try.func14, Try.ntmps14
  go_wp2
  go_loopw [12] (fun i wr => ∃ k : Nat, k ≤ n ∧ i = .int .i64 k ∧ ∃ D, wr.ownsMap Try.prog 9 held w.heap.size k D ∧ Good wr D ∧ Below w.heap.size w wr ∧ w.heap.size < wr.heap.size)
    (fun i _ => n - (intOf i).toNat)
  case atStart => exact ⟨0, Nat.zero_le _, rfl, _, World.ownsMap_made _ _ _ _, Good.empty _, (Below.refl _ _).alloc (Nat.le_refl _) _, by simp⟩
  case round =>
    obtain ⟨k, hk, rfl, D, hown, hgood, hbel, hsz⟩ := hrel
    by_cases hlt : k < n
    · rcases h3 with rfl | ⟨b3, off3, rfl, hl3, hc3⟩
      · omega
      rcases h4 with rfl | ⟨b4, off4, rfl, hl4, hc4⟩
      · omega
      have hcx : wr.cell? ⟨b3, off3 + k, none⟩ = some (.string (S k)) := (hbel.cell (p := ⟨b3, off3 + k, none⟩) hl3).trans (hc3 k hlt)
      have hcy : wr.cell? ⟨b4, off4 + k, none⟩ = some (.int .i64 (Z k)) := (hbel.cell (p := ⟨b4, off4 + k, none⟩) hl4).trans (hc4 k hlt)
      have hSk := hS k hlt
      have hZk := hZ k hlt
      have l3 : b3 < wr.heap.size := by omega
      have l4 : b4 < wr.heap.size := by omega
      clear hc3 hc4 hS hZ
      go_wp2_with (first
        | (at_mapUpdate; refine wpList_mapUpdate_own _ rfl _ _ _ 58 rfl 9 55 law9 Try.underlying58 held w.heap.size k D rfl (hown.alloc _) (by unfold maxLen; omega) _ _ _ rfl rfl (key9 hSk) _ [] rfl ?_)
        | go_in)
      intro w1 hown1 hgrow1
      have R := round_step hSk hZk hsz hown hgood hbel hown1 hgrow1
      clear hgrow1 hown hgood hcx hcy
      go_wp2
      go_roundw
      case rel => exact ⟨k + 1, by omega, by go_num, _, hown1, R.1, R.2.1, R.2.2⟩
      case measure => simp [intOf]; omega
    · clear h3 h4 hS hZ
      go_wp2_with (first
        | (at_mapUpdate; refine wpList_mapUpdate_own _ rfl _ _ _ 50 rfl 9 57 law9 Try.underlying50 held wr.heap.size 0 (.map []) rfl ((World.ownsMap_made _ _ _ _).alloc _) (by unfold maxLen; omega) _ _ _ rfl rfl (key9 hkey0) _ [] rfl ?_)
        | go_in)
      intro w1 own1 grow1
      go_wp2_with (first
        | (at_mapUpdate; refine wpList_mapUpdate_own _ rfl _ _ _ 31 rfl 9 50 law9 Try.underlying31 held w1.heap.size 0 (.map []) rfl (World.ownsMap_made _ _ _ _) (by unfold maxLen; omega) _ _ _ rfl rfl (key9 hns0) _ [] rfl ?_)
        | go_in)
      intro w2 own2 grow2
      have R := end_step hsz hown hgood hbel own1 grow1 own2 grow2 (by trivial) (by trivial)
      clear hown hgood own1 grow1 own2 grow2
      go_wp2
      go_ret
      exact ⟨_, rfl, R.1, R.2⟩

end Go.Proofs.Qxb6600897a.W
