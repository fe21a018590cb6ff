import Derived.Test.Qxb6602959aM
import Derived.Test.Qxb6602959aP
namespace Go.Proofs.Qxb6602959a.W
open Go.RowKit Go.Maps
set_option linter.unusedVariables false

theorem makeMap_hint {t k e : TypeId} (ht : Try.prog.underlying t = some (.map k e)) (q : IntKind) (n : Int) (w : World) : (Instr.makeMap t (some (.int q n))).run Try.prog w = .ok (.map (some w.heap.size)) (w.alloc (.map #[] 0)) := by
  unfold Instr.makeMap
  simp [run_underlying ht, asInt, asIntOf, Result.andThen]

/-- Which nodes the map knows: those of the first k. -/
structure Seen (D : DataW Value) (T : Nat → Nd) (k : Nat) : Prop where
  has : ∀ x : Nd, x.ok → (Maps.has D (kl x) = true ↔ ∃ j, j < k ∧ T j = x)
  dist : ∀ i j, i < j → j < k → T i ≠ T j

theorem Seen.start (T : Nat → Nd) : Seen (.map []) T 0 := ⟨fun x _ => ⟨(fun h => by cases h), (fun ⟨j, h, _⟩ => absurd h (by omega))⟩, fun i j _ h => absurd h (by omega)⟩

theorem Seen.step {D : DataW Value} {T : Nat → Nd} {k : Nat} (h : Seen D T k) (hD : IsMap D) (hT : ∀ i, i ≤ k → (T i).ok) (hno : Maps.has D (kl (T k)) = false) (d : DataW Value) : Seen (D.put (kl (T k)) d) T (k + 1) := by
  refine ⟨fun x hx => ?_, fun i j hij hj => ?_⟩
  · by_cases e : x = T k
    · subst e
      rw [has_put_same hD (kl_key _)]
      exact ⟨fun _ => ⟨k, by omega, rfl⟩, fun _ => rfl⟩
    · have hne : kl x ≠ kl (T k) := fun h' => e (kl_inj hx (hT k (Nat.le_refl _)) h')
      rw [has_put_other hne, h.has x hx]
      constructor
      · rintro ⟨j, hj, hjx⟩
        exact ⟨j, by omega, hjx⟩
      · rintro ⟨j, hj, hjx⟩
        refine ⟨j, ?_, hjx⟩
        by_cases ej : j = k
        · subst ej; exact absurd hjx.symm e
        · omega
  · by_cases ej : j = k
    · subst ej
      intro e
      have := (h.has (T j) (hT j (Nat.le_refl _))).2 ⟨i, hij, e⟩
      rw [hno] at this
      cases this
    · exact h.dist i j hij (by omega)

/-- What zzPathsPremise leaves. -/
def Prems (w : World) (S : Nat → St) (n : Nat) (T : Nat → Nd) (N : Nat) (e : Ending) (w' : World) : Prop :=
  ∃ r : Bool, e = .returned (.bool r) ∧ (r = true → ∃ m, Prem S n T N m) ∧ Below w.heap.size w w'

set_option maxRecDepth 100000 in
set_option maxHeartbeats 2000000 in
theorem prem_any (a0 : Option Addr) (n0 c0 : Nat) (S : Nat → St) (a1 : Option Addr) (n1 c1 : Nat) (T : Nat → Nd) (w : World) (hn0 : n0 ≤ 65536) (hn1 : n1 ≤ 65536) (h0 : Steps w a0 n0 S) (h1 : Nodes w a1 n1 T)
    (hT : ∀ i, i < n1 → (T i).ok) (hS : ∀ i, i < n0 → (S i).n ≤ 2147483647) : Calls Try.prog 6 #[.slice a0 n0 c0, .slice a1 n1 c1] w (Prems w S n0 T n1) := by
  have hmm := fun n w => makeMap_hint Try.underlying41 .i64 n w
  go_enter Try.func6, Try.ntmps6
  go_wp2
  clear hmm
  go_loopw [6] (fun i wr => ∃ k : Nat, k ≤ n1 ∧ i = .int .i64 k ∧ ∃ D, wr.ownsMap Try.prog 34 held w.heap.size k D ∧ Seen D T k ∧ Below w.heap.size w wr) (fun i _ => n1 - (intOf i).toNat)
  case atStart => exact ⟨0, Nat.zero_le _, rfl, _, World.ownsMap_made _ _ _ _, Seen.start T, (Below.refl _ _).alloc (Nat.le_refl _) _⟩
  case round =>
    obtain ⟨k, hk, rfl, D, hown, hseen, hbel⟩ := hrel
    by_cases hlt : k < n1
    · rcases h1 with rfl | ⟨b, off, rfl, hl, hc⟩
      · omega
      obtain ⟨x0, x1, x2⟩ := hc k hlt
      have y0 := (hbel.cell (p := ⟨b, off + k * 3, none⟩) hl).trans x0
      have y1 := (hbel.cell (p := ⟨b, off + k * 3 + 1, none⟩) hl).trans x1
      have y2 := (hbel.cell (p := ⟨b, off + k * 3 + 2, none⟩) hl).trans x2
      have hok := hT k hlt
      have HT := hide' (show ∀ i, i ≤ k → (T i).ok from fun i hi => hT i (by omega))
      obtain ⟨v, ps, hrun, _⟩ := hown.look_ok law34 Try.underlying41 (zero3 _) (zd := .held (.int .i64 0)) (zp := []) rfl (key34 hok)
      have hkey := key34 hok
      unfold Nd.val at hrun hkey
      clear x0 x1 x2 hc hT hok
      cases hh : Maps.has D (kl (T k))
      · rw [hh] at hrun
        have HH := hide' hh
        clear hh
        go_wp2_with (at_mapUpdate; refine wpList_mapUpdate_own _ rfl _ _ _ 41 rfl 34 3 law34 Try.underlying41 held w.heap.size k D rfl hown (by unfold maxLen; omega) _ _ _ rfl rfl hkey _ [] rfl ?_)
        intro w1 hown1 hgrow1
        have R := hseen.step (ownsMap_isMap hown) HT.out HH.out (.held (.int .i64 (k : Int)))
        have R2 := hbel.grown hgrow1 hbel.size (fun j hj => by cases hj; exact Nat.le_refl _)
        clear hgrow1 hown hseen hbel hrun hkey
        go_wp2
        go_roundw
        case rel => exact ⟨k + 1, by omega, by go_num, _, hown1, R, R2⟩
        case measure => simp [intOf]; omega
      · rw [hh] at hrun
        clear hh
        go_wp2
        go_ret
        exact ⟨false, rfl, (fun h => by cases h), hbel⟩
    · obtain rfl : n1 = k := by omega
      have h0 := h0.below hbel
      have h1 := h1.below hbel
      have HD := hide' hseen.dist
      clear hseen hown hT
      go_wp2_with fail
      refine (made_any a0 n0 c0 S _ hn0 h0).mono ?_
      rintro e w1 ⟨m, rfl, hm, rfl⟩
      have hm1 : m ≤ n0 := hm.1
      have HM := hide' hm
      clear hm
      go_wp2_with fail
      go_loop [10] (fun i => ∃ j : Nat, m ≤ j ∧ j ≤ n0 ∧ i = .int .i64 j ∧ ∀ i, m ≤ i → i < j → (S i).n < 0) (fun i => n0 - (intOf i).toNat)
      case atStart => exact ⟨m, Nat.le_refl _, hm1, rfl, fun i h1 h2 => absurd h2 (by omega)⟩
      case round =>
        obtain ⟨j, hj1, hj2, rfl, hneg⟩ := hrel
        have HN := hide' hneg
        clear hneg
        by_cases hlt2 : j < n0
        · rcases h0 with rfl | ⟨b, off, rfl, hl, hc⟩
          · omega
          obtain ⟨x0, x1, x2⟩ := hc j hlt2
          clear x0 x1 hc h1
          by_cases hn : 0 ≤ (S j).n
          · go_wp2
            go_ret
            exact ⟨false, rfl, (fun h => by cases h), hbel⟩
          · go_wp2
            go_round
            case rel => exact ⟨j + 1, by omega, by omega, by go_num, fun i h1 h2 => if h : i < j then HN.out i h1 h else by rw [show i = j by omega]; omega⟩
            case measure => simp [intOf]; omega
        · have hjn : j = n0 := by omega
          subst hjn
          go_wp2_with fail
          go_loopw [11, 12] (fun t i wx => ∃ j : Nat, j ≤ m ∧ i = .int .i64 j ∧ t = .int .i32 (if j = 0 then -1 else (S (j - 1)).n) ∧ (∀ i, i < j → (S i).n < n1 ∧ T (S i).n.toNat = ⟨if i = 0 then -1 else (S (i - 1)).n, (S i).k, (S i).i⟩) ∧ Below w1.heap.size w1 wx) (fun _ i _ => m - (intOf i).toNat)
          case atStart => exact ⟨0, Nat.zero_le _, rfl, rfl, fun i h => absurd h (by omega), Below.refl _ _⟩
          case round =>
            obtain ⟨i, hi, rfl, rfl, hpl, hbx⟩ := hrel
            have HP := hide' hpl
            clear hpl
            generalize hpar : (if i = 0 then -1 else (S (i - 1)).n) = pr at *
            have HPar := hide' hpar
            clear hpar
            by_cases hlt3 : i < m
            · have hnn := HM.out.2.1 i hlt3
              rcases h0 with h | ⟨b, off, rfl, hl, hc⟩
              · omega
              obtain ⟨x0, x1, x2⟩ := hc i (by omega)
              have y0 := (hbx.cell (p := ⟨b, off + i * 3, none⟩) hl).trans x0
              have y1 := (hbx.cell (p := ⟨b, off + i * 3 + 1, none⟩) hl).trans x1
              have y2 := (hbx.cell (p := ⟨b, off + i * 3 + 2, none⟩) hl).trans x2
              have hdb := hS i (by omega)
              obtain ⟨d, hd⟩ := Int.eq_ofNat_of_zero_le hnn
              rw [hd] at y2 hdb
              have HDd := hide' hd
              clear hd hnn x0 x1 x2 hc
              by_cases hge : n1 ≤ d
              · have hge' : (n1 : Int) ≤ (d : Int) := by omega
                clear h1
                go_wp2
                go_ret
                exact ⟨false, rfl, (fun h => by cases h), hbel.trans (hbx.mono hbel.size)⟩
              · have hge' : (d : Int) < (n1 : Int) := by omega
                rcases h1 with h | ⟨b', off', rfl, hl', hc'⟩
                · omega
                obtain ⟨x0, x1, x2⟩ := hc' d (by omega)
                have z0 := (hbx.cell (p := ⟨b', off' + d * 3, none⟩) hl').trans x0
                have z1 := (hbx.cell (p := ⟨b', off' + d * 3 + 1, none⟩) hl').trans x1
                have z2 := (hbx.cell (p := ⟨b', off' + d * 3 + 2, none⟩) hl').trans x2
                clear x0 x1 x2 hc'
                have hguard := fun (x y : Operand) (xs ys : Array Value) (w : World) => run_eqGuard_agg (P := Try.prog) w .neq 34 x y xs ys guard34
                by_cases hxy : T d = ⟨pr, (S i).k, (S i).i⟩
                · have hneq := fun w => neq34_same (T d) w
                  have hneq' : ∀ w, (binOp .neq 34 (.agg #[.int .i32 (T d).p, .string (T d).k, .int .i64 (T d).i]) (.agg #[.int .i32 pr, .string (S i).k, .int .i64 (S i).i])).run Try.prog w = .ok (.bool false) w := by
                    intro w
                    have := hneq w
                    conv at this => lhs; arg 2; arg 4; rw [hxy]
                    exact this
                  have HXY := hide' hxy
                  clear hxy hneq
                  go_wp2
                  go_quiet (fail)
                  go_wp2
                  go_roundw
                  case rel =>
                    refine ⟨i + 1, by omega, by go_num, ?_, ?_, below_drewN hbx _⟩
                    · rw [if_neg (by omega), Nat.add_sub_cancel, HDd.out]
                    · intro i' hi'
                      by_cases e : i' < i
                      · exact HP.out i' e
                      · obtain rfl : i' = i := by omega
                        exact ⟨by rw [HDd.out]; exact hge', by rw [HDd.out, Int.toNat_natCast, HXY.out, HPar.out]⟩
                  case measure => simp [intOf]; omega
                · have hneq' : ∀ w, (binOp .neq 34 (.agg #[.int .i32 (T d).p, .string (T d).k, .int .i64 (T d).i]) (.agg #[.int .i32 pr, .string (S i).k, .int .i64 (S i).i])).run Try.prog w = .ok (.bool true) w := fun w => neq34_other hxy w
                  clear hxy
                  go_wp2
                  go_quiet (fail)
                  go_wp2
                  go_ret
                  exact ⟨false, rfl, (fun h => by cases h), hbel.trans ((below_drewN hbx _).mono hbel.size)⟩
            · have him : i = m := by omega
              subst him
              clear h0 h1
              go_wp2
              go_ret
              exact ⟨true, rfl, (fun _ => ⟨i, HM.out, HN.out, HD.out, HP.out⟩), hbel.trans (hbx.mono hbel.size)⟩

end Go.Proofs.Qxb6602959a.W
