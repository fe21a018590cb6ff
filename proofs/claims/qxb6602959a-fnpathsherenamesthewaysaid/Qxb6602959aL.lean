import Derived.Test.Qxb6602959aG
import Derived.Test.Qxb6602959aA
import Derived.Test.Qxb6602959aH
namespace Go.Proofs.Qxb6602959a.W
open Go.RowKit Go.Maps
set_option linter.unusedVariables false

theorem zzhere_any (w : World) (R : Nat) (vw0 vn0 vm0 : Value) (S : Nat → St) (n : Nat) (T : Nat → Nd) (N m : Nat) (hn : n ≤ 65536) (hN : N ≤ 65536) (hS : ∀ i, i < n → (S i).ok) (hpr : Prem S n T N m)
    (h : Pth w R vw0 vn0 vm0 (listSt S n) (listOf T N) (listOf T N)) : Calls Try.prog 9 #[.pointer (some ⟨R, 0, none⟩)] w (Here w R S n (listOf T N) m) := by
  go_enter Try.func9, Try.ntmps9
  go_wp2_with fail
  refine (here_any w R vw0 vn0 vm0 S n T N m hn hN hS hpr h).mono ?_
  rintro e w1 ⟨ns, id, c, vw, vn, vm, hw, rfl, hp, hb⟩
  have HH := hide' (And.intro hw (And.intro hp hb))
  clear hw hp hb h hpr hS
  go_wp2
  go_ret
  exact ⟨ns, id, c, vw, vn, vm, HH.out.1, rfl, HH.out.2.1, HH.out.2.2⟩

/-- What the law leaves. -/
def Yes (w : World) (e : Ending) (w' : World) : Prop := e = .returned (.bool true) ∧ Below w.heap.size w w'

/-- All that is known behind 'here'. -/
structure Done (w : World) (R : Nat) (vw vn vm : Value) (S : Nat → St) (n : Nat) (T : Nat → Nd) (N m : Nat) (ns : List Nd) (id c : Nat → Nat) : Prop where
  went : Went S (listOf T N) m n ns id c
  pth : Pth w R vw vn vm (wayTo S id n n) ns ns
theorem Done.below {w w' : World} {R : Nat} {vw vn vm : Value} {S : Nat → St} {n : Nat} {T : Nat → Nd} {N m : Nat} {ns : List Nd} {id c : Nat → Nat} (h : Done w R vw vn vm S n T N m ns id c) (hb : Below w.heap.size w w') : Done w' R vw vn vm S n T N m ns id c :=
  ⟨h.went, h.pth.below hb⟩
section
variable {w : World} {R : Nat} {vw vn vm : Value} {S : Nat → St} {n : Nat} {T : Nat → Nd} {N m : Nat} {ns : List Nd} {id c : Nat → Nat}
theorem Done.ge (h : Done w R vw vn vm S n T N m ns id c) : N ≤ ns.length := by
  obtain ⟨e, he⟩ := h.went.ext
  rw [he, List.length_append, listOf_length]
  omega
theorem Done.le (h : Done w R vw vn vm S n T N m ns id c) : ns.length ≤ N + n := by
  have := h.went.len
  rwa [listOf_length] at this
theorem Done.old (h : Done w R vw vn vm S n T N m ns id c) {i : Nat} (hi : i < N) : ns[i]? = some (T i) := by
  obtain ⟨e, he⟩ := h.went.ext
  rw [he, List.getElem?_append_left (by rw [listOf_length]; exact hi), listOf_get T hi]
theorem Done.way (h : Done w R vw vn vm S n T N m ns id c) {j : Nat} (hj : j < n) : (wayTo S id n n)[j]? = some ⟨(S j).k, (S j).i, (id j : Int)⟩ := by
  rw [wayTo_get _ _ hj, if_pos hj]
end

/-- A counter's word. -/
def Cnt (w wr : World) (N : Nat) (i : Value) : Prop := ∃ k : Nat, k ≤ N ∧ i = .int .i64 k ∧ Below w.heap.size w wr
def Cnt3 (w wr : World) (n : Nat) (id c : Nat → Nat) (p t i : Value) : Prop := ∃ k : Nat, k ≤ n ∧ i = .int .i64 k ∧ p = .int .i32 (par id k) ∧ t = .int .i64 (c k : Int) ∧ Below w.heap.size w wr

set_option maxRecDepth 100000 in
set_option maxHeartbeats 8000000 in
theorem walk (a0 : Option Addr) (n c0 : Nat) (S : Nat → St) (a1 : Option Addr) (N c1 : Nat) (T : Nat → Nd) (w : World) (h0 : Steps w a0 n S) (h1 : Nodes w a1 N T) (k0 : a0 = none → n = 0 ∧ c0 = 0)
    (hS : ∀ i, i < n → (S i).ok ∧ (S i).n ≤ 2147483647) (hT : ∀ i, i < N → (T i).ok) : Calls Try.prog 3 #[.slice a0 n c0, .slice a1 N c1] w (Yes w) := by
  go_enter Try.func3, Try.ntmps3
  go_wp2_with fail
  refine (zzBytes_any a0 n c0 S a1 N c1 T w h0 h1).mono ?_
  rintro e w1 ⟨r, rfl, rfl⟩
  cases r
  · clear h0 h1 hS hT
    go_wp2
    go_ret
    exact ⟨rfl, Below.refl _ _⟩
  by_cases hn : (65536 : Int) < (n : Int)
  · clear h0 h1 hS hT
    go_wp2
    go_ret
    exact ⟨rfl, Below.refl _ _⟩
  by_cases hN : (65536 : Int) < (N : Int)
  · have hd : decide ((65536 : Int) < (n : Int)) = false := decide_eq_false hn
    clear h0 h1 hS hT
    go_wp2
    go_ret
    exact ⟨rfl, Below.refl _ _⟩
  have hd : decide ((65536 : Int) < (n : Int)) = false := decide_eq_false hn
  have hd' : decide ((65536 : Int) < (N : Int)) = false := decide_eq_false hN
  have hn' : n ≤ 65536 := by omega
  have hN' : N ≤ 65536 := by omega
  have HS := hide' hS
  have HT := hide' hT
  have H0 := hide' h0
  have H1 := hide' h1
  clear h0 h1 hS hT
  go_wp2_with fail
  refine (pathsBytes_any a0 n c0 S a1 N c1 T w1 hn' hN' H0.out H1.out).mono ?_
  rintro e w2 ⟨r, rfl, rfl⟩
  by_cases hr : (1048576 : Int) < r
  · go_wp2
    go_ret
    exact ⟨rfl, Below.refl _ _⟩
  go_wp2_with fail
  refine (prem_any a0 n c0 S a1 N c1 T w2 hn' hN' H0.out H1.out HT.out (fun i hi => (HS.out i hi).2)).mono ?_
  rintro e w3 ⟨r, rfl, hpr, hb3⟩
  cases r
  · clear hpr
    go_wp2
    go_ret
    exact ⟨rfl, hb3⟩
  obtain ⟨m, hpr⟩ := hpr rfl
  have HP := hide' hpr
  have HB3 := hide' hb3
  have h0 := H0.out.below hb3
  have h1 := H1.out.below hb3
  have hs3 := hb3.size
  have H0 := hide' h0
  have H1 := hide' h1
  clear h0 h1 hpr hb3
  go_wp2_with fail
  refine (made_any a0 n c0 S w3 hn' H0.out).mono ?_
  rintro e w4 ⟨m', rfl, hm, rfl⟩
  obtain rfl : m' = m := hm.unique HP.out.made
  clear hm
  go_wp2_with fail
  refine (zznew_any a0 n c0 S a1 N c1 T w4 hn' hN' k0 H0.out H1.out HT.out HP.out.dist).mono ?_
  rintro e w5 ⟨R, vw, vn, vm, rfl, hR, hp, hb5⟩
  have HQ := hide' (And.intro hp hb5)
  clear hp hb5
  go_wp2_with fail
  refine (zzhere_any w5 R vw vn vm S n T N m' hn' hN' (fun i hi => (HS.out i hi).1) HP.out HQ.out.1).mono ?_
  rintro e w6 ⟨ns, id, c, vw, vn, vm, hw, rfl, hp, hb6⟩
  have HD := hide' (Done.mk hw hp)
  have hRs : R ≤ w5.heap.size := Nat.le_of_lt HQ.out.1.lt
  have hb46 : Below w4.heap.size w4 w6 := HQ.out.2.trans (hb6.mono hR)
  have HB := hide' (HB3.out.trans (hb46.mono hs3))
  have H0 := hide' (H0.out.below hb46)
  have H1 := hide' (H1.out.below hb46)
  clear hw hp hb6 HQ hb46 HB3
  go_wp2_with fail
  refine (wayLen_any HD.out.pth).mono ?_
  rintro e w7 ⟨rfl, rfl⟩
  rw [wayTo_length]
  go_wp2_with fail
  refine (nodesLen_any HD.out.pth).mono ?_
  rintro e w8 ⟨rfl, rfl⟩
  have hge := HD.out.ge
  have hle := HD.out.le
  have hLb : ns.length ≤ 131072 := by omega
  have q1 : decide ((ns.length : Int) < (N : Int)) = false := decide_eq_false (by omega)
  have q2 : decide ((N : Int) + (n : Int) < (ns.length : Int)) = false := decide_eq_false (by omega)
  go_upto_region 17 with fail
  go_cut [9] from 28 (fun s wd => s = .int .i64 0 ∧ wd = w8)
  case first =>
    go_wp2
    go_meet
    case rel => exact ⟨rfl, rfl⟩
  case rest =>
  obtain ⟨rfl, hwc⟩ := hcut
  subst wc
  clear q1 q2 hr hd hd' hn hN
  go_wp2
  go_loopw [9, 10, 11, 12] (fun i _ _ _ wr => Cnt w8 wr N i) (fun i _ _ _ _ => N - (intOf i).toNat)
  case atStart => exact ⟨0, Nat.zero_le _, rfl, Below.refl _ _⟩
  case round =>
    obtain ⟨k, hk, rfl, hb⟩ := hrel
    by_cases hlt : k < N
    · have hlt' : (k : Int) < (N : Int) := by omega
      have hD := HD.out.below hb
      go_wp2_with fail
      refine (node_any hD.pth k (T k) (hD.old hlt)).mono ?_
      rintro e w9 ⟨rfl, hb9⟩
      have hb9' := hb.trans (hb9.mono hb.size)
      rcases H1.out with rfl | ⟨b, off, rfl, hl, hc⟩
      · omega
      obtain ⟨x0, x1, x2⟩ := hc k hlt
      have y0 := (hb9'.cell (p := ⟨b, off + k * 3, none⟩) hl).trans x0
      have y1 := (hb9'.cell (p := ⟨b, off + k * 3 + 1, none⟩) hl).trans x1
      have y2 := (hb9'.cell (p := ⟨b, off + k * 3 + 2, none⟩) hl).trans x2
      clear x0 x1 x2 hc hD hb hb9
      go_wp2
      go_roundw
      case rel => exact ⟨k + 1, by omega, by go_num, hb9'⟩
      case measure => simp [intOf]; omega
    · have hkN : k = N := by omega
      subst k
      clear hlt hk
      have HD := hide' (HD.out.below hb)
      have HB := hide' (HB.out.trans (hb.mono HB.out.size))
      have H0 := hide' (H0.out.below hb)
      clear hb H1
      go_wp2_with fail
      refine (knownLen_any HD.out.pth).mono ?_
      rintro e w9 ⟨rfl, rfl⟩
      go_upto_region 25 with fail
      go_cut [13] from 28 (fun s wd => s = .int .i64 0 ∧ wd = w9)
      case first =>
        go_wp2
        go_meet
        case rel => exact ⟨rfl, rfl⟩
      case rest =>
      obtain ⟨rfl, hwc⟩ := hcut
      subst wc
      go_wp2
      go_loopw [13, 14, 15, 16, 17, 18] (fun i _ _ _ _ _ wr => Cnt w9 wr ns.length i) (fun i _ _ _ _ _ _ => ns.length - (intOf i).toNat)
      case atStart => exact ⟨0, Nat.zero_le _, rfl, Below.refl _ _⟩
      case round =>
        obtain ⟨i, hi, rfl, hb⟩ := hrel
        by_cases hlt : i < ns.length
        · have hlt' : (i : Int) < (ns.length : Int) := by omega
          have hD := HD.out.below hb
          have hx : ns[i]? = some (ns[i]) := List.getElem?_eq_getElem hlt
          generalize ns[i] = x at hx
          go_wp2_with fail
          refine (node_any hD.pth i x hx).mono ?_
          rintro e w10 ⟨rfl, hb10⟩
          have hb10' := hb.trans (hb10.mono hb.size)
          have hD := hD.below hb10
          clear hb hb10
          go_wp2_with fail
          refine (known_any hD.pth i x hx).mono ?_
          rintro e w11 ⟨rfl, rfl⟩
          clear hD hx
          go_wp2
          go_roundw
          case rel => exact ⟨i + 1, by omega, by go_num, hb10'⟩
          case measure => simp [intOf]; omega
        · obtain rfl : i = ns.length := by omega
          clear hlt hi
          have HD := hide' (HD.out.below hb)
          have HB := hide' (HB.out.trans (hb.mono HB.out.size))
          have H0 := hide' (H0.out.below hb)
          clear hb
          go_upto_region 34 with fail
          go_cut [21] from 28 (fun s wd => s = .int .i64 0 ∧ wd = wr)
          case first =>
            go_wp2
            go_meet
            case rel => exact ⟨rfl, rfl⟩
          case rest =>
          obtain ⟨rfl, hwc⟩ := hcut
          subst wc
          have HR := hide' (show Below wr.heap.size wr wr from Below.refl _ _)
          generalize hw0 : wr = w0 at *
          clear hw0 wr
          go_wp2
          go_loopw [19, 20, 21, 22, 23, 24, 25, 26, 27] (fun p t i _ _ _ _ _ _ wr => Cnt3 w0 wr n id c p t i) (fun _ _ i _ _ _ _ _ _ _ => n - (intOf i).toNat)
          case atStart => exact ⟨0, Nat.zero_le _, rfl, rfl, by rw [HD.out.went.c0, listOf_length], Below.refl _ _⟩
          case round =>
            obtain ⟨j, hj, rfl, rfl, rfl, hb⟩ := hrel
            by_cases hlt : j < n
            · have hlt' : (j : Int) < (n : Int) := by omega
              have hD := HD.out.below hb
              go_wp2_with fail
              refine (wayStep_any hD.pth j _ (hD.way hlt)).mono ?_
              rintro e w11 ⟨rfl, hb11⟩
              have hb11' := hb.trans (hb11.mono hb.size)
              have HD2 := hide' (hD.below hb11)
              rcases H0.out with rfl | ⟨b, off, rfl, hl, hc⟩
              · omega
              obtain ⟨x0, x1, x2⟩ := hc j hlt
              have y0 := (hb11'.cell (p := ⟨b, off + j * 3, none⟩) hl).trans x0
              have y1 := (hb11'.cell (p := ⟨b, off + j * 3 + 1, none⟩) hl).trans x1
              have y2 := (hb11'.cell (p := ⟨b, off + j * 3 + 2, none⟩) hl).trans x2
              have hidl : (id j : Int) < (ns.length : Int) := by have := HD2.out.went.lt hlt; omega
              have HX := hide' (And.intro x0 x1)
              clear x0 x1 x2 hc hb hb11 hD
              go_upto_region 42 with fail
              go_cut [195] from 154 to 194 (fun s wd => s = .bool false ∧ wd = w11)
              case first =>
                by_cases hjm : j < m'
                · have hjm' : (j : Int) < (m' : Int) := by omega
                  have hmd := HD2.out.went.made j hjm
                  rw [← hmd] at y2
                  clear hmd
                  go_wp2
                  go_meet
                  case rel => exact ⟨rfl, rfl⟩
                · have hjm' : ¬ (j : Int) < (m' : Int) := by omega
                  go_wp2
                  go_meet
                  case rel => exact ⟨rfl, rfl⟩
              case rest =>
              obtain ⟨rfl, hwc⟩ := hcut
              subst wc
              go_wp2_with fail
              refine (node_any HD2.out.pth (id j) ⟨par id j, (S j).k, (S j).i⟩ (HD2.out.went.place j hlt)).mono ?_
              rintro e w12 ⟨rfl, hb12⟩
              have hb12' := hb11'.trans (hb12.mono hb11'.size)
              have y0 := (hb12'.cell (p := ⟨b, off + j * 3, none⟩) hl).trans HX.out.1
              have y1 := (hb12'.cell (p := ⟨b, off + j * 3 + 1, none⟩) hl).trans HX.out.2
              clear y2 hb12 hb11'
              rcases HD2.out.went.cs j hlt with ⟨hlo, hcs⟩ | ⟨he, hhi, hcs⟩
              · rw [listOf_length] at hlo
                have hlo' : (id j : Int) < (N : Int) := by omega
                have HC := hide' hcs
                clear hcs hlo
                go_wp2
                go_roundw
                case rel => exact ⟨j + 1, by omega, by go_num, by rw [par_succ], by rw [HC.out], hb12'⟩
                case measure => simp [intOf]; omega
              · rw [listOf_length] at hhi
                have hhi' : (N : Int) ≤ (id j : Int) := by omega
                have hcl : c j ≤ 131072 := by omega
                have HC := hide' hcs
                rw [← he] at hcl
                have HE := hide' he
                rw [← he]
                clear hcs hhi he
                go_wp2
                go_roundw
                case rel => exact ⟨j + 1, by omega, by go_num, by rw [par_succ], by rw [HC.out, ← HE.out]; go_num, hb12'⟩
                case measure => simp [intOf]; omega
            · have hjn : j = n := by omega
              subst j
              have hcn : c n = ns.length := HD.out.went.cj
              rw [hcn]
              go_wp2
              go_ret
              exact ⟨rfl, HB.out.trans (hb.mono HB.out.size)⟩

end Go.Proofs.Qxb6602959a.W
