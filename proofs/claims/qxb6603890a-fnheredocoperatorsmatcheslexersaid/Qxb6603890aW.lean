import Derived.Test.Qxb6603890aProg
import Derived.Test.Qxb6603890aP
import Derived.KernelRfl
import Derived.WalkKit
import Derived.WalkSpells
import Derived.WalkLawsBesides
import Derived.Below
import Derived.Lib.SliceRun
import Derived.Deep.QuietTactic
import Derived.BigQuiet
import Derived.RegionTactic
import Derived.Deep.OwnRows
namespace Go.Proofs.Qxb6603890a.W
open Go.RowKit
set_option linter.unusedVariables false

def SomeBool (w : World) (e : Ending) (w' : World) : Prop := ∃ r : Bool, e = .returned (.bool r) ∧ w' = w

theorem zzBytes_any (s : ByteArray) (f : Int) (w : World) (hs : s.size ≤ maxLen) : Calls Try.prog 4 #[.string s, .int .i64 f] w (SomeBool w) := by
  unfold maxLen at hs
  go_enter Try.func4, Try.ntmps4
  go_wp2
  all_goals (go_ret; exact ⟨_, rfl, rfl⟩)

/-- The byte at i (0 beyond the end). -/
def byteAt (s : ByteArray) (i : Nat) : UInt8 := if h : i < s.size then s[i] else 0
def lt (s : ByteArray) (i : Nat) : Bool := byteAt s i == 60
/-- How many backslashes stand right before k. -/
def bs (s : ByteArray) : Nat → Nat
  | 0 => 0
  | k + 1 => if byteAt s k == 92 then bs s k + 1 else 0
def esc (s : ByteArray) (k : Nat) : Bool := bs s k % 2 == 1
/-- The lexer's report from k on. -/
def lex (s : ByteArray) (f k : Nat) : List Nat := P.lex (lt s) (esc s) f s.size k

theorem byteAt_in {s : ByteArray} {i : Nat} (h : i < s.size) : byteAt s i = s[i] := by unfold byteAt; rw [dif_pos h]
theorem byteAt_out {s : ByteArray} {i : Nat} (h : ¬ i < s.size) : byteAt s i = 0 := by unfold byteAt; rw [dif_neg h]
theorem lt_size {s : ByteArray} (i : Nat) (h : lt s i = true) : i < s.size := by
  by_cases hi : i < s.size
  · exact hi
  · unfold lt at h; rw [byteAt_out hi] at h; cases h
theorem lt_out {s : ByteArray} {i : Nat} (h : ¬ i < s.size) : lt s i = false := by
  unfold lt; rw [byteAt_out h]; rfl
theorem u8_eq (c d : UInt8) : (c == d) = ((c.toNat : Int) == (d.toNat : Int)) := by
  rw [Bool.eq_iff_iff]
  simp only [beq_iff_eq]
  constructor
  · intro h; rw [h]
  · intro h; exact UInt8.toNat_inj.1 (by omega)
theorem lt_in {s : ByteArray} {i : Nat} (h : i < s.size) : ((s[i].toNat : Int) == 60) = lt s i := by
  unfold lt; rw [byteAt_in h, u8_eq]; rfl
theorem nlt_in {s : ByteArray} {i : Nat} (h : i < s.size) : ((s[i].toNat : Int) != 60) = !lt s i := by
  unfold bne; rw [lt_in h]
theorem nlt_f {s : ByteArray} {i : Nat} (h : i < s.size) (ht : lt s i = false) : ((s[i].toNat : Int) != 60) = true := by rw [nlt_in h, ht]; rfl
theorem nlt_t {s : ByteArray} {i : Nat} (h : i < s.size) (ht : lt s i = true) : ((s[i].toNat : Int) != 60) = false := by rw [nlt_in h, ht]; rfl
theorem back_in {s : ByteArray} {i : Nat} (h : i < s.size) : ((s[i].toNat : Int) == 92) = (byteAt s i == 92) := by
  rw [byteAt_in h, u8_eq]; rfl
theorem bs_hit {s : ByteArray} {q : Nat} (h : (byteAt s q == 92) = true) : bs s (q + 1) = bs s q + 1 := by
  show (if byteAt s q == 92 then bs s q + 1 else 0) = _
  rw [if_pos h]
theorem bs_miss {s : ByteArray} {q : Nat} (h : (byteAt s q == 92) = false) : bs s (q + 1) = 0 := by
  show (if byteAt s q == 92 then bs s q + 1 else 0) = _
  rw [h]; rfl
theorem hide' {p : Prop} (h : p) : Hid p := h

theorem Try.info3 : (Try.prog.info? 3).map (fun i => (i.zero, i.size, i.bytes)) = some (some (.int .i64 0), 1, 8) := by kernel_rfl

/-- What the two readers hold: the slice v owns the numbers acc. -/
structure Holds (w wr : World) (v : Value) (acc : List Nat) : Prop where
  own : wr.ownsRow w.heap.size 3 1 v acc.length (acc.map (fun p : Nat => Value.int .i64 (p : Int)))
  bel : Below w.heap.size w wr
  nil : acc = [] → v = .slice none 0 0

theorem Holds.start (w : World) : Holds w w (.slice none 0 0) [] := ⟨World.ownsRow_nil _ _ _ _, Below.refl _ _, fun _ => rfl⟩

theorem one_cell (x : Int) : ∀ u ∈ [Value.int .i64 x], u.oneCell' = true := by
  intro u hu
  simp at hu
  subst hu
  rfl

theorem Holds.append {w wr w1 : World} {v v' : Value} {acc : List Nat} {o : Obj} {p : Nat} (h : Holds w wr v acc) (hown : w1.ownsRow w.heap.size 3 1 v' (acc.length + 1) (acc.map (fun p : Nat => Value.int .i64 (p : Int)) ++ [.int .i64 (p : Int)]))
    (hg : (wr.alloc o).grownBy w1 v.ownBlock) : Holds w w1 v' (acc ++ [p]) := by
  refine ⟨?_, ?_, fun e => by simp at e⟩
  · rw [List.length_append, List.map_append]; exact hown
  · refine (h.bel.alloc h.bel.size o).grown hg (by rw [Deep.nblk_alloc]; have := h.bel.size; omega) (fun k hk => (h.own.lt k hk).1)

/-- The end of a reader. -/
def Reads (w : World) (l : List Nat) (e : Ending) (w' : World) : Prop := ∃ v, e = .returned v ∧ Holds w w' v l

end Go.Proofs.Qxb6603890a.W
