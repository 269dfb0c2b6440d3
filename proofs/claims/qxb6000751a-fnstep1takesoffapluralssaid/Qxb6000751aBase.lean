/-
  SEAT b6000751a: WHAT THE WALKS SHARE: a slice of bytes seen through its cells; the stemmer's object; the plain words: consonant, turns.
-/
import Derived.Test.Qxb6000751aProg
import Derived.WalkKit
import Derived.Deep.LoopGhost
import Derived.Deep.OwnRows
import Derived.KernelRfl
import Derived.WalkSpells
import Derived.Lib.SliceRun
import Derived.Laws.CopyOwn
import Derived.Laws.Pointers
import Derived.Deep.Cut
import Derived.Deep.DeepCutAuto
import Derived.StillTactics
import Derived.Deep.QuietTactic
import Derived.BigQuiet
namespace Go.Proofs.Qxb6000751a
open Go.RowKit Go.Deep
set_option linter.unusedVariables false

theorem Try.info5 : (Try.prog.info? 5).map (fun i => (i.zero, i.size, i.bytes)) = some (some (.int .u8 0), 1, 1) := by kernel_rfl
theorem Try.info4 : (Try.prog.info? 4).map (fun i => (i.zero, i.size, i.bytes)) = some (some (.bool false), 1, 1) := by kernel_rfl
theorem Try.size5 : (Try.prog.info? 5).map (·.size) = some 1 := by kernel_rfl

/-- A slice of one-cell elements, seen through its cells: element i reads 'f i'. -/
def RowAt (w : World) (a : Option Addr) (n : Nat) (f : Nat → Value) : Prop :=
  0 < n → ∃ b off, a = some ⟨b, off, none⟩ ∧ ∀ i, i < n → w.cell? ⟨b, off + i, none⟩ = some (f i)
def u8s (z : Nat → Int) : Nat → Value := fun i => .int .u8 (z i)

theorem RowAt.below {w w' : World} {a : Option Addr} {n : Nat} {f : Nat → Value} (h : RowAt w a n f) (hb : Below w.heap.size w w') : RowAt w' a n f := fun hn => by
  obtain ⟨b, off, e, hc⟩ := h hn
  exact ⟨b, off, e, fun i hi => by rw [hb.cell (World.block_lt_of_cell? _ _ (hc i hi))]; exact hc i hi⟩
theorem RowAt.of_rowIs {w : World} {b : Nat} {t : TypeId} {n c : Nat} {f : Nat → Value} (h : w.rowIs b t c f) (hn : n ≤ c) : RowAt w (some ⟨b, 0, none⟩) n f := fun _ =>
  ⟨b, 0, rfl, fun i hi => by rw [Nat.zero_add]; exact h.cell (by omega)⟩
theorem RowAt.congr {w : World} {a : Option Addr} {n : Nat} {f g : Nat → Value} (h : RowAt w a n f) (e : ∀ i, i < n → f i = g i) : RowAt w a n g := fun hn => by
  obtain ⟨b, off, ea, hc⟩ := h hn
  exact ⟨b, off, ea, fun i hi => by rw [hc i hi, e i hi]⟩
theorem RowAt.take {w : World} {a : Option Addr} {n m : Nat} {f : Nat → Value} (h : RowAt w a n f) (e : m ≤ n) : RowAt w a m f := fun hn => by
  obtain ⟨b, off, ea, hc⟩ := h (by omega)
  exact ⟨b, off, ea, fun i hi => hc i (by omega)⟩

/-- The stemmer's object: one field, the word. -/
def SOb (w : World) (o : Nat) (a : Option Addr) (n c : Nat) : Prop := w.heap[o]? = some (.cells #[.slice a n c] 41 (0, 0))
theorem SOb.c0 {w : World} {o : Nat} {a : Option Addr} {n c : Nat} (h : SOb w o a n c) : w.cell? ⟨o, 0, none⟩ = some (.slice a n c) := by
  rw [cell_of_row w o 0 _ _ _ h]; rfl
theorem SOb.lt {w : World} {o : Nat} {a : Option Addr} {n c : Nat} (h : SOb w o a n c) : o < w.heap.size := (Array.getElem?_eq_some_iff.1 h).1
theorem SOb.of_block {w w' : World} {o : Nat} {a : Option Addr} {n c : Nat} (h : SOb w o a n c) (e : w'.heap[o]? = w.heap[o]?) : SOb w' o a n c := e.trans h

/-- One after the other. -/
theorem seqB {a b c : World} (h : Below a.heap.size a b) (k : Below b.heap.size b c) : Below a.heap.size a c :=
  h.trans ⟨k.os, k.tape, k.output, k.size, fun i hi => k.block i (Nat.lt_of_lt_of_le hi h.size)⟩
theorem below_drewN {B : Nat} {a w : World} (h : Below B a w) (q : Nat) : Below B a (w.drewN q) := ⟨h.os, h.tape, h.output, h.size, h.block⟩

/-- What a fill in the making holds: the first k done, the rest 'd'. -/
def fill (z : Nat → Value) (d : Value) (k : Nat) : Nat → Value := fun i => if i < k then z i else d
theorem fill_zero (z : Nat → Value) (d : Value) (i : Nat) : d = fill z d 0 i := by simp [fill]
theorem fill_succ (z : Nat → Value) (d : Value) (k i : Nat) : (if i = k then z k else fill z d k i) = fill z d (k + 1) i := by
  simp only [fill]
  by_cases e : i = k
  · subst e; simp
  · by_cases h : i < k
    · simp [e, h, show i < k + 1 by omega]
    · simp [e, h, show ¬ i < k + 1 by omega]
theorem fill_full (z : Nat → Value) (d : Value) {k i : Nat} (h : i < k) : fill z d k i = z i := by simp [fill, h]

def Guards (w : World) (p : Prop) (e : Ending) (w' : World) : Prop := ∃ b, e = .returned (.bool b) ∧ w' = w ∧ (b = true → p)
theorem Guards.no (w : World) (p : Prop) : Guards w p (.returned (.bool false)) w := ⟨false, rfl, rfl, fun h => by cases h⟩
theorem Guards.yes (w : World) {p : Prop} (h : p) : Guards w p (.returned (.bool true)) w := ⟨true, rfl, rfl, fun _ => h⟩
theorem int_eq {k : IntKind} {a b : Int} (h : a = b) : Value.int k a = Value.int k b := by rw [h]
/-- What a law leaves: true, and all that lay is as it lay. -/
def Law (w : World) (e : Ending) (w' : World) : Prop := e = .returned (.bool true) ∧ Below w.heap.size w w'

/-! ### The plain words -/
def isV (x : Int) : Prop := x = 97 ∨ x = 101 ∨ x = 105 ∨ x = 111 ∨ x = 117
theorem isV_dec (x : Int) : isV x ∨ ¬ isV x := by unfold isV; omega
/-- A letter other than a, e, i, o, u, and other than a y behind a consonant. -/
def cons (z : Nat → Int) : Nat → Bool
  | 0 => !(decide (z 0 = 97 ∨ z 0 = 101 ∨ z 0 = 105 ∨ z 0 = 111 ∨ z 0 = 117))
  | i + 1 => if z (i + 1) = 97 ∨ z (i + 1) = 101 ∨ z (i + 1) = 105 ∨ z (i + 1) = 111 ∨ z (i + 1) = 117 then false else if z (i + 1) = 121 then !(cons z i) else true
/-- How often a vowel is followed by a consonant among the first k letters. -/
def turns (z : Nat → Int) : Nat → Nat
  | 0 => 0
  | 1 => 0
  | i + 2 => turns z (i + 1) + (if cons z i = false ∧ cons z (i + 1) = true then 1 else 0)

theorem cons_v {z : Nat → Int} {i : Nat} (h : isV (z i)) : cons z i = false := by
  unfold isV at h
  cases i with
  | zero => simp [cons, h]
  | succ j => simp [cons, h]
theorem cons_y0 {z : Nat → Int} (h : z 0 = 121) : cons z 0 = true := by simp [cons, h]
theorem cons_y {z : Nat → Int} {i : Nat} (h : z (i + 1) = 121) : cons z (i + 1) = !(cons z i) := by simp [cons, h]
theorem cons_c {z : Nat → Int} {i : Nat} (h : ¬ isV (z i)) (hy : z i ≠ 121) : cons z i = true := by
  unfold isV at h
  cases i with
  | zero => simp [cons, h]
  | succ j => simp [cons, h, hy]

end Go.Proofs.Qxb6000751a
