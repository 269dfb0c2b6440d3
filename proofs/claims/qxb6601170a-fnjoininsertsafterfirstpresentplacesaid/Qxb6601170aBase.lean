/-
  SEAT b6601170a: WHAT THE WALKS SHARE: how a slice of ints, a slice of bools and a slice of slices of ints are seen through their cells; how they stand when nothing below a block has turned.
-/
import Derived.Test.Qxb6601170aProg
import Derived.WalkKit
import Derived.Deep.LoopGhost
import Derived.Deep.OwnRows
import Derived.KernelRfl
import Derived.WalkSpells
import Derived.Lib.SliceRun
namespace Go.Proofs.Qxb6601170a
open Go.RowKit

theorem Try.info3 : (Try.prog.info? 3).map (fun i => (i.zero, i.size, i.bytes)) = some (some (.int .i64 0), 1, 8) := by kernel_rfl
theorem Try.info4 : (Try.prog.info? 4).map (fun i => (i.zero, i.size, i.bytes)) = some (some (.bool false), 1, 1) := by kernel_rfl
theorem Try.info24 : (Try.prog.info? 24).map (fun i => (i.zero, i.size, i.bytes)) = some (some (.slice none 0 0), 1, 24) := by kernel_rfl

/-- A slice of one-cell elements, seen through its cells: element i reads 'f i'. -/
def RowAt (w : World) (a : Option Addr) (n : Nat) (f : Nat → Value) : Prop :=
  0 < n → ∃ b off, a = some ⟨b, off, none⟩ ∧ ∀ i, i < n → w.cell? ⟨b, off + i, none⟩ = some (f i)

def ints (z : Nat → Int) : Nat → Value := fun i => .int .i64 (z i)
def bools (z : Nat → Bool) : Nat → Value := fun i => .bool (z i)
def slices (A : Nat → Option Addr) (L C : Nat → Nat) : Nat → Value := fun i => .slice (A i) (L i) (C i)

/-- A slice of slices of ints: row r lies at 'A r', is 'L r' long, reads 'Z r'. -/
structure Rows2 (w : World) (a : Option Addr) (n : Nat) (A : Nat → Option Addr) (L C : Nat → Nat) (Z : Nat → Nat → Int) : Prop where
  top : RowAt w a n (slices A L C)
  rows : ∀ r, r < n → RowAt w (A r) (L r) (ints (Z r))

theorem RowAt.below {w w' : World} {a : Option Addr} {n : Nat} {f : Nat → Value} (h : RowAt w a n f) (hb : Below w.heap.size w w') : RowAt w' a n f := fun hn => by
  obtain ⟨b, off, e, hc⟩ := h hn
  exact ⟨b, off, e, fun i hi => by rw [hb.cell (World.block_lt_of_cell? _ _ (hc i hi))]; exact hc i hi⟩

theorem Rows2.below {w w' : World} {a : Option Addr} {n : Nat} {A : Nat → Option Addr} {L C : Nat → Nat} {Z : Nat → Nat → Int} (h : Rows2 w a n A L C Z) (hb : Below w.heap.size w w') : Rows2 w' a n A L C Z :=
  ⟨h.top.below hb, fun r hr => (h.rows r hr).below hb⟩

theorem RowAt.of_rowIs {w : World} {b : Nat} {t : TypeId} {n c : Nat} {f : Nat → Value} (h : w.rowIs b t c f) (hn : n ≤ c) : RowAt w (some ⟨b, 0, none⟩) n f := fun _ =>
  ⟨b, 0, rfl, fun i hi => by rw [Nat.zero_add]; exact h.cell (by omega)⟩

theorem RowAt.congr {w : World} {a : Option Addr} {n : Nat} {f g : Nat → Value} (h : RowAt w a n f) (e : ∀ i, i < n → f i = g i) : RowAt w a n g := fun hn => by
  obtain ⟨b, off, ea, hc⟩ := h hn
  exact ⟨b, off, ea, fun i hi => by rw [hc i hi, e i hi]⟩

/-- What a fill in the making holds: the first k done, the rest 'd'. -/
def fill (z : Nat → Value) (d : Value) (k : Nat) : Nat → Value := fun i => if i < k then z i else d
theorem fill_zero (z : Nat → Value) (d : Value) (i : Nat) : d = fill z d 0 i := by simp [fill]
theorem fill_succ (z : Nat → Value) (d : Value) (k i : Nat) : (if i = k then z k else fill z d k i) = fill z d (k + 1) i := by
  simp only [fill]
  by_cases e : i = k
  · subst e; simp
  · by_cases h : i < k
    · simp [e, h, show i < k + 1 by omega]
    · simp [e, h, show ¬ i < k + 1 by omega]
theorem fill_full (z : Nat → Value) (d : Value) {k i : Nat} (h : i < k) : fill z d k i = z i := by simp [fill, h]

/-- A guard's answer: a bool; nothing has turned; where it says true, p. (A name, so that the walk does not take the post apart.) -/
def Guards (w : World) (p : Prop) (e : Ending) (w' : World) : Prop := ∃ b, e = .returned (.bool b) ∧ w' = w ∧ (b = true → p)
theorem Guards.no (w : World) (p : Prop) : Guards w p (.returned (.bool false)) w := ⟨false, rfl, rfl, fun h => by cases h⟩
theorem Guards.yes (w : World) {p : Prop} (h : p) : Guards w p (.returned (.bool true)) w := ⟨true, rfl, rfl, fun _ => h⟩

/-- A test's answer, told whole. -/
def Tells (w : World) (p : Prop) (e : Ending) (w' : World) : Prop := ∃ b, e = .returned (.bool b) ∧ w' = w ∧ (b = true ↔ p)
theorem Tells.no (w : World) {p : Prop} (h : ¬ p) : Tells w p (.returned (.bool false)) w := ⟨false, rfl, rfl, fun hb => (by cases hb), fun k => absurd k h⟩
theorem Tells.yes (w : World) {p : Prop} (h : p) : Tells w p (.returned (.bool true)) w := ⟨true, rfl, rfl, fun _ => h, fun _ => rfl⟩
theorem int_eq {k : IntKind} {a b : Int} (h : a = b) : Value.int k a = Value.int k b := by rw [h]

end Go.Proofs.Qxb6601170a
