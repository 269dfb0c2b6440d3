/-
  SEAT b6601170a: the clones as views; a Cycles seen as three slices; ZZNewCycles (18).
-/
import Derived.Test.Qxb6601170aClone
import Derived.Test.Qxb6601170aJoin
import Derived.Test.Qxb6601170aValid
namespace Go.Proofs.Qxb6601170a
open Go.RowKit
set_option linter.unusedVariables false

/-- A result that is a slice of slices of ints, reading 'Z', in a world that has turned nothing old. -/
def Copy2 (w : World) (n : Nat) (L : Nat → Nat) (Z : Nat → Nat → Int) (e : Ending) (w' : World) : Prop :=
  ∃ a' c' A' C', e = .returned (.slice a' n c') ∧ Below w.heap.size w w' ∧ Rows2 w' a' n A' L C' Z

theorem clone2 (a : Option Addr) (n c : Nat) (A : Nat → Option Addr) (L C : Nat → Nat) (Z : Nat → Nat → Int) (w : World) (hz : Rows2 w a n A L C Z) (h0 : a = none → n = 0) (hn : n ≤ 1048576) (hL : ∀ r, r < n → L r ≤ 1048576) (hnil : ∀ r, r < n → A r = none → L r = 0) :
    Calls Try.prog 13 #[.slice a n c] w (Copy2 w n L Z) := by
  cases a with
  | none =>
    have := h0 rfl
    subst this
    refine (cloneInts2_nil _ _ _).mono ?_
    rintro e w' ⟨rfl, rfl⟩
    exact ⟨none, 0, fun _ => none, fun _ => 0, rfl, Below.refl _ _, fun h => by omega, fun r hr => by omega⟩
  | some x =>
    refine (cloneInts2_some x n c A L C Z w hz hn hL hnil).mono ?_
    rintro e w' ⟨rfl, hb, hs, A', C', hr, hO⟩
    refine ⟨some ⟨w.heap.size, 0, none⟩, n, A', C', rfl, hb, RowAt.of_rowIs hr (Nat.le_refl _), fun r hr' => ?_⟩
    rcases hO.row r hr' with ⟨h1, h2, h3⟩ | ⟨g, _, h2, h3, h4, h5, h6⟩
    · intro hpos; have := hnil r hr' h1; omega
    · rw [h2]; exact RowAt.of_rowIs h6 (Nat.le_refl _)

/-- A result that is a slice of ints reading 'z'. -/
def Copy1 (w : World) (n : Nat) (z : Nat → Int) (e : Ending) (w' : World) : Prop :=
  ∃ a' c', e = .returned (.slice a' n c') ∧ Below w.heap.size w w' ∧ RowAt w' a' n (ints z)

theorem clone1 (a : Option Addr) (n c : Nat) (z : Nat → Int) (w : World) (hz : RowAt w a n (ints z)) (h0 : a = none → n = 0) (hn : n ≤ 1048576) :
    Calls Try.prog 15 #[.slice a n c] w (Copy1 w n z) := by
  cases a with
  | none =>
    have := h0 rfl
    subst this
    refine (cloneInts_nil _ _ _).mono ?_
    rintro e w' ⟨rfl, rfl⟩
    exact ⟨none, 0, rfl, Below.refl _ _, fun h => by omega⟩
  | some x =>
    refine (cloneInts_some x n c z w hz hn).mono ?_
    rintro e w' ⟨rfl, hb, hs, hr⟩
    exact ⟨some ⟨w.heap.size, 0, none⟩, n, rfl, hb, RowAt.of_rowIs hr (Nat.le_refl _)⟩

set_option maxHeartbeats 400000 in
theorem new18 (v1 v2 v3 : Value) (a1 a2 a3 : Option Addr) (n1 n2 n3 c1 c2 c3 : Nat) (w : World) :
    Calls Try.prog 18 #[.slice a1 n1 c1, .slice a2 n2 c2, .slice a3 n3 c3] w fun e w' => e = .returned (.pointer (some ⟨w.heap.size, 0, none⟩)) ∧ w' = w.alloc (.cells #[.slice a1 n1 c1, .slice a2 n2 c2, .slice a3 n3 c3] 63) := by
  go_enter Try.func18, Try.ntmps18
  go_wp2
  go_ret
  exact ⟨rfl, rfl⟩

section
variable {B M n cc cp cl : Nat} {w w' : World} {ac ap : Option Addr} {G C N : Nat → Nat} {Z : Nat → Nat → Int} {lf : Nat → Bool}

theorem Cyc.rowsC (h : Cyc B w M n ac ap cc cp cl G C N Z lf) : Rows2 w ac M (fun m => some ⟨G (4 + 2 * m), 0, none⟩) (fun m => N (2 * m)) (fun m => C (2 * m)) (fun m => Z (2 * m)) :=
  ⟨fun hM => ⟨G 1, 0, (h.tc hM).1, fun i hi => by rw [Nat.zero_add]; exact h.topC hi⟩, fun r hr hpos => ⟨G (4 + 2 * r), 0, rfl, fun i hi => by rw [Nat.zero_add]; exact h.num (by omega) hi⟩⟩
theorem Cyc.rowsP (h : Cyc B w M n ac ap cc cp cl G C N Z lf) : Rows2 w ap M (fun m => some ⟨G (4 + (2 * m + 1)), 0, none⟩) (fun m => N (2 * m + 1)) (fun m => C (2 * m + 1)) (fun m => Z (2 * m + 1)) :=
  ⟨fun hM => ⟨G 2, 0, (h.tp hM).1, fun i hi => by rw [Nat.zero_add]; exact h.topP hi⟩, fun r hr hpos => ⟨G (4 + (2 * r + 1)), 0, rfl, fun i hi => by rw [Nat.zero_add]; exact h.num (by omega) hi⟩⟩
theorem Cyc.marks (h : Cyc B w M n ac ap cc cp cl G C N Z lf) : RowAt w (some ⟨G 3, 0, none⟩) n (bools lf) :=
  fun _ => ⟨G 3, 0, rfl, fun i hi => by rw [Nat.zero_add]; exact h.mark hi⟩
theorem Cyc.drewN (h : Cyc B w M n ac ap cc cp cl G C N Z lf) (q : Nat) : Cyc B (w.drewN q) M n ac ap cc cp cl G C N Z lf := h.kept fun _ _ => by simp
end
theorem below_drewN' {B : Nat} {a w : World} (h : Below B a w) (q : Nat) : Below B a (w.drewN q) := ⟨h.os, h.tape, h.output, h.size, h.block⟩

end Go.Proofs.Qxb6601170a
