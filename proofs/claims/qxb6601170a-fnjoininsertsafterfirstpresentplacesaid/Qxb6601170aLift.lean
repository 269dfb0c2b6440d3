/-
  SEAT b6601170a: from the reading of an argument to the views that the walks take.
-/
import Derived.Test.Qxb6601170aRows
import Derived.Test.Qxb6601170aBase
import Derived.ProofKit
import Derived.OpenShut
import Derived.ChangeOld
import Derived.Deep.Matrix
import Derived.Deep.Grids
namespace Go.Proofs.Qxb6601170a
open Go.ChangeShapes Go.WideShapes Go.ChangeAt Go.RowKit
set_option linter.unusedVariables false

theorem Try.own : ownKnob Try.prog.godebug = none := by kernel_rfl
theorem Try.laidOut : laidOutB Try.prog = true := by kernel_rfl
theorem Try.cells3 : Try.prog.cellsOf 3 = 1 := by kernel_rfl
theorem Try.cells4 : Try.prog.cellsOf 4 = 1 := by kernel_rfl
theorem Try.cells24 : Try.prog.cellsOf 24 = 1 := by kernel_rfl

theorem rowAt_of {w : World} {a : Addr} {n : Nat} {f : Nat → Value} (h : ∀ i, i < n → w.cell? (a.add i) = some (f i)) : RowAt w (some a) n f := fun hn => by
  obtain ⟨b, off, spot⟩ := a
  have hs : spot = none := by simpa [Addr.add] using World.cell?_spot (h 0 hn)
  subst hs
  exact ⟨b, off, rfl, fun i hi => by rw [← add_plain]; exact h i hi⟩

section
variable {H : Type} {enc : TypeId × Value → H} {W : World} {a : Option Addr} {n c : Nat} {d : DataW H} {p : List MemPlace}

theorem rows2_of (h : DataW.Trod enc Try.prog W 0 (fun _ => true) true 22 (.slice a n c) d p) :
    ∃ A L C Z, Rows2 W a n A L C Z ∧ (a = none → n = 0) ∧ n ≤ maxLen ∧ (∀ r, r < n → L r ≤ maxLen) ∧ ∀ r, r < n → A r = none → L r = 0 := by
  obtain ⟨fuel, hf⟩ := h
  rcases Go.Deep.open_int_rows Try.underlying22 Try.underlying24 Try.underlying3 Try.cells24 Try.cells3 hf with ⟨hcs, _⟩ | ⟨x, l, c', A, L, C, Z, hcs, _, hl, hm, _, hr⟩
  · simp [Value.cells] at hcs
    obtain ⟨rfl, rfl, rfl⟩ := hcs
    exact ⟨fun _ => none, fun _ => 0, fun _ => 0, fun _ _ => 0, ⟨fun h => by omega, fun r hr => by omega⟩, fun _ => rfl, by unfold maxLen; omega, fun r hr => by omega, fun r hr => by omega⟩
  · simp [Value.cells] at hcs
    obtain ⟨rfl, rfl, rfl⟩ := hcs
    refine ⟨A, L, C, fun r i => (Z r).getD i 0, ⟨rowAt_of fun i hi => (hr i (by omega)).1, fun r hrn hpos => ?_⟩, fun h => (by cases h), by omega, fun r hrn => ?_, fun r hrn hA => ?_⟩
    · obtain ⟨_, h2, _, _, _, h6, h7⟩ := hr r (by omega)
      cases hA : A r with
      | none => have := h6 hA; omega
      | some y => exact rowAt_of (fun i hi => (h7 y hA).2 i (by omega)) hpos
    · have := hr r (by omega); omega
    · have := (hr r (by omega)).2.2.2.2.2.1 hA; have := (hr r (by omega)).2.1; omega

theorem ints_of (h : DataW.Trod enc Try.prog W 0 (fun _ => true) true 24 (.slice a n c) d p) :
    ∃ z, RowAt W a n (ints z) ∧ (a = none → n = 0) ∧ n ≤ maxLen := by
  obtain ⟨fuel, hf⟩ := h
  rcases open_ints Try.underlying24 Try.underlying3 Try.cells3 hf with ⟨hcs, _⟩ | ⟨x, l, c', zs, hcs, _, hl, hm, hz, _, hcell, hwz⟩
  · simp [Value.cells] at hcs
    obtain ⟨rfl, rfl, rfl⟩ := hcs
    exact ⟨fun _ => 0, fun h => by omega, fun _ => rfl, by unfold maxLen; omega⟩
  · simp [Value.cells] at hcs
    obtain ⟨rfl, rfl, rfl⟩ := hcs
    simp only [if_true] at hz
    exact ⟨fun i => zs.getD i 0, rowAt_of fun i hi => hcell i (by omega), fun h => (by cases h), by omega⟩
end

end Go.Proofs.Qxb6601170a
