/-
  SEAT b6601228a: from the reading of an argument to the view that the walks take.
-/
import Derived.Test.Qxb6601228aRows
import Derived.Test.Qxb6601228aBase
import Derived.ProofKit
import Derived.OpenShut
import Derived.ChangeOld
import Derived.Deep.Matrix
import Derived.Deep.Grids
namespace Go.Proofs.Qxb6601228a
open Go.ChangeShapes Go.WideShapes Go.ChangeAt Go.RowKit
set_option linter.unusedVariables false

theorem Try.own : ownKnob Try.prog.godebug = none := by kernel_rfl
theorem Try.laidOut : laidOutB Try.prog = true := by kernel_rfl
theorem Try.cells27 : Try.prog.cellsOf 27 = 16 := by kernel_rfl
theorem Try.cells5 : Try.prog.cellsOf 5 = 1 := by kernel_rfl

theorem pc_of : ∀ cs : List Value, (∀ v ∈ cs, ∃ z : Int, v = .int .u8 z ∧ (Lit.int .u8 z).wf = true) → ∃ q : List UInt8, pc q = cs
  | [], _ => ⟨[], rfl⟩
  | v :: r, h => by
    obtain ⟨q, hq⟩ := pc_of r (fun x hx => h x (List.mem_cons_of_mem _ hx))
    obtain ⟨z, rfl, hz⟩ := h v (List.mem_cons_self ..)
    have hb : 0 ≤ z ∧ z ≤ 255 := by simpa [Lit.wf, IntKind.min, IntKind.max, IntKind.signed, IntKind.bits] using hz
    refine ⟨UInt8.ofNat z.toNat :: q, ?_⟩
    show Extern.Stop.cell _ :: pc q = _
    rw [hq]
    congr 1
    have : z.toNat % 256 = z.toNat := Nat.mod_eq_of_lt (by omega)
    simp [Extern.Stop.cell, this]
    omega

theorem add_two (x : Addr) (i j : Nat) : (x.add i).add j = x.add (i + j) := by
  by_cases hi : i = 0 <;> by_cases hj : j = 0 <;> simp [Addr.add, hi, hj, Nat.add_assoc]

section
variable {H : Type} {enc : TypeId × Value → H} {W : World} {a : Option Addr} {n c : Nat} {d : DataW H} {p : List MemPlace}

theorem peps_of (h : DataW.Trod enc Try.prog W 0 (fun _ => true) true 22 (.slice a n c) d p) :
    ∃ P, PepsAt W a n P ∧ (∀ i, i < n → (P i).length = 16) ∧ n ≤ maxLen := by
  obtain ⟨fuel, hf⟩ := h
  rcases Go.Deep.open_slice Try.underlying22 hf with ⟨hcs, _⟩ | ⟨x, l, c', m, k, D, Pl, hcs, _, hl, hm, hmm, _, hr⟩
  · simp [Value.cells] at hcs
    obtain ⟨rfl, rfl, rfl⟩ := hcs
    exact ⟨fun _ => [], fun h => by omega, fun i hi => by omega, by unfold maxLen; omega⟩
  · simp [Value.cells] at hcs
    obtain ⟨rfl, rfl, rfl⟩ := hcs
    simp only [if_true] at hmm
    rw [Try.cells27] at hr
    obtain ⟨P, hP⟩ := Go.Deep.choose_lt (α := List UInt8) (n := n) (p := fun i q => q.length = 16 ∧ ∀ j, j < 16 → W.cell? (x.add (i * 16 + j)) = (pc q)[j]?) (fun i hi => by
      obtain ⟨cs', h1, h2⟩ := hr i (by omega)
      obtain ⟨_, hlen, hcell⟩ := World.cells?_some h1
      obtain ⟨xs, mm, _, _, _, hxl, hel⟩ := DataW.trod_array Try.underlying27 h2
      obtain ⟨q, hq⟩ := pc_of cs' (fun v hv => by
        obtain ⟨j, hj, rfl⟩ := List.mem_iff_getElem.1 hv
        have h3 := hel j (by omega)
        rw [Try.cells5, Nat.mul_one, List.getElem?_eq_getElem (by omega)] at h3
        obtain ⟨z, hz, _, hw⟩ := DataW.trod_int Try.underlying5 h3
        refine ⟨z, ?_, hw⟩
        have h4 := congrArg (fun l => l[0]?) hz
        simp only [List.getElem?_take, List.getElem?_drop, Nat.zero_lt_one, if_true, Nat.add_zero, List.getElem?_cons_zero] at h4
        rw [List.getElem?_eq_getElem hj] at h4
        exact Option.some.inj h4)
      refine ⟨q, by rw [← pc_length, hq, hlen], fun j hj => ?_⟩
      rw [hq, ← hcell j hj, add_two])
    refine ⟨P, fun hn => ?_, fun i hi => (hP i hi).1, by omega⟩
    obtain ⟨b, off, spot⟩ := x
    have hs : spot = none := by
      have h0 := (hP 0 hn).2 0 (by omega)
      rw [List.getElem?_eq_getElem (by rw [pc_length, (hP 0 hn).1]; omega)] at h0
      simpa [Addr.add] using World.cell?_spot h0
    subst hs
    refine ⟨b, off, rfl, fun i hi j v hv => ?_⟩
    have hj : j < 16 := by
      have := (List.getElem?_eq_some_iff.1 hv).1
      rw [pc_length, (hP i hi).1] at this; exact this
    have := (hP i hi).2 j hj
    rw [← hv, ← this]
    congr 1
    simp [Addr.add, Nat.add_assoc]
end

end Go.Proofs.Qxb6601228a
