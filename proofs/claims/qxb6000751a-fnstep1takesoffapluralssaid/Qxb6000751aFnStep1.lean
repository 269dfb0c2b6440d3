/-
  SEAT b6000751a: 'Rows.FnStep1TakesOffAPluralSSaid' PROVED (the given shell; the walk by Law8.lean; the closed facts by Head.lean).
-/
import Derived.Test.Qxb6000751aRows
import Derived.WalkKit
import Derived.ProofKit
import Derived.OpenShut
import Derived.ShutString
import Derived.ChangeOld
import Derived.Below
import Derived.Test.Qxb6000751aLaw8
import Derived.Test.Qxb6000751aHead
namespace Go.Proofs.Qxb6000751a
open Go.ChangeShapes Go.WideShapes Go.ChangeAt Go.RowKit
open Go.ChangeMaps (open_string shut_string)
set_option linter.unusedVariables false

theorem own8 : ownKnob Try.prog.godebug = none := by kernel_rfl
theorem laidOut8 : laidOutB Try.prog = true := by kernel_rfl

/-- WHAT THE WALK IS TOLD OF A SLICE OF INTEGERS THAT CAME IN: it is nil; or it leads to a row of 'cap' cells, the numbers 'zs' (the first 'len' are its elements, the rest its spare room), each fitting its kind. -/
def IsRow8 (k : IntKind) (w : World) (a : Option Addr) (len cap : Nat) (zs : List Int) : Prop :=
  (a = none ∧ len = 0 ∧ cap = 0 ∧ zs = []) ∨
  ∃ x, a = some x ∧ len ≤ cap ∧ cap ≤ maxLen ∧ zs.length = cap ∧ (∀ i, i < zs.length → w.cell? (x.add i) = some (.int k (zs.getD i 0))) ∧ ∀ n ∈ zs, (Lit.int k n).wf = true

theorem rowAt_of8 {w : World} {a : Addr} {n : Nat} {f : Nat → Value} (h : ∀ i, i < n → w.cell? (a.add i) = some (f i)) : RowAt w (some a) n f := fun hn => by
  obtain ⟨b, off, spot⟩ := a
  have hs : spot = none := by simpa [Addr.add] using World.cell?_spot (h 0 hn)
  subst hs
  exact ⟨b, off, rfl, fun i hi => by rw [← addP]; exact h i hi⟩
theorem u8_range {n : Int} (h : (Lit.int .u8 n).wf = true) : 0 ≤ n ∧ n < 256 := by
  have := bounds_u8 h; omega
theorem lz_range {zs : List Int} (h : ∀ n ∈ zs, (Lit.int .u8 n).wf = true) (m : Nat) : ∀ i, 0 ≤ lz (zs.take m) i ∧ lz (zs.take m) i < 256 := fun i => by
  simp only [lz, List.getD]
  cases e : (zs.take m)[i]? with
  | none => simp
  | some x => exact u8_range (h x (List.mem_of_mem_take (List.mem_of_getElem? e)))

theorem walk8 (a0 : Option Addr) (len0 cap0 : Nat) (z0 : List Int) (w : World) (w0 : IsRow8 .u8 w a0 len0 cap0 z0) :
    Calls Try.prog 8 #[.slice a0 len0 cap0] w fun e w' => e = .returned (.bool true) ∧ Below w.heap.size w w' := by
  rcases w0 with ⟨rfl, rfl, rfl, rfl⟩ | ⟨x, rfl, h1, h2, h3, h4, h5⟩
  · exact law8 none 0 [] w (fun h => absurd h (Nat.lt_irrefl _)) (fun i => by simp [lz]) (Nat.zero_le _)
  · have hl : (z0.take len0).length = len0 := by rw [List.length_take]; omega
    have hA : RowAt w (some x) (z0.take len0).length (u8s (lz (z0.take len0))) := rowAt_of8 fun i hi => by
      rw [hl] at hi
      rw [h4 i (by omega)]
      simp [u8s, lz, List.getD, List.getElem?_take_of_lt hi]
    have := law8 (some x) cap0 (z0.take len0) w hA (lz_range h5 len0) (by rw [hl]; omega)
    rw [hl] at this
    exact this

/-! ### THE ROW's STEP: WRITTEN OUT: LEAVE IT -/
set_option maxRecDepth 100000 in
theorem lifted8 (os : Os) (started : os.Started) (H : Type) (enc : TypeId × Value → H) :
    ReturnsInHanded {} Try.checked os 8 .any (Rows.fnStep1TakesOffAPluralSSpec.pre6 enc Try.prog Try.f8 Rows.fnStep1TakesOffAPluralSRow.domain false) (Rows.fnStep1TakesOffAPluralSSpec.post enc Try.prog Try.f8 false true false false) := by
  refine returnsInHanded_of_change (C := Try.checked) own8 started (by kernel_rfl) Try.func8
    (ChangeSpec.witness6 (enc := enc) (C := Try.checked) false ⟨#[], #[.slice none 0 0], []⟩ 8 (by kernel_rfl) (by kernel_rfl) (by kernel_rfl) (by kernel_rfl)) ?_
  intro W base args ds gs before hval0 hW hcnd _
  have hval : ∀ (j : Nat) t v, Try.f8.params[j]? = some t → args[j]? = some v → Value.okWide Try.prog W .any base t v := hval0
  have hW' := hW
  obtain ⟨p, q, hA0, hV, rfl, hfz, hnd⟩ := hW
  have hA : DataW.TrodAll enc Try.prog W 0 (fun _ => true) true Try.f8.params.toList args.toList ds p := hA0
  rw [Try.params8] at hA hval
  obtain ⟨v0, vs0, d0, ds0, p0, q0, hargs, rfl, rfl, h0, r0⟩ := trodAll_cons hA
  obtain ⟨rfl, rfl, rfl⟩ := trodAll_nil r0
  obtain rfl : args = #[v0] := by cases args; simp_all
  obtain ⟨rfl, rfl⟩ := trodVars_none hV
  obtain ⟨a0, len0, cap0, rfl⟩ := okWide_slice Try.underlying22 (hval 0 22 v0 rfl rfl)
  have k0 := h0
  have lt0 : ∀ x ∈ p0, x.block < W.heap.size := by obtain ⟨m, hm⟩ := k0; exact DataW.trod_lt m _ _ _ hm
  obtain ⟨z0, w0⟩ : ∃ zs, IsRow8 .u8 W a0 len0 cap0 zs := by
    obtain ⟨fuel, hf⟩ := h0
    rcases open_ints Try.underlying22 Try.underlying5 (by kernel_rfl) hf with ⟨hcs, _⟩ | ⟨x, l, c, zs, hcs, _, hl, hm, hz, _, hcell, hwz⟩
    · simp [Value.cells] at hcs
      obtain ⟨rfl, rfl, rfl⟩ := hcs
      exact ⟨[], .inl ⟨rfl, rfl, rfl, rfl⟩⟩
    · simp [Value.cells] at hcs
      obtain ⟨rfl, rfl, rfl⟩ := hcs
      exact ⟨zs, .inr ⟨_, rfl, hl, hm, by simpa using hz, hcell, hwz⟩⟩
  clear hA0 hval0
  refine (walk8 a0 len0 cap0 z0 W w0).mono fun e W' ⟨he, bel⟩ => ?_
  subst he
  exact ⟨_, rfl, _, _, _, [], _, [], hW', trodAll_mk1 (shut_bool Try.underlying4 _), (trodAll_cons_mk (Below.trod laidOut8 (by kernel_rfl) (of_decide_eq_true (by kernel_rfl)) k0 bel lt0) trodAll_mk0), rfl, bel.frame _, fun h => by cases h⟩

theorem named8 : Try.prog.funcNamed Rows.fnStep1TakesOffAPluralSRow.func = some 8 := by kernel_rfl
theorem lift8 : (Rows.fnStep1TakesOffAPluralSRow.lifted == Try.prog.liftsFinal) = true := by
  have e : Rows.fnStep1TakesOffAPluralSRow.lifted = false := rfl
  rw [e]; exact beq_lift _ _ lifts_final
theorem make8 : (Try.prog.make == some Rows.fnStep1TakesOffAPluralSRow.make) = true := by
  have e : Rows.fnStep1TakesOffAPluralSRow.make = .cut := rfl
  rw [e]; exact beq_make _ _ made
set_option maxHeartbeats 2000000 in
theorem facts8 : joinedFacts Try.prog 8 Try.f8 Rows.fnStep1TakesOffAPluralSSpec Rows.fnStep1TakesOffAPluralSRow = true := by
  unfold joinedFacts
  simp only [Bool.and_eq_true]
  repeat' apply And.intro
  all_goals first
    | with_reducible exact may_enter
    | with_reducible exact lift8
    | with_reducible exact make8
    | (as_aux_lemma => kernel_rfl)
theorem inst8 : Try.f8.isInstance Try.prog Rows.fnStep1TakesOffAPluralSRow.origin Rows.fnStep1TakesOffAPluralSRow.targs := of_decide_eq_true (by kernel_rfl)
theorem wrap8 : Try.f8.isWrapper Try.prog Rows.fnStep1TakesOffAPluralSRow.wrapper Rows.fnStep1TakesOffAPluralSRow.mainSum := by
  unfold Func.isWrapper; first | (rw [if_pos (by decide +kernel)]; kernel_rfl) | (rw [if_neg (by decide +kernel)]; exact ⟨rfl, rfl⟩)
theorem fnStep1_proved : Rows.FnStep1TakesOffAPluralSSaid :=
  OpenClaim.holds_of_wide 8 Try.f8 rfl rfl rfl rfl rfl rfl rfl ⟨rfl, rfl, rfl, rfl, rfl⟩ rfl rfl rfl rfl rfl named8 Try.func8 facts8 inst8 wrap8
    (fun os started H enc _ => lifted8 os started H enc)
end Go.Proofs.Qxb6000751a
