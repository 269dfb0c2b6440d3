/-
  SEAT b6000751a: consonant (36), measure (33).
-/
import Derived.Test.Qxb6000751aBase
namespace Go.Proofs.Qxb6000751a
open Go.RowKit Go.Deep
set_option linter.unusedVariables false

def ConsPost (z : Nat → Int) (i : Nat) (w : World) (e : Ending) (w' : World) : Prop := e = .returned (.bool (cons z i)) ∧ w = w'

set_option maxHeartbeats 1000000 in
theorem cons36_at (o : Nat) (b off n c : Nat) (z : Nat → Int) (w : World) (c0 : w.cell? ⟨o, 0, none⟩ = some (.slice (some ⟨b, off, none⟩) n c)) (i : Nat) (hi : i < n) (c1 : w.cell? ⟨b, off + i, none⟩ = some (.int .u8 (z i))) (hn : n ≤ 1048576)
    (hprev : ∀ j : Nat, i = j + 1 → Calls Try.prog 36 #[.pointer (some ⟨o, 0, none⟩), .int .i64 j] w (ConsPost z j w)) :
    Calls Try.prog 36 #[.pointer (some ⟨o, 0, none⟩), .int .i64 i] w (ConsPost z i w) := by
  have i1 : (i : Int) < (n : Int) := by omega
  by_cases h1 : z i = 97
  · have hv := cons_v (z := z) (i := i) (.inl h1)
    go_enter Try.func36, Try.ntmps36
    go_wp2
    go_ret
    exact ⟨by rw [hv]; rfl, rfl⟩
  by_cases h2 : z i = 101
  · have hv := cons_v (z := z) (i := i) (.inr (.inl h2))
    go_enter Try.func36, Try.ntmps36
    go_wp2
    go_ret
    exact ⟨by rw [hv]; rfl, rfl⟩
  by_cases h3 : z i = 105
  · have hv := cons_v (z := z) (i := i) (.inr (.inr (.inl h3)))
    go_enter Try.func36, Try.ntmps36
    go_wp2
    go_ret
    exact ⟨by rw [hv]; rfl, rfl⟩
  by_cases h4 : z i = 111
  · have hv := cons_v (z := z) (i := i) (.inr (.inr (.inr (.inl h4))))
    go_enter Try.func36, Try.ntmps36
    go_wp2
    go_ret
    exact ⟨by rw [hv]; rfl, rfl⟩
  by_cases h5 : z i = 117
  · have hv := cons_v (z := z) (i := i) (.inr (.inr (.inr (.inr h5))))
    go_enter Try.func36, Try.ntmps36
    go_wp2
    go_ret
    exact ⟨by rw [hv]; rfl, rfl⟩
  by_cases h6 : z i = 121
  · cases i with
    | zero =>
      have hv := cons_y0 h6
      rw [Nat.add_zero] at c1
      go_enter Try.func36, Try.ntmps36
      go_wp2
      go_ret
      exact ⟨by rw [hv]; rfl, rfl⟩
    | succ j =>
      have hv := cons_y h6
      have H := hprev j rfl
      clear hprev
      have e1 : ((j + 1 : Nat) : Int) = (j : Int) + 1 := by omega
      rw [e1]
      have hne : ((j : Int) + 1 == 0) = false := by
        rw [beq_eq_false_iff_ne]; omega
      go_enter Try.func36, Try.ntmps36
      go_wp2_with fail
      refine H.mono ?_
      rintro e w' ⟨rfl, rfl⟩
      clear H
      go_wp2_with fail
      go_wp2
      go_ret
      exact ⟨by rw [hv]; rfl, rfl⟩
  · have hv := cons_c (z := z) (i := i) (by unfold isV; omega) h6
    go_enter Try.func36, Try.ntmps36
    go_wp2
    go_ret
    exact ⟨by rw [hv]; rfl, rfl⟩

theorem cons36 (o : Nat) (a : Option Addr) (n c : Nat) (z : Nat → Int) (w : World) (hO : SOb w o a n c) (hR : RowAt w a n (u8s z)) (hn : n ≤ 1048576) :
    ∀ i : Nat, i < n → Calls Try.prog 36 #[.pointer (some ⟨o, 0, none⟩), .int .i64 i] w (ConsPost z i w) := by
  intro i
  induction i with
  | zero =>
    intro hi
    obtain ⟨b, off, rfl, hc⟩ := hR (by omega)
    exact cons36_at o b off n c z w hO.c0 0 hi (hc 0 hi) hn (fun j hj => by omega)
  | succ i ih =>
    intro hi
    obtain ⟨b, off, rfl, hc⟩ := hR (by omega)
    exact cons36_at o b off n c z w hO.c0 (i + 1) hi (hc _ hi) hn (fun j hj => by
      have : j = i := by omega
      subst this; exact ih (by omega))

/-! ### measure -/
section
variable {z : Nat → Int} {i : Nat}
theorem turns_v (h : cons z i = false) : turns z (i + 1) = turns z i := by
  cases i with
  | zero => rfl
  | succ j => rw [turns, if_neg (by rw [h]; simp)]; rfl
theorem turns_cc (h : cons z i = true) : turns z (i + 2) = turns z (i + 1) := by
  rw [turns, if_neg (by rw [h]; simp)]; rfl
theorem turns_vc (h : cons z i = false) (h' : cons z (i + 1) = true) : turns z (i + 2) = turns z (i + 1) + 1 := by
  rw [turns, if_pos ⟨h, h'⟩]
theorem turns_lead : ∀ k : Nat, (∀ p, p < k → cons z p = true) → turns z k = 0
  | 0, _ => rfl
  | 1, _ => rfl
  | k + 2, h => by rw [turns_cc (h k (by omega))]; exact turns_lead (k + 1) (fun p hp => h p (by omega))
end

/-- Inside a run of consonants that began at i0 behind a vowel (or has not begun yet). -/
def InRun (z : Nat → Int) (i0 i m : Nat) : Prop := i0 ≤ i ∧ ((i = i0 ∧ turns z i = m) ∨ (i0 < i ∧ turns z i = m + 1 ∧ ∃ p, i = p + 1 ∧ cons z p = true))

end Go.Proofs.Qxb6000751a
