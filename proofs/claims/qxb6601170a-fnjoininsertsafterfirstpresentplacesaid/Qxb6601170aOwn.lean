/-
  SEAT b6601170a: FnJoinInsertsAfterFirstPresentPlace (3): the walk.
-/
import Derived.Test.Qxb6601170aGuardC
import Derived.Test.Qxb6601170aGuardA
import Derived.Deep.Slices
namespace Go.Proofs.Qxb6601170a
open Go.RowKit Go.Deep
set_option linter.unusedVariables false
attribute [local go_sem ↓] Go.wp_at_zero Go.wp_at_succ

/-- A clone of a slice of M slices of n ints, all in blocks of its own. -/
def Owned (w : World) (M n : Nat) (Z : Nat → Nat → Int) (e : Ending) (w' : World) : Prop :=
  ∃ a' c', e = .returned (.slice a' M c') ∧ Below w.heap.size w w' ∧ (0 < M → ∃ (g : Nat) (R : Nat → Nat), a' = some ⟨g, 0, none⟩ ∧ w.heap.size ≤ g ∧ w'.rowIs g 24 M (fun m => .slice (some ⟨R m, 0, none⟩) n n) ∧
    (∀ m, m < M → w.heap.size ≤ R m ∧ R m ≠ g ∧ w'.rowIs (R m) 3 n (ints (Z m))) ∧ ∀ m m', m < M → m' < M → R m = R m' → m = m')

theorem clone2own (a : Option Addr) (M n c : Nat) (A : Nat → Option Addr) (L C : Nat → Nat) (Z : Nat → Nat → Int) (w : World) (hz : Rows2 w a M A L C Z) (h0 : a = none → M = 0) (hM : M ≤ 1048576) (hL : ∀ r, r < M → L r = n) (hn0 : 0 < n) (hn : n ≤ 1048576) :
    Calls Try.prog 13 #[.slice a M c] w (Owned w M n Z) := by
  have hA : ∀ r, r < M → ∃ x, A r = some x := fun r hr => by obtain ⟨b, off, e, _⟩ := hz.rows r hr (by rw [hL r hr]; exact hn0); exact ⟨_, e⟩
  cases a with
  | none =>
    have := h0 rfl
    subst this
    refine (cloneInts2_nil _ _ _).mono ?_
    rintro e w' ⟨rfl, rfl⟩
    exact ⟨none, 0, rfl, Below.refl _ _, fun h => by omega⟩
  | some x =>
    refine (cloneInts2_some x M c A L C Z w hz hM (fun r hr => by rw [hL r hr]; exact hn) (fun r hr e => by obtain ⟨y, e2⟩ := hA r hr; rw [e] at e2; cases e2)).mono ?_
    rintro e w' ⟨rfl, hb, hs, A', C', hr, hO⟩
    have each : ∀ m, m < M → ∃ g : Nat, A' m = some ⟨g, 0, none⟩ ∧ C' m = n ∧ w.heap.size < g ∧ w'.rowIs g 3 n (ints (Z m)) := fun m hm => by
      rcases hO.row m hm with ⟨e, _⟩ | ⟨g, _, h2, h3, h4, h5, h6⟩
      · obtain ⟨y, e2⟩ := hA m hm; rw [e] at e2; cases e2
      · rw [hL m hm] at h3 h6; exact ⟨g, h2, h3, h4, h6⟩
    obtain ⟨R, hR⟩ := choose_lt each
    refine ⟨_, _, rfl, hb, fun _ => ⟨w.heap.size, R, rfl, Nat.le_refl _, hr.congr (fun m hm => by simp only [slices]; rw [(hR m hm).1, (hR m hm).2.1, hL m hm]), fun m hm => ⟨by have := (hR m hm).2.2.1; omega, by have := (hR m hm).2.2.1; omega, (hR m hm).2.2.2⟩, fun m m' hm hm' e => ?_⟩⟩
    rcases Nat.decEq m m' with hne | heq
    · have := hO.inj m m' hm hm' hne (by rw [(hR m hm).1, (hR m' hm').1, e])
      rw [(hR m hm).1] at this; cases this
    · exact heq

/-- The numbers of a Cycles out of its two sides. -/
def mix (Zc Zp : Nat → Nat → Int) : Nat → Nat → Int := fun i => if i % 2 = 0 then Zc (i / 2) else Zp (i / 2)
theorem mix_even (Zc Zp : Nat → Nat → Int) (m : Nat) : mix Zc Zp (2 * m) = Zc m := by unfold mix; rw [if_pos (by omega), show 2 * m / 2 = m by omega]
theorem mix_odd (Zc Zp : Nat → Nat → Int) (m : Nat) : mix Zc Zp (2 * m + 1) = Zp m := by unfold mix; rw [if_neg (by omega), show (2 * m + 1) / 2 = m by omega]

/-- The blocks of a Cycles out of its parts. -/
def gath (p g1 g2 bl : Nat) (R1 R2 : Nat → Nat) : Nat → Nat := fun i => if i = 0 then p else if i = 1 then g1 else if i = 2 then g2 else if i = 3 then bl else if i % 2 = 0 then R1 ((i - 4) / 2) else R2 ((i - 4) / 2)
theorem gath_even (p g1 g2 bl : Nat) (R1 R2 : Nat → Nat) (m : Nat) : gath p g1 g2 bl R1 R2 (4 + 2 * m) = R1 m := by
  simp only [gath]; rw [if_neg (by omega), if_neg (by omega), if_neg (by omega), if_neg (by omega), if_pos (by omega), show (4 + 2 * m - 4) / 2 = m by omega]
theorem gath_odd (p g1 g2 bl : Nat) (R1 R2 : Nat → Nat) (m : Nat) : gath p g1 g2 bl R1 R2 (4 + (2 * m + 1)) = R2 m := by
  simp only [gath]; rw [if_neg (by omega), if_neg (by omega), if_neg (by omega), if_neg (by omega), if_neg (by omega), show (4 + (2 * m + 1) - 4) / 2 = m by omega]

theorem own_cyc {w0 w1 w2 w3 : World} {M n cc cp : Nat} {ac ap : Option Addr} {Zc Zp : Nat → Nat → Int} {lf : Nat → Bool} (hn : n ≤ 1048576)
    (b1 : Below w0.heap.size w0 w1) (b2 : Below w1.heap.size w1 w2) (b3 : Below w2.heap.size w2 w3) (s3 : w3.heap.size = w2.heap.size + 1)
    (hc : 0 < M → ∃ (g : Nat) (R : Nat → Nat), ac = some ⟨g, 0, none⟩ ∧ w0.heap.size ≤ g ∧ w1.rowIs g 24 M (fun m => .slice (some ⟨R m, 0, none⟩) n n) ∧ (∀ m, m < M → w0.heap.size ≤ R m ∧ R m ≠ g ∧ w1.rowIs (R m) 3 n (ints (Zc m))) ∧ ∀ m m', m < M → m' < M → R m = R m' → m = m')
    (hp : 0 < M → ∃ (g : Nat) (R : Nat → Nat), ap = some ⟨g, 0, none⟩ ∧ w1.heap.size ≤ g ∧ w2.rowIs g 24 M (fun m => .slice (some ⟨R m, 0, none⟩) n n) ∧ (∀ m, m < M → w1.heap.size ≤ R m ∧ R m ≠ g ∧ w2.rowIs (R m) 3 n (ints (Zp m))) ∧ ∀ m m', m < M → m' < M → R m = R m' → m = m')
    (hl : w3.rowIs w2.heap.size 4 n (bools lf)) :
    ∃ G, G 0 = w3.heap.size ∧ Cyc w0.heap.size (w3.alloc (.cells #[.slice ac M cc, .slice ap M cp, .slice (some ⟨w2.heap.size, 0, none⟩) n n] 63)) M n ac ap cc cp n G (fun _ => n) (fun _ => n) (mix Zc Zp) lf := by
  have z1 := b1.size
  have z2 := b2.size
  have z3 := b3.size
  have hobj : (w3.alloc (.cells #[.slice ac M cc, .slice ap M cp, .slice (some ⟨w2.heap.size, 0, none⟩) n n] 63)).rowIs w3.heap.size 63 3 (fields ac ap M cc cp w2.heap.size n n) :=
    ⟨#[.slice ac M cc, .slice ap M cp, .slice (some ⟨w2.heap.size, 0, none⟩) n n], blk_alloc_new _ _, rfl, fun i hi => by
      match i, hi with
      | 0, _ => rfl
      | 1, _ => rfl
      | 2, _ => rfl⟩
  by_cases hM : 0 < M
  · obtain ⟨g1, R1, e1, l1, t1, r1, j1⟩ := hc hM
    obtain ⟨g2, R2, e2, l2, t2, r2, j2⟩ := hp hM
    have lg1 := t1.lt
    have lg2 := t2.lt
    have lR1 : ∀ m, m < M → R1 m < w1.heap.size := fun m hm => (r1 m hm).2.2.lt
    have lR2 : ∀ m, m < M → R2 m < w2.heap.size := fun m hm => (r2 m hm).2.2.lt
    have up1 : ∀ {b t k f}, w1.rowIs b t k f → (w3.alloc (.cells #[.slice ac M cc, .slice ap M cp, .slice (some ⟨w2.heap.size, 0, none⟩) n n] 63)).rowIs b t k f := fun h =>
      ((h.of_block (b2.block _ h.lt)).of_block (b3.block _ (by have := h.lt; omega))).alloc _
    have up2 : ∀ {b t k f}, w2.rowIs b t k f → (w3.alloc (.cells #[.slice ac M cc, .slice ap M cp, .slice (some ⟨w2.heap.size, 0, none⟩) n n] 63)).rowIs b t k f := fun h => (h.of_block (b3.block _ h.lt)).alloc _
    have G0 : gath w3.heap.size g1 g2 w2.heap.size R1 R2 0 = w3.heap.size := rfl
    have G1 : gath w3.heap.size g1 g2 w2.heap.size R1 R2 1 = g1 := rfl
    have G2 : gath w3.heap.size g1 g2 w2.heap.size R1 R2 2 = g2 := rfl
    have G3 : gath w3.heap.size g1 g2 w2.heap.size R1 R2 3 = w2.heap.size := rfl
    have key : ∀ i, used M i → (i = 0 ∧ gath w3.heap.size g1 g2 w2.heap.size R1 R2 i = w3.heap.size) ∨ (i = 1 ∧ gath w3.heap.size g1 g2 w2.heap.size R1 R2 i = g1) ∨ (i = 2 ∧ gath w3.heap.size g1 g2 w2.heap.size R1 R2 i = g2) ∨ (i = 3 ∧ gath w3.heap.size g1 g2 w2.heap.size R1 R2 i = w2.heap.size) ∨
        (∃ m, m < M ∧ i = 4 + 2 * m ∧ gath w3.heap.size g1 g2 w2.heap.size R1 R2 i = R1 m) ∨ ∃ m, m < M ∧ i = 4 + (2 * m + 1) ∧ gath w3.heap.size g1 g2 w2.heap.size R1 R2 i = R2 m := fun i hi => by
      by_cases h0 : i = 0
      · subst h0; exact .inl ⟨rfl, G0⟩
      by_cases h1 : i = 1
      · subst h1; exact .inr (.inl ⟨rfl, G1⟩)
      by_cases h2 : i = 2
      · subst h2; exact .inr (.inr (.inl ⟨rfl, G2⟩))
      by_cases h3 : i = 3
      · subst h3; exact .inr (.inr (.inr (.inl ⟨rfl, G3⟩)))
      have hi4 : i < 4 + 2 * M := by
        rcases hi with e | e | ⟨_, e⟩
        · omega
        · omega
        · exact e
      by_cases hpar : i % 2 = 0
      · have e : i = 4 + 2 * ((i - 4) / 2) := by omega
        exact .inr (.inr (.inr (.inr (.inl ⟨(i - 4) / 2, by omega, e, by rw [e, gath_even]; congr 1; omega⟩))))
      · have e : i = 4 + (2 * ((i - 4) / 2) + 1) := by omega
        exact .inr (.inr (.inr (.inr (.inr ⟨(i - 4) / 2, by omega, e, by rw [e, gath_odd]; congr 1; omega⟩))))
    refine ⟨gath w3.heap.size g1 g2 w2.heap.size R1 R2, rfl, hobj, fun _ => ⟨e1, ?_⟩, fun _ => ⟨e2, ?_⟩, fun i hi => ⟨Nat.le_refl _, by unfold maxLen; omega, ints (mix Zc Zp i), ?_, fun j _ => rfl⟩, ⟨Nat.le_refl _, by unfold maxLen; omega, bools lf, hl.alloc _, fun j _ => rfl⟩, fun i hi => ?_, fun i j hi hj e => ?_⟩
    · exact (up1 t1).congr (fun m hm => by simp only [topC]; rw [gath_even])
    · exact (up2 t2).congr (fun m hm => by simp only [topP]; rw [gath_odd])
    · by_cases hpar : i % 2 = 0
      · obtain ⟨m, rfl⟩ : ∃ m, i = 2 * m := ⟨i / 2, by omega⟩
        rw [gath_even, mix_even]; exact up1 (r1 m (by omega)).2.2
      · obtain ⟨m, rfl⟩ : ∃ m, i = 2 * m + 1 := ⟨i / 2, by omega⟩
        rw [gath_odd, mix_odd]; exact up2 (r2 m (by omega)).2.2
    · rcases key i hi with ⟨_, e⟩ | ⟨_, e⟩ | ⟨_, e⟩ | ⟨_, e⟩ | ⟨m, hm, _, e⟩ | ⟨m, hm, _, e⟩
      · rw [e]; omega
      · rw [e]; omega
      · rw [e]; omega
      · rw [e]; omega
      · rw [e]; exact (r1 m hm).1
      · rw [e]; have := (r2 m hm).1; omega
    · rcases key i hi with ⟨x1, y1⟩ | ⟨x1, y1⟩ | ⟨x1, y1⟩ | ⟨x1, y1⟩ | ⟨m, hm, x1, y1⟩ | ⟨m, hm, x1, y1⟩ <;> rcases key j hj with ⟨x2, y2⟩ | ⟨x2, y2⟩ | ⟨x2, y2⟩ | ⟨x2, y2⟩ | ⟨m', hm', x2, y2⟩ | ⟨m', hm', x2, y2⟩ <;> rw [y1, y2] at e
      all_goals first
        | omega
        | (have q1 := lR1 m hm; have q2 := r1 m hm; omega)
        | (have q1 := lR1 m' hm'; have q2 := r1 m' hm'; omega)
        | (have q1 := lR2 m hm; have q2 := r2 m hm; omega)
        | (have q1 := lR2 m' hm'; have q2 := r2 m' hm'; omega)
        | (have := j1 m m' hm hm' e; omega)
        | (have := j2 m m' hm hm' e; omega)
        | (have q1 := lR1 m hm; have q2 := (r2 m' hm').1; omega)
        | (have q1 := lR1 m' hm'; have q2 := (r2 m hm).1; omega)
  · have hM0 : M = 0 := by omega
    subst hM0
    have G0 : gath w3.heap.size 0 0 w2.heap.size (fun _ => 0) (fun _ => 0) 0 = w3.heap.size := rfl
    have G3 : gath w3.heap.size 0 0 w2.heap.size (fun _ => 0) (fun _ => 0) 3 = w2.heap.size := rfl
    refine ⟨gath w3.heap.size 0 0 w2.heap.size (fun _ => 0) (fun _ => 0), rfl, hobj, fun h => by omega, fun h => by omega, fun i hi => by omega, ⟨Nat.le_refl _, by unfold maxLen; omega, bools lf, hl.alloc _, fun j _ => rfl⟩, fun i hi => ?_, fun i j hi hj e => ?_⟩
    · rcases hi with rfl | rfl | ⟨h, _⟩
      · rw [G0]; omega
      · rw [G3]; omega
      · omega
    · rcases hi with rfl | rfl | ⟨h, _⟩
      · rcases hj with rfl | rfl | ⟨h, _⟩
        · rfl
        · rw [G0, G3] at e; omega
        · omega
      · rcases hj with rfl | rfl | ⟨h, _⟩
        · rw [G0, G3] at e; omega
        · rfl
        · omega
      · omega
end Go.Proofs.Qxb6601170a
