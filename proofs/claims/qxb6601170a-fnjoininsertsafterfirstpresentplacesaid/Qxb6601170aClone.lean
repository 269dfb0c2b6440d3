/-
  SEAT b6601170a: THE CLONES: cloneInts (15), cloneBools (14), cloneInts2 (13).
-/
import Derived.Test.Qxb6601170aBase
namespace Go.Proofs.Qxb6601170a
open Go.RowKit

set_option maxHeartbeats 400000 in
theorem cloneInts_nil (n c : Nat) (w : World) :
    Calls Try.prog 15 #[.slice none n c] w fun e w' => e = .returned (.slice none 0 0) ∧ w' = w := by
  have q24 : ∀ (w : World) (a : Option Addr) (n c n' c' : Nat), (binOp .eql 24 (.slice a n c) (.slice none n' c')).run Try.prog w = .ok (.bool a.isNone) w := fun w a n c n' c' => Lib.run_eql_slice_nil w _ _ a n c n' c' Try.underlying24
  go_enter Try.func15, Try.ntmps15
  go_wp2
  go_ret
  exact ⟨rfl, rfl⟩

set_option maxHeartbeats 400000 in
theorem cloneInts_some (x : Addr) (n c : Nat) (z : Nat → Int) (w : World) (hz : RowAt w (some x) n (ints z)) (hn : n ≤ 1048576) :
    Calls Try.prog 15 #[.slice (some x) n c] w fun e w' => e = .returned (.slice (some ⟨w.heap.size, 0, none⟩) n n) ∧ Below w.heap.size w w' ∧ w'.heap.size = w.heap.size + 1 ∧ w'.rowIs w.heap.size 3 n (ints z) := by
  have hmk := run_make_row' (P := Try.prog) 24 3 (.int .i64 0) 8 Try.underlying24 Try.info3 rfl .i64 .i64 n (by omega) (by omega)
  have q24 : ∀ (w : World) (a : Option Addr) (n c n' c' : Nat), (binOp .eql 24 (.slice a n c) (.slice none n' c')).run Try.prog w = .ok (.bool a.isNone) w := fun w a n c n' c' => Lib.run_eql_slice_nil w _ _ a n c n' c' Try.underlying24
  go_enter Try.func15, Try.ntmps15
  go_wp2
  clear hmk q24
  go_loopg [4] n (fun g i wr => ∃ k : Nat, k ≤ n ∧ g = n - k ∧ i = .int .i64 k ∧ Below w.heap.size w wr ∧ wr.heap.size = w.heap.size + 1 ∧ wr.rowIs w.heap.size 3 n (fill (ints z) (.int .i64 0) k))
  case atStart => exact ⟨0, Nat.zero_le _, rfl, rfl, (Below.refl _ _).alloc (Nat.le_refl _) _, by simp, (World.rowIs_made w _ n 3).congr (fun i hi => fill_zero _ _ _)⟩
  case round =>
    obtain ⟨k, hk, rfl, rfl, hB, hs, hr⟩ := hrel
    by_cases hlt : k < n
    · obtain ⟨b, off, hx, hc⟩ := hz (by omega)
      cases hx
      have hck : wr.cell? ⟨b, off + k, none⟩ = some (.int .i64 (z k)) := by
        rw [hB.cell (World.block_lt_of_cell? _ _ (hc k hlt))]; exact hc k hlt
      have hfk := hr.frozen k
      obtain ⟨v, hv⟩ : ∃ v, wr.cell? ⟨w.heap.size, k, none⟩ = some v := ⟨_, hr.cell hlt⟩
      clear hc hz
      go_wp2
      go_roundg (n - (k + 1))
      case measure => omega
      case rel => exact ⟨k + 1, by omega, rfl, by go_num, hB.setCell (Nat.le_refl _) _, by simp [hs], (hr.set k _).congr (fun i hi => fill_succ (ints z) _ k i)⟩
    · go_wp2
      go_ret
      have : k = n := by omega
      subst this
      exact ⟨rfl, hB, hs, hr.congr (fun i hi => fill_full _ _ hi)⟩

set_option maxHeartbeats 400000 in
theorem cloneBools_some (x : Addr) (n c : Nat) (z : Nat → Bool) (w : World) (hz : RowAt w (some x) n (bools z)) (hn : n ≤ 1048576) :
    Calls Try.prog 14 #[.slice (some x) n c] w fun e w' => e = .returned (.slice (some ⟨w.heap.size, 0, none⟩) n n) ∧ Below w.heap.size w w' ∧ w'.heap.size = w.heap.size + 1 ∧ w'.rowIs w.heap.size 4 n (bools z) := by
  have hmk := run_make_row' (P := Try.prog) 23 4 (.bool false) 1 Try.underlying23 Try.info4 rfl .i64 .i64 n (by omega) (by omega)
  have q23 : ∀ (w : World) (a : Option Addr) (n c n' c' : Nat), (binOp .eql 23 (.slice a n c) (.slice none n' c')).run Try.prog w = .ok (.bool a.isNone) w := fun w a n c n' c' => Lib.run_eql_slice_nil w _ _ a n c n' c' Try.underlying23
  go_enter Try.func14, Try.ntmps14
  go_wp2
  clear hmk q23
  go_loopg [4] n (fun g i wr => ∃ k : Nat, k ≤ n ∧ g = n - k ∧ i = .int .i64 k ∧ Below w.heap.size w wr ∧ wr.heap.size = w.heap.size + 1 ∧ wr.rowIs w.heap.size 4 n (fill (bools z) (.bool false) k))
  case atStart => exact ⟨0, Nat.zero_le _, rfl, rfl, (Below.refl _ _).alloc (Nat.le_refl _) _, by simp, (World.rowIs_made w _ n 4).congr (fun i hi => fill_zero _ _ _)⟩
  case round =>
    obtain ⟨k, hk, rfl, rfl, hB, hs, hr⟩ := hrel
    by_cases hlt : k < n
    · obtain ⟨b, off, hx, hc⟩ := hz (by omega)
      cases hx
      have hck : wr.cell? ⟨b, off + k, none⟩ = some (.bool (z k)) := by
        rw [hB.cell (World.block_lt_of_cell? _ _ (hc k hlt))]; exact hc k hlt
      have hfk := hr.frozen k
      obtain ⟨v, hv⟩ : ∃ v, wr.cell? ⟨w.heap.size, k, none⟩ = some v := ⟨_, hr.cell hlt⟩
      clear hc hz
      go_wp2
      go_roundg (n - (k + 1))
      case measure => omega
      case rel => exact ⟨k + 1, by omega, rfl, by go_num, hB.setCell (Nat.le_refl _) _, by simp [hs], (hr.set k _).congr (fun i hi => fill_succ (bools z) _ k i)⟩
    · go_wp2
      go_ret
      have : k = n := by omega
      subst this
      exact ⟨rfl, hB, hs, hr.congr (fun i hi => fill_full _ _ hi)⟩

/-- THE ROWS OF A CLONE OF A SLICE OF SLICES: each nil where the old one was, else a block of its own beyond B. -/
structure Own2 (B : Nat) (w : World) (k : Nat) (A A' : Nat → Option Addr) (L C' : Nat → Nat) (Z : Nat → Nat → Int) : Prop where
  row : ∀ r, r < k → (A r = none ∧ A' r = none ∧ C' r = 0) ∨ ∃ g, (∃ x, A r = some x) ∧ A' r = some ⟨g, 0, none⟩ ∧ C' r = L r ∧ B < g ∧ g < w.heap.size ∧ w.rowIs g 3 (L r) (ints (Z r))
  inj : ∀ r s, r < k → s < k → r ≠ s → A' r = A' s → A' r = none

theorem Own2.blocks {B k : Nat} {w w' : World} {A A' : Nat → Option Addr} {L C' : Nat → Nat} {Z : Nat → Nat → Int} (h : Own2 B w k A A' L C' Z) (hs : w.heap.size ≤ w'.heap.size) (hb : ∀ g, B < g → g < w.heap.size → w'.heap[g]? = w.heap[g]?) : Own2 B w' k A A' L C' Z :=
  ⟨fun r hr => by
    rcases h.row r hr with h0 | ⟨g, hx, h1, h2, h3, h4, h5⟩
    · exact .inl h0
    · exact .inr ⟨g, hx, h1, h2, h3, by omega, h5.of_block (hb g h3 h4)⟩, h.inj⟩

/-- One row more, nil. -/
theorem Own2.more_nil {B k : Nat} {w : World} {A A' : Nat → Option Addr} {L C' : Nat → Nat} {Z : Nat → Nat → Int} (h : Own2 B w k A A' L C' Z) (hk : A k = none) :
    Own2 B w (k + 1) A (fun r => if r = k then none else A' r) L (fun r => if r = k then 0 else C' r) Z := by
  refine ⟨fun r hr => ?_, fun r s hr hs hne e => ?_⟩
  · by_cases e : r = k
    · subst e; exact .inl ⟨hk, by simp, by simp⟩
    · simpa [e] using h.row r (by omega)
  · by_cases e1 : r = k
    · simp [e1]
    · by_cases e2 : s = k
      · rw [if_neg e1, if_pos e2] at e
        rw [if_neg e1]; exact e
      · simp [e1, e2] at e ⊢; exact h.inj r s (by omega) (by omega) hne e

/-- One row more, in a new block. -/
theorem Own2.more_new {B k : Nat} {w w' : World} {A A' : Nat → Option Addr} {L C' : Nat → Nat} {Z : Nat → Nat → Int} (h : Own2 B w k A A' L C' Z) (hs : w.heap.size < w'.heap.size) (hb : ∀ g, B < g → g < w.heap.size → w'.heap[g]? = w.heap[g]?) (hB : B < w.heap.size)
    (hx : ∃ x, A k = some x) (hr : w'.rowIs w.heap.size 3 (L k) (ints (Z k))) :
    Own2 B w' (k + 1) A (fun r => if r = k then some ⟨w.heap.size, 0, none⟩ else A' r) L (fun r => if r = k then L k else C' r) Z := by
  have old := h.blocks (Nat.le_of_lt hs) hb
  refine ⟨fun r hr' => ?_, fun r s hr hs hne e => ?_⟩
  · by_cases e : r = k
    · subst e; exact .inr ⟨w.heap.size, hx, by simp, by simp, hB, hs, hr⟩
    · simpa [e] using old.row r (by omega)
  · have nw : ∀ q, q < k → A' q ≠ some ⟨w.heap.size, 0, none⟩ := fun q hq eq => by
      rcases h.row q hq with ⟨_, h2, _⟩ | ⟨g, _, h2, _, _, h5, _⟩
      · rw [h2] at eq; cases eq
      · rw [h2] at eq
        cases eq
        omega
    by_cases e1 : r = k
    · have e2 : s ≠ k := fun e2 => hne (e1.trans e2.symm)
      simp [e1, e2] at e; exact absurd e.symm (nw s (by omega))
    · by_cases e2 : s = k
      · simp [e1, e2] at e; exact absurd e (nw r (by omega))
      · simp [e1, e2] at e ⊢; exact h.inj r s (by omega) (by omega) hne e

set_option maxHeartbeats 400000 in
theorem cloneInts2_nil (n c : Nat) (w : World) :
    Calls Try.prog 13 #[.slice none n c] w fun e w' => e = .returned (.slice none 0 0) ∧ w' = w := by
  have q22 : ∀ (w : World) (a : Option Addr) (n c n' c' : Nat), (binOp .eql 22 (.slice a n c) (.slice none n' c')).run Try.prog w = .ok (.bool a.isNone) w := fun w a n c n' c' => Lib.run_eql_slice_nil w _ _ a n c n' c' Try.underlying22
  go_enter Try.func13, Try.ntmps13
  go_wp2
  go_ret
  exact ⟨rfl, rfl⟩

set_option maxHeartbeats 400000 in
theorem cloneInts2_some (x : Addr) (n c : Nat) (A : Nat → Option Addr) (L C : Nat → Nat) (Z : Nat → Nat → Int) (w : World) (hz : Rows2 w (some x) n A L C Z) (hn : n ≤ 1048576) (hL : ∀ r, r < n → L r ≤ 1048576) (hnil : ∀ r, r < n → A r = none → L r = 0) :
    Calls Try.prog 13 #[.slice (some x) n c] w fun e w' => e = .returned (.slice (some ⟨w.heap.size, 0, none⟩) n n) ∧ Below w.heap.size w w' ∧ w.heap.size < w'.heap.size ∧
      ∃ A' C', w'.rowIs w.heap.size 24 n (slices A' L C') ∧ Own2 w.heap.size w' n A A' L C' Z := by
  have hmk := run_make_row' (P := Try.prog) 22 24 (.slice none 0 0) 24 Try.underlying22 Try.info24 rfl .i64 .i64 n (by omega) (by omega)
  have q22 : ∀ (w : World) (a : Option Addr) (n c n' c' : Nat), (binOp .eql 22 (.slice a n c) (.slice none n' c')).run Try.prog w = .ok (.bool a.isNone) w := fun w a n c n' c' => Lib.run_eql_slice_nil w _ _ a n c n' c' Try.underlying22
  go_enter Try.func13, Try.ntmps13
  go_wp2
  clear hmk q22
  go_loopg [4] n (fun g i wr => ∃ k : Nat, k ≤ n ∧ g = n - k ∧ i = .int .i64 k ∧ Below w.heap.size w wr ∧ w.heap.size < wr.heap.size ∧ ∃ A' C', wr.rowIs w.heap.size 24 n (fill (slices A' L C') (.slice none 0 0) k) ∧ Own2 w.heap.size wr k A A' L C' Z)
  case atStart => exact ⟨0, Nat.zero_le _, rfl, rfl, (Below.refl _ _).alloc (Nat.le_refl _) _, by simp, fun _ => none, fun _ => 0, (World.rowIs_made w _ n 24).congr (fun i hi => fill_zero _ _ _), fun r hr => by omega, fun r s hr => by omega⟩
  case round =>
    obtain ⟨k, hk, rfl, rfl, hB, hs, A', C', hr, hO⟩ := hrel
    by_cases hlt : k < n
    · obtain ⟨b, off, hx, hc⟩ := hz.top (by omega)
      cases hx
      have hbel : Below w.heap.size w wr := hB
      have hck : wr.cell? ⟨b, off + k, none⟩ = some (.slice (A k) (L k) (C k)) := by
        rw [hB.cell (World.block_lt_of_cell? _ _ (hc k hlt))]; exact hc k hlt
      have hrow : RowAt wr (A k) (L k) (ints (Z k)) := (hz.rows k hlt).below hB
      have hfk := hr.frozen k
      obtain ⟨v, hv⟩ : ∃ v, wr.cell? ⟨w.heap.size, k, none⟩ = some v := ⟨_, hr.cell hlt⟩
      have hLk := hL k hlt
      have hnk := hnil k hlt
      clear hc hz hL hnil
      cases hA : A k with
      | none =>
        have hL0 := hnk hA
        rw [hA] at hck hrow
        clear hnk
        have HA : Hid (A k = none) := hA
        have HL : Hid (L k = 0) := hL0
        clear hA hL0
        go_wp2_with (go_at_call 15; refine (cloneInts_nil _ _ _).mono ?_; rintro e w' ⟨rfl, rfl⟩)
        go_roundg (n - (k + 1))
        case measure => omega
        case rel =>
          refine ⟨k + 1, by omega, rfl, by go_num, hB.setCell (Nat.le_refl _) _, by simpa using hs, _, _, (hr.set k _).congr (fun i hi => ?_), (hO.more_nil HA.out).blocks (by simp) (fun g h1 _ => Below.heap_setCell _ _ _ _ (by show g ≠ w.heap.size; omega))⟩
          rw [← fill_succ]
          by_cases e : i = k
          · subst e; simp [slices, HL.out]
          · simp only [if_neg e, fill, slices]
      | some y =>
        rw [hA] at hck hrow
        clear hnk
        have HA : Hid (A k = some y) := hA
        clear hA
        go_wp2_with fail
        refine (cloneInts_some _ _ _ _ _ hrow hLk).mono ?_
        rintro e w' ⟨rfl, hb', hs', hr'⟩
        have hv' : w'.cell? ⟨w.heap.size, k, none⟩ = some v := by rw [hb'.cell (by exact hs)]; exact hv
        have hf' : w'.frozen? ⟨w.heap.size, k, none⟩ = false := by rw [hb'.frozen (by exact hs)]; exact hfk
        clear hck hrow
        go_wp2
        go_roundg (n - (k + 1))
        case measure => omega
        case rel =>
          refine ⟨k + 1, by omega, rfl, by go_num, (hB.trans (hb'.mono (by omega))).setCell (Nat.le_refl _) _, by simp [hs']; omega, _, _, ((hr.of_block (hb'.block _ hs)).set k _).congr (fun i hi => ?_),
            (hO.more_new (by omega) (fun g _ h2 => hb'.block g h2) hs ⟨y, HA.out⟩ hr').blocks (by simp) (fun g h1 _ => Below.heap_setCell _ _ _ _ (by show g ≠ w.heap.size; omega))⟩
          rw [← fill_succ]
          by_cases e : i = k
          · subst e; simp [slices]
          · simp only [if_neg e, fill, slices]
    · go_wp2
      go_ret
      have : k = n := by omega
      subst this
      exact ⟨rfl, hB, hs, A', C', hr.congr (fun i hi => fill_full _ _ hi), hO⟩

end Go.Proofs.Qxb6601170a
