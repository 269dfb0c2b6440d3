/-
  SEAT b6601228a: zzBytes (7, 12, 15), zzClone (8).
-/
import Derived.Test.Qxb6601228aBase
namespace Go.Proofs.Qxb6601228a
open Go.RowKit Go.Deep
set_option linter.unusedVariables false

set_option maxHeartbeats 400000 in
theorem zzb7 (x y : Int) (a : Option Addr) (n c : Nat) (w : World) (hn : n ≤ maxLen) : Calls Try.prog 7 #[.int .i64 x, .slice a n c, .int .i64 y] w (Guards w (n ≤ 1048576)) := by
  unfold maxLen at hn
  go_enter Try.func7, Try.ntmps7
  go_wp2
  all_goals try (go_ret; exact Guards.no _ _)
  go_loopg [7, 8] n (fun g s i wr => w = wr ∧ ∃ k z : Nat, k ≤ n ∧ g = n - k ∧ i = .int .i64 k ∧ s = .int .i64 z ∧ (z : Int) ≤ 1048576)
  case atStart => exact ⟨rfl, 0, n, Nat.zero_le _, rfl, rfl, rfl, by omega⟩
  case round =>
    obtain ⟨rfl, k, z, hk, rfl, rfl, rfl, hz⟩ := hrel
    clear hn
    by_cases hlt : k < n
    · by_cases hz2 : (z : Int) + 16 ≤ 1048576
      · have e1 : wrap64 ((z : Int) + 16) = (z : Int) + 16 := by unfold wrap64; omega
        have e2 : ¬ (1048576 : Int) < (z : Int) + 16 := by omega
        clear hz hz2
        go_wp2
        go_roundg (n - (k + 1))
        case measure => omega
        case rel => exact ⟨rfl, k + 1, z + 16, by omega, rfl, by go_num, by go_num, by omega⟩
      · have e1 : wrap64 ((z : Int) + 16) = (z : Int) + 16 := by unfold wrap64; omega
        have e2 : (1048576 : Int) < (z : Int) + 16 := by omega
        clear hz hz2
        go_wp2
        go_ret
        exact Guards.no _ _
    · clear hz
      go_wp2
      go_ret
      exact Guards.yes _ (by omega)
set_option maxHeartbeats 400000 in
theorem zzb12 (x y : Int) (a : Option Addr) (n c : Nat) (w : World) (hn : n ≤ maxLen) : Calls Try.prog 12 #[.int .i64 x, .slice a n c, .int .i64 y] w (Guards w (n ≤ 1048576)) := by
  unfold maxLen at hn
  go_enter Try.func12, Try.ntmps12
  go_wp2
  all_goals try (go_ret; exact Guards.no _ _)
  go_loopg [7, 8] n (fun g s i wr => w = wr ∧ ∃ k z : Nat, k ≤ n ∧ g = n - k ∧ i = .int .i64 k ∧ s = .int .i64 z ∧ (z : Int) ≤ 1048576)
  case atStart => exact ⟨rfl, 0, n, Nat.zero_le _, rfl, rfl, rfl, by omega⟩
  case round =>
    obtain ⟨rfl, k, z, hk, rfl, rfl, rfl, hz⟩ := hrel
    clear hn
    by_cases hlt : k < n
    · by_cases hz2 : (z : Int) + 16 ≤ 1048576
      · have e1 : wrap64 ((z : Int) + 16) = (z : Int) + 16 := by unfold wrap64; omega
        have e2 : ¬ (1048576 : Int) < (z : Int) + 16 := by omega
        clear hz hz2
        go_wp2
        go_roundg (n - (k + 1))
        case measure => omega
        case rel => exact ⟨rfl, k + 1, z + 16, by omega, rfl, by go_num, by go_num, by omega⟩
      · have e1 : wrap64 ((z : Int) + 16) = (z : Int) + 16 := by unfold wrap64; omega
        have e2 : (1048576 : Int) < (z : Int) + 16 := by omega
        clear hz hz2
        go_wp2
        go_ret
        exact Guards.no _ _
    · clear hz
      go_wp2
      go_ret
      exact Guards.yes _ (by omega)
set_option maxHeartbeats 400000 in
theorem zzb15 (x y z : Int) (a : Option Addr) (n c : Nat) (w : World) (hn : n ≤ maxLen) : Calls Try.prog 15 #[.int .i64 x, .slice a n c, .int .i64 y, .int .i64 z] w (Guards w (n ≤ 1048576)) := by
  unfold maxLen at hn
  go_enter Try.func15, Try.ntmps15
  go_wp2
  all_goals try (go_ret; exact Guards.no _ _)
  go_loopg [9, 10] n (fun g s i wr => w = wr ∧ ∃ k z : Nat, k ≤ n ∧ g = n - k ∧ i = .int .i64 k ∧ s = .int .i64 z ∧ (z : Int) ≤ 1048576)
  case atStart => exact ⟨rfl, 0, n, Nat.zero_le _, rfl, rfl, rfl, by omega⟩
  case round =>
    obtain ⟨rfl, k, z, hk, rfl, rfl, rfl, hz⟩ := hrel
    clear hn
    by_cases hlt : k < n
    · by_cases hz2 : (z : Int) + 16 ≤ 1048576
      · have e1 : wrap64 ((z : Int) + 16) = (z : Int) + 16 := by unfold wrap64; omega
        have e2 : ¬ (1048576 : Int) < (z : Int) + 16 := by omega
        clear hz hz2
        go_wp2
        go_roundg (n - (k + 1))
        case measure => omega
        case rel => exact ⟨rfl, k + 1, z + 16, by omega, rfl, by go_num, by go_num, by omega⟩
      · have e1 : wrap64 ((z : Int) + 16) = (z : Int) + 16 := by unfold wrap64; omega
        have e2 : (1048576 : Int) < (z : Int) + 16 := by omega
        clear hz hz2
        go_wp2
        go_ret
        exact Guards.no _ _
    · clear hz
      go_wp2
      go_ret
      exact Guards.yes _ (by omega)
set_option maxHeartbeats 400000 in
theorem clone8 (x : Addr) (n c : Nat) (P : Nat → List UInt8) (w : World) (h : PepsAt w (some x) n P) (hP : ∀ i, i < n → (P i).length = 16) (hn : n ≤ 65536) :
    Calls Try.prog 8 #[.slice (some x) n c] w fun e w' => e = .returned (.slice (some ⟨w.heap.size, 0, none⟩) n n) ∧ Below w.heap.size w w' ∧ w'.heap.size = w.heap.size + 1 ∧ Peps w' w.heap.size 27 n n P := by
  have hmk := make16 22 27 Try.underlying22 Try.info27 n hn
  have q22 : ∀ (w : World) (a : Option Addr) (n c n' c' : Nat), (binOp .eql 22 (.slice a n c) (.slice none n' c')).run Try.prog w = .ok (.bool a.isNone) w := fun w a n c n' c' => Lib.run_eql_slice_nil w _ _ a n c n' c' Try.underlying22
  go_enter Try.func8, Try.ntmps8
  go_wp2
  clear hmk q22
  go_loopg [4] n (fun g i wr => ∃ k : Nat, k ≤ n ∧ g = n - k ∧ i = .int .i64 k ∧ Below w.heap.size w wr ∧ wr.heap.size = w.heap.size + 1 ∧ Peps wr w.heap.size 27 n k P)
  case atStart => exact ⟨0, Nat.zero_le _, rfl, rfl, (Below.refl _ _).alloc (Nat.le_refl _) _, by simp, peps_made w 27 n P⟩
  case round =>
    obtain ⟨k, hk, rfl, rfl, hB, hs, hr⟩ := hrel
    by_cases hlt : k < n
    · obtain ⟨b, off, hx, hc⟩ := h (by omega)
      cases hx
      have hrg : wr.rangeAt b (off + k * 16) (pc (P k)) := rangeAt_block (hc k hlt) (hB.block b (rangeAt_lt (hc k hlt) (hP k hlt)))
      have hpk := hP k hlt
      have hth : wr.there w.heap.size (k * 16) (pc (P k)).toArray.size := hr.there (by rw [List.size_toArray, pc_length, hpk]; omega)
      have HS : Hid (wr.heap.size = w.heap.size + 1) := hs
      clear hc h hs
      go_wp2_with (first
        | (refine wpList_load_mid (by rfl) 27 _ (by rfl) b (off + k * 16) (by rfl) (pc (P k)) _ hrg Try.underlying27 rfl (size27 hpk) ?_)
        | (refine wpList_store_mid (by rfl) 27 _ _ (by rfl) w.heap.size (k * 16) (pc (P k)).toArray (by rfl) (by rfl) hth (size27' hpk) (all_oneCell_toArray (pc_one _)) ?_))
      go_roundg (n - (k + 1))
      case measure => omega
      case rel => exact ⟨k + 1, by omega, rfl, by go_num, below_setCells hB (Nat.le_refl _) _ _, by rw [setCells_size]; exact HS.out, hr.step hlt hP⟩
    · go_wp2
      go_ret
      have : k = n := by omega
      subst this
      exact ⟨rfl, hB, hs, hr⟩
/-- A nil slice is its own clone. -/
theorem clone8_nil (n c : Nat) (w : World) : Calls Try.prog 8 #[.slice none n c] w fun e w' => e = .returned (.slice none 0 0) ∧ w' = w := by
  have q22 : ∀ (w : World) (a : Option Addr) (n c n' c' : Nat), (binOp .eql 22 (.slice a n c) (.slice none n' c')).run Try.prog w = .ok (.bool a.isNone) w := fun w a n c n' c' => Lib.run_eql_slice_nil w _ _ a n c n' c' Try.underlying22
  go_enter Try.func8, Try.ntmps8
  go_wp2
  go_ret
  exact ⟨rfl, rfl⟩

end Go.Proofs.Qxb6601228a
