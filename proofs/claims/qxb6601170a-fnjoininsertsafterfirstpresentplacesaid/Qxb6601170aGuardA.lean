/-
  SEAT b6601170a: THE GUARDS OF FnJoinScriptKeepsEveryLayerOneCycle: zzBytes (22), nestedBytes (10), scriptValid (23).
-/
import Derived.Test.Qxb6601170aBase
namespace Go.Proofs.Qxb6601170a
open Go.RowKit

set_option maxHeartbeats 400000 in
theorem zzb22 (x : Int) (a : Option Addr) (n c : Nat) (A : Nat → Option Addr) (L C : Nat → Nat) (w : World) (h : RowAt w a n (slices A L C)) (hn : n ≤ maxLen) (hls : ∀ r, r < n → L r ≤ maxLen) :
    Calls Try.prog 22 #[.int .i64 x, .slice a n c] w (Guards w (n ≤ 1048576 ∧ ∀ r, r < n → L r ≤ 1048576)) := by
  unfold maxLen at hn hls
  go_enter Try.func22, Try.ntmps22
  go_wp2
  all_goals try (go_ret; exact Guards.no _ _)
  go_loopg [5, 6] n (fun g s i wr => w = wr ∧ ∃ k z : Nat, k ≤ n ∧ g = n - k ∧ i = .int .i64 k ∧ s = .int .i64 z ∧ z ≤ 1048576 ∧ ∀ r, r < k → L r ≤ 1048576)
  case atStart => exact ⟨rfl, 0, n, Nat.zero_le _, rfl, rfl, rfl, by omega, fun r hr => by omega⟩
  case round =>
    obtain ⟨rfl, k, z, hk, rfl, rfl, rfl, hz, hl⟩ := hrel
    by_cases hlt : k < n
    · obtain ⟨b, off, rfl, hc⟩ := h (by omega)
      have hck : w.cell? ⟨b, off + k, none⟩ = some (.slice (A k) (L k) (C k)) := hc k hlt
      have hlk := hls k hlt
      clear hc h hls
      go_wp2
      all_goals try (go_ret; exact Guards.no _ _)
      go_roundg (n - (k + 1))
      case measure => omega
      case rel => exact ⟨rfl, k + 1, z + L k, by omega, rfl, by go_num, by go_num, by omega, fun r hr => by
        by_cases e : r = k
        · subst e; omega
        · exact hl r (by omega)⟩
    · go_wp2
      go_ret
      exact Guards.yes _ ⟨by omega, fun r hr => hl r (by omega)⟩

set_option maxHeartbeats 400000 in
theorem nested10 (a : Option Addr) (n c : Nat) (A : Nat → Option Addr) (L C : Nat → Nat) (w : World) (h : RowAt w a n (slices A L C)) (hn : n ≤ 1048576) (hls : ∀ r, r < n → L r ≤ 1048576) :
    Calls Try.prog 10 #[.slice a n c, .int .i64 1048576] w fun e w' => ∃ t : Int, e = .returned (.int .i64 t) ∧ w' = w ∧ 0 ≤ t ∧ t ≤ 1048577 := by
  go_enter Try.func10, Try.ntmps10
  go_wp2
  all_goals try (go_ret; exact ⟨_, rfl, rfl, by omega, by omega⟩)
  go_loopg [5, 6] n (fun g s i wr => w = wr ∧ ∃ k z : Nat, k ≤ n ∧ g = n - k ∧ i = .int .i64 k ∧ s = .int .i64 z ∧ z ≤ 1048576)
  case atStart => exact ⟨rfl, 0, 24 * n, Nat.zero_le _, rfl, rfl, by go_num, by omega⟩
  case round =>
    obtain ⟨rfl, k, z, hk, rfl, rfl, rfl, hz⟩ := hrel
    by_cases hlt : k < n
    · obtain ⟨b, off, rfl, hc⟩ := h (by omega)
      have hck : w.cell? ⟨b, off + k, none⟩ = some (.slice (A k) (L k) (C k)) := hc k hlt
      have hlk := hls k hlt
      clear hc h hls
      go_wp2
      all_goals try (go_ret; exact ⟨_, rfl, rfl, by omega, by omega⟩)
      go_roundg (n - (k + 1))
      case measure => omega
      case rel => exact ⟨rfl, k + 1, z + 8 * L k, by omega, rfl, by go_num, by go_num, by omega⟩
    · go_wp2
      go_ret
      exact ⟨_, rfl, rfl, by omega, by omega⟩

/-- What scriptValid lets by. -/
def Script (M n : Nat) (L : Nat → Nat) (Z : Nat → Nat → Int) : Prop := ∀ j, j < n → M ≤ L j ∧ ∀ m, m < M → 0 ≤ Z j m ∧ Z j m ≤ j

set_option maxHeartbeats 400000 in
theorem script23 (M : Nat) (hM : M ≤ 65536) (a : Option Addr) (n c : Nat) (A : Nat → Option Addr) (L C : Nat → Nat) (Z : Nat → Nat → Int) (w : World) (h : Rows2 w a n A L C Z) (hn : n ≤ 1048576) (hls : ∀ r, r < n → L r ≤ 1048576) :
    Calls Try.prog 23 #[.int .i64 M, .slice a n c] w (Guards w (Script M n L Z)) := by
  go_enter Try.func23, Try.ntmps23
  go_wp2
  go_loopg [5] n (fun g i wr => w = wr ∧ ∃ k : Nat, k ≤ n ∧ g = n - k ∧ i = .int .i64 k ∧ Script M k L Z)
  case atStart => exact ⟨rfl, 0, Nat.zero_le _, rfl, rfl, fun r hr => by omega⟩
  case round =>
    obtain ⟨rfl, k, hk, rfl, rfl, hS⟩ := hrel
    by_cases hlt : k < n
    · obtain ⟨b, off, rfl, hc⟩ := h.top (by omega)
      have hck : w.cell? ⟨b, off + k, none⟩ = some (.slice (A k) (L k) (C k)) := hc k hlt
      have hlk := hls k hlt
      have hrow := h.rows k hlt
      clear hc h hls
      have HS : Hid (Script M k L Z) := hS
      clear hS
      by_cases hLM : L k < M
      · go_wp2
        go_ret
        exact Guards.no _ _
      go_wp2
      go_loopg [6] M (fun g i wr => w = wr ∧ ∃ m : Nat, m ≤ M ∧ g = M - m ∧ i = .int .i64 m ∧ ∀ q, q < m → 0 ≤ Z k q ∧ Z k q ≤ k)
      case atStart => exact ⟨rfl, 0, Nat.zero_le _, rfl, rfl, fun r hr => by omega⟩
      case round =>
        obtain ⟨rfl, m, hm, rfl, rfl, hq⟩ := hrel
        have HQ : Hid (∀ q, q < m → 0 ≤ Z k q ∧ Z k q ≤ k) := hq
        clear hq
        by_cases hmt : m < M
        · obtain ⟨b', off', hA, hc⟩ := hrow (by omega)
          rw [hA] at hck
          have hcm : w.cell? ⟨b', off' + m, none⟩ = some (.int .i64 (Z k m)) := hc m (by omega)
          clear hA hc hrow
          by_cases h0 : Z k m < 0
          · go_wp2
            go_ret
            exact Guards.no _ _
          · by_cases h1 : (k : Int) < Z k m
            · go_wp2
              go_ret
              exact Guards.no _ _
            · go_wp2
              go_roundg (M - (m + 1))
              case measure => omega
              case rel => exact ⟨rfl, m + 1, by omega, rfl, by go_num, fun q hq => by
                by_cases e : q = m
                · subst e; omega
                · exact HQ.out q (by omega)⟩
        · go_wp2
          go_roundg (n - (k + 1))
          case measure => omega
          case rel => exact ⟨rfl, k + 1, by omega, rfl, by go_num, fun j hj => by
            by_cases e : j = k
            · subst e; exact ⟨by omega, fun q hq => HQ.out q (by omega)⟩
            · exact HS.out j (by omega)⟩
    · go_wp2
      go_ret
      have : k = n := by omega
      subst this
      exact Guards.yes _ hS
end Go.Proofs.Qxb6601170a
