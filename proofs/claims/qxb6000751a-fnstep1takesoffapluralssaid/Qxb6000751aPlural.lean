/-
  SEAT b6000751a: ZZStep1 (19), sameBytes (20), zzBytes (22), hasTail (23).
-/
import Derived.Test.Qxb6000751aStep
import Derived.Test.Qxb6000751aModel
namespace Go.Proofs.Qxb6000751a
open Go.RowKit Go.Deep
set_option linter.unusedVariables false

def step1 (l : List Int) : List Int := step1c (step1b (step1a l))
def ZZPost (b c : Nat) (l : List Int) (w : World) (e : Ending) (w' : World) : Prop :=
  e = .returned (.slice (some ⟨b, 0, none⟩) (step1 l).length c) ∧ RowAt w' (some ⟨b, 0, none⟩) (step1 l).length (u8s (lz (step1 l))) ∧ (step1 l).length ≤ c ∧ Kept b b w w'

set_option maxHeartbeats 400000 in
theorem zz19 {w : World} {b c : Nat} {l : List Int} {f : Nat → Value} (hr : w.rowIs b 5 c f) (hle : l.length ≤ c) (hf : ∀ i, i < l.length → f i = .int .u8 (lz l i)) (hc : c ≤ 1048576) :
    Calls Try.prog 19 #[.slice (some ⟨b, 0, none⟩) l.length c] w (ZZPost b c l w) := by
  obtain ⟨w1, hw1⟩ : ∃ w1, w.alloc (.cells #[.slice (some ⟨b, 0, none⟩) l.length c] 41) = w1 := ⟨_, rfl⟩
  have hO : SOb w1 w.heap.size (some ⟨b, 0, none⟩) l.length c := hw1 ▸ blk_alloc_new _ _
  have hW : Wd w1 w.heap.size b c l := ⟨hO, fun e => absurd hr.lt (by omega), hle, f, hw1 ▸ hr.alloc _, hf⟩
  have hK : Kept b b w w1 := hw1 ▸ (Kept.refl b b w).alloc _
  have hlt : w.heap.size < w1.heap.size := hO.lt
  have H := step34 hW hc
  go_enter Try.func19, Try.ntmps19
  go_wp2_with fail
  clear hw1
  refine H.mono ?_
  rintro e w2 ⟨rfl, hW2, hK2⟩
  clear H
  obtain ⟨l2, hl2⟩ : ∃ l2, step1c (step1b (step1a l)) = l2 := ⟨_, rfl⟩
  have HL : Hid (step1 l = l2) := hl2
  rw [hl2] at hW2
  clear hl2
  have h0 := hW2.ob.c0
  go_wp2
  go_ret
  refine ⟨by rw [HL.out]; rfl, by rw [HL.out]; exact hW2.at, by rw [HL.out]; exact hW2.le, ?_⟩
  exact ⟨hK2.os.trans hK.os, hK2.tape.trans hK.tape, hK2.output.trans hK.output, Nat.le_trans hK.size hK2.size, fun i hi h1 h2 => (hK2.block i (by omega) (by omega) h1).trans (hK.block i hi h1 h2)⟩

theorem zzb22 (a : Option Addr) (n c : Nat) (w : World) (hn : n ≤ maxLen) : Calls Try.prog 22 #[.slice a n c] w (Guards w (n ≤ 1048576)) := by
  unfold maxLen at hn
  by_cases h : (1048576 : Int) < (n : Int)
  · go_enter Try.func22, Try.ntmps22
    go_wp2
    go_ret
    exact Guards.no _ _
  · go_enter Try.func22, Try.ntmps22
    go_wp2
    go_ret
    exact Guards.yes _ (by omega)

def SamePost (w : World) (e : Ending) (w' : World) : Prop := e = .returned (.bool true) ∧ ∃ q, w' = w.drewN q
set_option maxRecDepth 100000 in
set_option maxHeartbeats 1000000 in
theorem same20 (a1 a2 : Option Addr) (n c1 c2 : Nat) (z : Nat → Int) (w : World) (h1 : RowAt w a1 n (u8s z)) (h2 : RowAt w a2 n (u8s z)) (hn : n ≤ 1048576) :
    Calls Try.prog 20 #[.slice a1 n c1, .slice a2 n c2] w (SamePost w) := by
  go_enter Try.func20, Try.ntmps20
  go_wp2_with fail
  go_loopg [5] n (fun g s wr => ∃ k q : Nat, wr = w.drewN q ∧ k ≤ n ∧ g = n - k ∧ s = .int .i64 k)
  case atStart => exact ⟨0, 0, rfl, Nat.zero_le _, rfl, rfl⟩
  case round =>
    obtain ⟨k, q, rfl, hk, rfl, rfl⟩ := hrel
    by_cases hlt : k < n
    · obtain ⟨b1, o1, x1, hc1⟩ := h1 (by omega)
      obtain ⟨b2, o2, x2, hc2⟩ := h2 (by omega)
      have g1 : w.cell? ⟨b1, o1 + k, none⟩ = some (.int .u8 (z k)) := hc1 k hlt
      have g2 : w.cell? ⟨b2, o2 + k, none⟩ = some (.int .u8 (z k)) := hc2 k hlt
      have X1 : Hid (a1 = some ⟨b1, o1, none⟩) := x1
      have X2 : Hid (a2 = some ⟨b2, o2, none⟩) := x2
      have i1 : (k : Int) < (n : Int) := by omega
      clear x1 x2 hc1 hc2 h1 h2
      obtain rfl := X1.out
      obtain rfl := X2.out
      go_wp2_with fail
      go_quiet (fail)
      go_wp2_with fail
      go_roundg (n - (k + 1))
      case measure => omega
      case rel => exact ⟨k + 1, _, rfl, by omega, rfl, by go_num⟩
    · go_wp2
      go_ret
      exact ⟨rfl, q, rfl⟩

/-- hasTail: where it says no, the word does not end in s. -/
def TailPost (n : Nat) (z : Nat → Int) (s : ByteArray) (w : World) (e : Ending) (w' : World) : Prop :=
  ∃ r q, e = .returned (.bool r) ∧ w' = w.drewN q ∧ (r = false → ¬ (s.size ≤ n ∧ ∀ i (h : i < s.size), z (n - s.size + i) = (s[i].toNat : Int)))
set_option maxRecDepth 100000 in
set_option maxHeartbeats 1000000 in
theorem tail23 (a : Option Addr) (n c : Nat) (z : Nat → Int) (s : ByteArray) (w : World) (h : RowAt w a n (u8s z)) (hn : n ≤ 1048576) (hs : s.size ≤ 16) (hs0 : 0 < s.size) :
    Calls Try.prog 23 #[.slice a n c, .string s] w (TailPost n z s w) := by
  by_cases hlt : n < s.size
  · have n1 : (n : Int) < (s.size : Int) := by omega
    go_enter Try.func23, Try.ntmps23
    go_wp2
    go_ret
    exact ⟨false, 0, rfl, rfl, fun _ h => by omega⟩
  · obtain ⟨b, off, hx, hc⟩ := h (by omega)
    subst hx
    obtain ⟨m, hm⟩ : ∃ m, s.size = m := ⟨_, rfl⟩
    obtain ⟨k, hk⟩ : ∃ k, n = k + m := ⟨n - m, by omega⟩
    subst hk
    have n1 : ((k + m : Nat) : Int) = (k : Int) + (m : Int) := by omega
    have n2 : ¬ ((k : Int) + (m : Int) < (m : Int)) := by omega
    have n3 : (k : Int) + (m : Int) - (m : Int) = (k : Int) := by omega
    have n4 : (k : Int) ≤ 1048576 := by omega
    have n5 : (m : Int) ≤ 16 := by omega
    clear hn hlt hs0 h
    go_enter Try.func23, Try.ntmps23
    go_wp2_with fail
    go_loopg [6] m (fun g x wr => ∃ i q : Nat, wr = w.drewN q ∧ i ≤ m ∧ g = m - i ∧ x = .int .i64 i)
    case atStart => exact ⟨0, 0, rfl, Nat.zero_le _, rfl, rfl⟩
    case round =>
      obtain ⟨i, q, rfl, hi, rfl, rfl⟩ := hrel
      by_cases him : i < m
      · have hsi : i < s.size := by omega
        have g1 : w.cell? ⟨b, off + (k + i), none⟩ = some (.int .u8 (z (k + i))) := hc (k + i) (by omega)
        have i1 : (i : Int) < (m : Int) := by omega
        have i2 : (0 : Int) ≤ (i : Int) := by omega
        have i3 : (k : Int) + (i : Int) < (k : Int) + (m : Int) := by omega
        have i4 : (0 : Int) ≤ (k : Int) + (i : Int) := by omega
        have wr1 : IntKind.i64.wrap ((k : Int) + (i : Int)) = (k : Int) + (i : Int) := by rw [IntKind.wrap_i64]; omega
        clear hc
        by_cases he : z (k + i) = (s[i].toNat : Int)
        · have heb : (z (k + i) == (s[i].toNat : Int)) = true := by rw [he]; exact beq_self_eq_true _
          go_wp2_with fail
          go_quiet (fail)
          go_wp2_with fail
          go_roundg (m - (i + 1))
          case measure => omega
          case rel => exact ⟨i + 1, _, rfl, by omega, rfl, by go_num⟩
        · have heb : (z (k + i) == (s[i].toNat : Int)) = false := by rw [beq_eq_false_iff_ne]; exact he
          go_wp2_with fail
          go_quiet (fail)
          go_wp2
          go_ret
          refine ⟨false, _, rfl, World.drewN_drewN _ _ _, fun _ h => he ?_⟩
          have := h.2 i hsi
          rw [hm, show k + m - m + i = k + i by omega] at this
          exact this
      · go_wp2
        go_ret
        exact ⟨true, q, rfl, rfl, fun h => by cases h⟩
end Go.Proofs.Qxb6000751a
