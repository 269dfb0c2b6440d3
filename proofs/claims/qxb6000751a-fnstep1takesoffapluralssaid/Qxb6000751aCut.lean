/-
  SEAT b6000751a: cutIfVowelBefore (40), cvc (42), doubleConsonant (41).
-/
import Derived.Test.Qxb6000751aSet
namespace Go.Proofs.Qxb6000751a
open Go.RowKit Go.Deep
set_option linter.unusedVariables false

def cutB (l : List Int) (s : ByteArray) : Bool := ends l s && hasV (lz l) (l.length - s.size)
theorem ends_lt {l : List Int} {s : ByteArray} (h : ends l s = true) : s.size < l.length := by
  simp only [ends, Bool.and_eq_true, decide_eq_true_eq] at h; exact h.1

def CutPost (o b c : Nat) (l : List Int) (s : ByteArray) (w : World) (e : Ending) (w' : World) : Prop :=
  e = .returned (.bool (cutB l s)) ∧ Wd w' o b c (if cutB l s = true then l.take (l.length - s.size) else l) ∧ Kept o b w w'

set_option maxRecDepth 100000 in
set_option maxHeartbeats 1000000 in
theorem cut40 {w : World} {o b c : Nat} {l : List Int} (s : ByteArray) (hW : Wd w o b c l) (hn : l.length ≤ 1048576) (hs : s.size ≤ 16) (hs0 : 0 < s.size) :
    Calls Try.prog 40 #[.pointer (some ⟨o, 0, none⟩), .string s] w (CutPost o b c l s w) := by
  have H37 := ends37 s hW hn hs hs0
  go_enter Try.func40, Try.ntmps40
  go_wp2_with fail
  refine H37.mono ?_
  rintro e w' ⟨rfl, rfl⟩
  clear H37
  cases he : ends l s with
  | false =>
    have hc : cutB l s = false := by rw [cutB, he]; rfl
    go_wp2_with fail
    go_wp2
    go_ret
    exact ⟨by rw [hc]; rfl, by rw [hc]; exact hW, Kept.refl _ _ _⟩
  | true =>
    have hlt := ends_lt he
    obtain ⟨k, hk⟩ : ∃ k, l.length = k + s.size := ⟨l.length - s.size, by omega⟩
    have hk' : l.length - s.size = k := by omega
    have H39 := stem39 (o := o) (some ⟨b, 0, none⟩) l.length c s w hW.ob hn hs
    have e1 : (l.length : Int) - (s.size : Int) = (k : Int) := by omega
    rw [e1] at H39
    have H43 := has43 (o := o) (some ⟨b, 0, none⟩) l.length c (lz l) w hW.ob hW.at hn k (by omega)
    have hcb : cutB l s = hasV (lz l) k := by rw [cutB, he, hk']; rfl
    have HC : Hid (cutB l s = hasV (lz l) k) := hcb
    have HK : Hid (l.length - s.size = k) := hk'
    clear hcb hk' he e1
    go_wp2_with fail
    refine H39.mono ?_
    rintro e w' ⟨rfl, rfl⟩
    clear H39
    go_wp2_with fail
    refine H43.mono ?_
    rintro e w' ⟨rfl, rfl⟩
    clear H43
    cases hv : hasV (lz l) k with
    | false =>
      have hc := HC.out.trans hv
      go_wp2_with fail
      go_wp2
      go_ret
      exact ⟨by rw [hc]; rfl, by rw [hc]; exact hW, Kept.refl _ _ _⟩
    | true =>
      have H38 := set38 s ⟨#[]⟩ hW hn hs (by omega) (Nat.zero_le _)
      have HV : Hid (cutB l s = true) := HC.out.trans hv
      clear HC hv
      go_wp2_with fail
      refine H38.mono ?_
      rintro e w1 ⟨rfl, hW1, hK1⟩
      clear H38
      go_wp2_with fail
      go_wp2
      go_ret
      refine ⟨by rw [HV.out]; rfl, ?_, hK1⟩
      rw [HV.out, if_pos rfl]
      have : setSuf l s.size ⟨#[]⟩ = l.take (l.length - s.size) := by simp [setSuf, nums]
      rw [← this]; exact hW1

def cvcB (z : Nat → Int) (n : Nat) : Bool :=
  decide (3 ≤ n) && cons z (n - 1) && !(cons z (n - 2)) && cons z (n - 3) && !(decide (z (n - 1) = 119)) && !(decide (z (n - 1) = 120)) && !(decide (z (n - 1) = 121))
def CvcPost (z : Nat → Int) (n : Nat) (w : World) (e : Ending) (w' : World) : Prop := e = .returned (.bool (cvcB z n)) ∧ w = w'

set_option maxRecDepth 100000 in
set_option maxHeartbeats 1000000 in
theorem cvc42_at {w : World} {o b : Nat} (p n c : Nat) (z : Nat → Int) (h0 : w.cell? ⟨o, 0, none⟩ = some (.slice (some ⟨b, 0, none⟩) n c)) (hp : p + 3 ≤ n) (hn : n ≤ 1048576)
    (c2 : w.cell? ⟨b, p + 2, none⟩ = some (.int .u8 (z (p + 2))))
    (H1 : Calls Try.prog 36 #[.pointer (some ⟨o, 0, none⟩), .int .i64 ((p : Int) + 2)] w (ConsPost z (p + 2) w))
    (H2 : Calls Try.prog 36 #[.pointer (some ⟨o, 0, none⟩), .int .i64 ((p : Int) + 1)] w (ConsPost z (p + 1) w))
    (H3 : Calls Try.prog 36 #[.pointer (some ⟨o, 0, none⟩), .int .i64 (p : Int)] w (ConsPost z p w)) :
    Calls Try.prog 42 #[.pointer (some ⟨o, 0, none⟩), .int .i64 ((p : Int) + 3)] w (CvcPost z (p + 3) w) := by
  have HE : Hid (cvcB z (p + 3) = (cons z (p + 2) && !(cons z (p + 1)) && cons z p && !(decide (z (p + 2) = 119)) && !(decide (z (p + 2) = 120)) && !(decide (z (p + 2) = 121)))) := by
    show _ = _
    simp [cvcB]
  have e1 : (p : Int) + 3 - 1 = (p : Int) + 2 := by omega
  have e2 : (p : Int) + 3 - 2 = (p : Int) + 1 := by omega
  have e3 : (p : Int) + 3 - 3 = (p : Int) := by omega
  have n1 : (p : Int) ≤ 1048576 := by omega
  have n2 : (p : Int) + 2 < (n : Int) := by omega
  have n3 : ¬ ((p : Int) + 3 < 3) := by omega
  clear hn hp
  go_enter Try.func42, Try.ntmps42
  go_wp2_with fail
  refine H1.mono ?_
  rintro e w' ⟨rfl, rfl⟩
  clear H1
  cases a1 : cons z (p + 2) with
  | false =>
    go_wp2_with fail
    go_wp2
    go_ret
    exact ⟨by rw [HE.out, a1]; rfl, rfl⟩
  | true =>
  go_wp2_with fail
  refine H2.mono ?_
  rintro e w' ⟨rfl, rfl⟩
  clear H2
  cases a2 : cons z (p + 1) with
  | true =>
    go_wp2_with fail
    go_wp2
    go_ret
    exact ⟨by rw [HE.out, a1, a2]; rfl, rfl⟩
  | false =>
  go_wp2_with fail
  refine H3.mono ?_
  rintro e w' ⟨rfl, rfl⟩
  clear H3
  cases a3 : cons z p with
  | false =>
    go_wp2_with fail
    go_wp2
    go_ret
    exact ⟨by rw [HE.out, a1, a2, a3]; rfl, rfl⟩
  | true =>
  by_cases b1 : z (p + 2) = 119
  · go_wp2_with fail
    go_wp2
    go_ret
    exact ⟨by rw [HE.out, a1, a2, a3, b1]; rfl, rfl⟩
  by_cases b2 : z (p + 2) = 120
  · go_wp2_with fail
    go_wp2
    go_ret
    exact ⟨by rw [HE.out, a1, a2, a3, b2]; rfl, rfl⟩
  by_cases b3 : z (p + 2) = 121
  · go_wp2_with fail
    go_wp2
    go_ret
    exact ⟨by rw [HE.out, a1, a2, a3, b3]; rfl, rfl⟩
  · go_wp2_with fail
    go_wp2
    go_ret
    exact ⟨by rw [HE.out, a1, a2, a3]; simp [b1, b2, b3], rfl⟩
theorem cvc42 {w : World} {o b c : Nat} {n : Nat} (z : Nat → Int) (hO : SOb w o (some ⟨b, 0, none⟩) n c) (hR : RowAt w (some ⟨b, 0, none⟩) n (u8s z)) (hn : n ≤ 1048576) :
    Calls Try.prog 42 #[.pointer (some ⟨o, 0, none⟩), .int .i64 n] w (CvcPost z n w) := by
  by_cases h : n < 3
  · have E : cvcB z n = false := by simp [cvcB, show ¬ 3 ≤ n by omega]
    have n1 : (n : Int) < 3 := by omega
    clear hO hR hn
    go_enter Try.func42, Try.ntmps42
    go_wp2
    go_ret
    exact ⟨by rw [E]; rfl, rfl⟩
  · obtain ⟨p, rfl⟩ : ∃ p, n = p + 3 := ⟨n - 3, by omega⟩
    have hC := cons36 o (some ⟨b, 0, none⟩) (p + 3) c z w hO hR hn
    have H1 := hC (p + 2) (by omega)
    have H2 := hC (p + 1) (by omega)
    have H3 := hC p (by omega)
    obtain ⟨b', off, hx, hat⟩ := hR (by omega)
    cases hx
    have c2 := hat (p + 2) (by omega)
    rw [Nat.zero_add] at c2
    exact cvc42_at p (p + 3) c z hO.c0 (Nat.le_refl _) hn c2 H1 H2 H3

def dblB (z : Nat → Int) (n : Nat) : Bool := decide (2 ≤ n) && decide (z (n - 1) = z (n - 2)) && cons z (n - 1)
def DblPost (z : Nat → Int) (n : Nat) (w : World) (e : Ending) (w' : World) : Prop := e = .returned (.bool (dblB z n)) ∧ ∃ q, w' = w.drewN q

set_option maxRecDepth 100000 in
set_option maxHeartbeats 1000000 in
theorem dbl41 {w : World} {o b c : Nat} {n : Nat} (z : Nat → Int) (hO : SOb w o (some ⟨b, 0, none⟩) n c) (hR : RowAt w (some ⟨b, 0, none⟩) n (u8s z)) (hn : n ≤ 1048576) :
    Calls Try.prog 41 #[.pointer (some ⟨o, 0, none⟩), .int .i64 n] w (DblPost z n w) := by
  by_cases h : n < 2
  · have E : dblB z n = false := by simp [dblB, show ¬ 2 ≤ n by omega]
    have HE : Hid (dblB z n = false) := E
    have n1 : (n : Int) < 2 := by omega
    have n2 : ¬ ((2 : Int) ≤ (n : Int)) := by omega
    have n3 : decide ((2 : Int) ≤ (n : Int)) = false := by simp; omega
    clear hO hR hn E h
    go_enter Try.func41, Try.ntmps41
    go_wp2_with fail
    go_quiet (fail)
    go_wp2
    go_ret
    exact ⟨by rw [HE.out]; rfl, _, rfl⟩
  · obtain ⟨p, rfl⟩ : ∃ p, n = p + 2 := ⟨n - 2, by omega⟩
    have HC : ∀ q, Calls Try.prog 36 #[.pointer (some ⟨o, 0, none⟩), .int .i64 ((p : Int) + 1)] (w.drewN q) (ConsPost z (p + 1) (w.drewN q)) := fun q =>
      cons36 o (some ⟨b, 0, none⟩) (p + 2) c z (w.drewN q) hO hR hn (p + 1) (by omega)
    obtain ⟨b', off, hx, hat⟩ := hR (by omega)
    cases hx
    have c1 : w.cell? ⟨b, p + 1, none⟩ = some (.int .u8 (z (p + 1))) := by have := hat (p + 1) (by omega); rw [Nat.zero_add] at this; exact this
    have c2 : w.cell? ⟨b, p, none⟩ = some (.int .u8 (z p)) := by have := hat p (by omega); rw [Nat.zero_add] at this; exact this
    have h0 := hO.c0
    have e0 : ((p + 2 : Nat) : Int) = (p : Int) + 2 := by omega
    have e1 : (p : Int) + 2 - 1 = (p : Int) + 1 := by omega
    have e2 : (p : Int) + 2 - 2 = (p : Int) := by omega
    have n1 : (p : Int) ≤ 1048576 := by omega
    have n2 : (2 : Int) ≤ (p : Int) + 2 := by omega
    have wr1 : IntKind.i64.wrap ((p : Int) + 1) = (p : Int) + 1 := by rw [IntKind.wrap_i64]; omega
    have wr2 : IntKind.i64.wrap (p : Int) = (p : Int) := by rw [IntKind.wrap_i64]; omega
    have n3 : (p : Int) + 1 < (p : Int) + 2 := by omega
    have n4 : (0 : Int) ≤ (p : Int) + 1 := by omega
    have n5 : (p : Int) < (p : Int) + 2 := by omega
    have n6 : (0 : Int) ≤ (p : Int) := by omega
    have hE : dblB z (p + 2) = (decide (z (p + 1) = z p) && cons z (p + 1)) := by simp [dblB]
    have HE : Hid (dblB z (p + 2) = (decide (z (p + 1) = z p) && cons z (p + 1))) := hE
    rw [e0]
    clear hE hO hR hat hn h
    by_cases hz : z (p + 1) = z p
    · have hzb : (z (p + 1) == z p) = true := by rw [hz]; exact beq_self_eq_true _
      go_enter Try.func41, Try.ntmps41
      go_wp2_with fail
      go_quiet (first | (refine (HC _).mono ?_; rintro e w2 ⟨rfl, rfl⟩; exact ⟨rfl, _, rfl⟩))
      go_wp2
      go_ret
      exact ⟨by rw [HE.out]; simp [hz], _, rfl⟩
    · have hzb : (z (p + 1) == z p) = false := by rw [beq_eq_false_iff_ne]; exact hz
      go_enter Try.func41, Try.ntmps41
      go_wp2_with fail
      go_quiet (fail)
      go_wp2
      go_ret
      exact ⟨by rw [HE.out]; simp [hz], _, rfl⟩
end Go.Proofs.Qxb6000751a
