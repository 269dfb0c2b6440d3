/-
  SEAT b6000751a: measure (33), ZZMeasure (14).
-/
import Derived.Test.Qxb6000751aCons
import Derived.Deep.CutBlock
namespace Go.Proofs.Qxb6000751a
open Go.RowKit Go.Deep
set_option linter.unusedVariables false

theorem turns_le (z : Nat → Int) : ∀ k, turns z k ≤ k
  | 0 => Nat.le_refl _
  | 1 => by show 0 ≤ 1; omega
  | k + 2 => by
    have := turns_le z (k + 1)
    rw [turns]
    split <;> omega

theorem InRun.step {z : Nat → Int} {r q m : Nat} (h : InRun z r q m) (hv : ∃ p, r = p + 1 ∧ cons z p = false) (hc : cons z q = true) : InRun z r (q + 1) m := by
  obtain ⟨h1, h2⟩ := h
  refine ⟨by omega, .inr ⟨by omega, ?_, q, rfl, hc⟩⟩
  rcases h2 with ⟨rfl, h3⟩ | ⟨_, h3, p, rfl, h4⟩
  · obtain ⟨p, rfl, hp⟩ := hv
    rw [turns_vc hp hc, h3]
  · rw [turns_cc h4, h3]
theorem InRun.done {z : Nat → Int} {r q m : Nat} (h : InRun z r q m) (hne : ¬ q = r) : r < q ∧ turns z q = m + 1 := by
  obtain ⟨h1, ⟨h2, _⟩ | ⟨h2, h3, _⟩⟩ := h
  · exact absurd h2 hne
  · exact ⟨h2, h3⟩

def MeasPost (m : Nat) (w : World) (e : Ending) (w' : World) : Prop := e = .returned (.int .i64 (m : Int)) ∧ w = w'

set_option maxRecDepth 100000 in
set_option maxHeartbeats 1000000 in
theorem meas33 (o : Nat) (a : Option Addr) (n c : Nat) (z : Nat → Int) (w : World) (hO : SOb w o a n c) (hR : RowAt w a n (u8s z)) (hn : n ≤ 1048576) (j : Nat) (hj : j ≤ n) :
    Calls Try.prog 33 #[.pointer (some ⟨o, 0, none⟩), .int .i64 j] w (MeasPost (turns z j) w) := by
  have hC := cons36 o a n c z w hO hR hn
  have hjj : (j : Int) ≤ 1048576 := by omega
  clear hO hR
  go_enter Try.func33, Try.ntmps33
  go_upto_block 0 with fail
  go_cut [6] (fun s wc => w = wc ∧ ∃ i : Nat, i ≤ j ∧ s = .int .i64 i ∧ turns z i = 0 ∧ (i < j → cons z i = false))
  case first =>
    go_wp2_with fail
    go_loopg [6] j (fun g s wr => w = wr ∧ ∃ i : Nat, i ≤ j ∧ g = j - i ∧ s = .int .i64 i ∧ ∀ p, p < i → cons z p = true)
    case atStart => exact ⟨rfl, 0, Nat.zero_le _, rfl, rfl, fun p hp => by omega⟩
    case round =>
      obtain ⟨rfl, i, hi, rfl, rfl, hp⟩ := hrel
      have HP : Hid (∀ p, p < i → cons z p = true) := hp
      clear hp
      by_cases hlt : i < j
      · have H := hC i (by omega)
        go_wp2_with fail
        refine H.mono ?_
        rintro e w' ⟨rfl, rfl⟩
        clear H
        by_cases hc : cons z i = true
        · go_wp2_with fail
          go_roundg (j - (i + 1))
          case measure => omega
          case rel =>
            refine ⟨rfl, i + 1, by omega, rfl, by go_num, fun p hp => ?_⟩
            by_cases e : p = i
            · subst e; exact hc
            · exact HP.out p (by omega)
        · go_wp2_with fail
          go_meet
          exact ⟨rfl, i, hi, rfl, turns_lead i HP.out, fun _ => Bool.eq_false_iff.2 hc⟩
      · go_wp2_with fail
        go_meet
        exact ⟨rfl, i, hi, rfl, turns_lead i HP.out, fun h => absurd h hlt⟩
  case rest =>
  obtain ⟨rfl, i, hi, rfl, ht, hv⟩ := hcut
  go_wp2_with fail
  go_loopg [5, 6] (j - i) (fun g s5 s6 wr => w = wr ∧ ∃ k m : Nat, k ≤ j ∧ g = j - k ∧ s6 = .int .i64 k ∧ s5 = .int .i64 m ∧ turns z k = m ∧ (k < j → cons z k = false))
  case atStart => exact ⟨rfl, i, 0, hi, rfl, rfl, rfl, ht, hv⟩
  case round =>
    obtain ⟨rfl, k, m, hk, rfl, rfl, rfl, hm, hv⟩ := hrel
    have HM : Hid (turns z k = m) := hm
    clear hm ht
    by_cases hlt : k < j
    · have hmk : (m : Int) ≤ 1048576 := by have := turns_le z k; have := HM.out; omega
      have HV : Hid (cons z k = false) := hv hlt
      clear hv
      go_upto_block 4 with fail
      go_cut [6] (fun s wc => w = wc ∧ ∃ r : Nat, k < r ∧ r ≤ j ∧ s = .int .i64 r ∧ turns z r = m ∧ (∃ p, r = p + 1 ∧ cons z p = false) ∧ (r < j → cons z r = true))
      case first =>
        go_wp2_with fail
        go_loopg [6] (j - k) (fun g s wr => w = wr ∧ ∃ q : Nat, k ≤ q ∧ q ≤ j ∧ g = j - q ∧ s = .int .i64 q ∧ turns z q = m ∧ (k < q → ∃ p, q = p + 1 ∧ cons z p = false))
        case atStart => exact ⟨rfl, k, Nat.le_refl _, hk, rfl, rfl, HM.out, fun h => absurd h (Nat.lt_irrefl _)⟩
        case round =>
          obtain ⟨rfl, q, hkq, hqj, rfl, rfl, hq, hqv⟩ := hrel
          have HQ : Hid (turns z q = m) := hq
          have HQV : Hid (k < q → ∃ p, q = p + 1 ∧ cons z p = false) := hqv
          clear hq hqv
          by_cases hlq : q < j
          · have H := hC q (by omega)
            go_wp2_with fail
            refine H.mono ?_
            rintro e w' ⟨rfl, rfl⟩
            clear H
            by_cases hc : cons z q = true
            · go_wp2_with fail
              go_meet
              have hkq' : k < q := by
                rcases Nat.lt_or_ge k q with h | h
                · exact h
                · have : k = q := by omega
                  subst this
                  rw [HV.out] at hc; cases hc
              exact ⟨rfl, q, hkq', hqj, rfl, HQ.out, HQV.out hkq', fun _ => hc⟩
            · have hc' : cons z q = false := Bool.eq_false_iff.2 hc
              go_wp2_with fail
              go_roundg (j - (q + 1))
              case measure => omega
              case rel => exact ⟨rfl, q + 1, by omega, by omega, rfl, by go_num, by rw [turns_v hc']; exact HQ.out, fun _ => ⟨q, rfl, hc'⟩⟩
          · go_wp2_with fail
            go_meet
            exact ⟨rfl, q, by omega, hqj, rfl, HQ.out, HQV.out (by omega), fun h => absurd h hlq⟩
      case rest =>
      obtain ⟨rfl, r, hkr, hrj, rfl, hrm, hrv, hrc⟩ := hcut
      have HRM : Hid (turns z r = m) := hrm
      have HRV : Hid (∃ p, r = p + 1 ∧ cons z p = false) := hrv
      have HRC : Hid (r < j → cons z r = true) := hrc
      clear hrm hrv hrc HM HV
      by_cases hrj' : r = j
      · subst hrj'
        have hbb : ((r : Int) == (r : Int)) = true := beq_self_eq_true _
        go_wp2
        go_ret
        exact ⟨by rw [HRM.out]; rfl, rfl⟩
      · have hbb : ((r : Int) == (j : Int)) = false := by rw [beq_eq_false_iff_ne]; omega
        have hrlt : r < j := by omega
        go_upto_block 6 with fail
        go_cut [6] (fun s wc => w = wc ∧ ∃ q : Nat, r < q ∧ q ≤ j ∧ s = .int .i64 q ∧ turns z q = m + 1 ∧ (q < j → cons z q = false))
        case first =>
          go_wp2_with fail
          go_loopg [6] (j - r) (fun g s wr => w = wr ∧ ∃ q : Nat, q ≤ j ∧ g = j - q ∧ s = .int .i64 q ∧ InRun z r q m)
          case atStart => exact ⟨rfl, r, hrj, rfl, rfl, Nat.le_refl _, .inl ⟨rfl, HRM.out⟩⟩
          case round =>
            obtain ⟨rfl, q, hqj, rfl, rfl, hrun⟩ := hrel
            by_cases hlq : q < j
            · have H := hC q (by omega)
              go_wp2_with fail
              refine H.mono ?_
              rintro e w' ⟨rfl, rfl⟩
              clear H
              by_cases hc : cons z q = true
              · go_wp2_with fail
                go_roundg (j - (q + 1))
                case measure => omega
                case rel => exact ⟨rfl, q + 1, by omega, rfl, by go_num, hrun.step HRV.out hc⟩
              · go_wp2_with fail
                go_meet
                have hq2 := hrun.done (fun e => hc (e ▸ HRC.out hrlt))
                exact ⟨rfl, q, hq2.1, hqj, rfl, hq2.2, fun _ => Bool.eq_false_iff.2 hc⟩
            · go_wp2_with fail
              go_meet
              have hq2 := hrun.done (fun e => by omega)
              exact ⟨rfl, q, hq2.1, hqj, rfl, hq2.2, fun h => absurd h hlq⟩
        case rest =>
        obtain ⟨rfl, q, hrq, hqj, rfl, hqm, hqv⟩ := hcut
        have HQM : Hid (turns z q = m + 1) := hqm
        clear hqm
        go_wp2_with fail
        go_roundg (j - q)
        case measure => omega
        case rel => exact ⟨rfl, q, m + 1, hqj, rfl, rfl, by go_num, HQM.out, hqv⟩
    · have hkj : j = k := by omega
      subst hkj
      go_wp2
      go_ret
      exact ⟨by rw [HM.out]; rfl, rfl⟩

theorem zz14 (a : Option Addr) (n c : Nat) (z : Nat → Int) (w : World) (hR : RowAt w a n (u8s z)) (hn : n ≤ 1048576) (j : Nat) (hj : j ≤ n) :
    Calls Try.prog 14 #[.slice a n c, .int .i64 j] w fun e w' => e = .returned (.int .i64 (turns z j)) ∧ Below w.heap.size w w' := by
  obtain ⟨w1, hw1⟩ : ∃ w1, w.alloc (.cells #[.slice a n c] 41) = w1 := ⟨_, rfl⟩
  have hB : Below w.heap.size w w1 := hw1 ▸ (Below.refl _ _).alloc (Nat.le_refl _) _
  have hO : SOb w1 w.heap.size a n c := hw1 ▸ blk_alloc_new _ _
  have H := meas33 w.heap.size a n c z w1 hO (hR.below hB) hn j hj
  go_enter Try.func14, Try.ntmps14
  go_wp2_with fail
  refine H.mono ?_
  rintro e w' ⟨rfl, rfl⟩
  clear H
  go_wp2
  go_ret
  exact ⟨rfl, hB⟩
end Go.Proofs.Qxb6000751a
