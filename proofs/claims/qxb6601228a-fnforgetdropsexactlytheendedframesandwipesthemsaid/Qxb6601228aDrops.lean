/-
  SEAT b6601228a: THE LAW FnForgetDropsExactlyTheEndedFramesAndWipesThem (4).
-/
import Derived.Test.Qxb6601228aHolds
namespace Go.Proofs.Qxb6601228a
open Go.RowKit Go.Deep
set_option linter.unusedVariables false

/-- zzClone, whatever the slice: no room to spare. -/
def Cloned2 (w : World) (n : Nat) (P : Nat → List UInt8) (e : Ending) (w' : World) : Prop := ∃ a, e = .returned (.slice a n n) ∧ Below w.heap.size w w' ∧ PepsAt w' a n P
theorem clone8'' (a : Option Addr) (n c : Nat) (P : Nat → List UInt8) (w : World) (h : PepsAt w a n P) (hP : ∀ i, i < n → (P i).length = 16) (hn : n ≤ 65536) :
    Calls Try.prog 8 #[.slice a n c] w (Cloned2 w n P) := by
  cases a with
  | none =>
    have h0 : n = 0 := by
      rcases Nat.eq_zero_or_pos n with h0 | h0
      · exact h0
      · obtain ⟨b, off, hx, _⟩ := h h0; cases hx
    subst h0
    refine (clone8_nil 0 c w).mono ?_
    rintro e w' ⟨rfl, rfl⟩
    exact ⟨none, rfl, Below.refl _ _, fun h => absurd h (Nat.lt_irrefl _)⟩
  | some x =>
    refine (clone8 x n c P w h hP hn).mono ?_
    rintro e w' ⟨rfl, hB, _, hp⟩
    exact ⟨_, rfl, hB, hp.view⟩

/-- The count of the frames that have ended, over the first j. -/
theorem ended_iff {f t : Int} {n k j : Nat} (h1 : ∀ i : Nat, i < k → f + (i : Int) * 60 < t) (h2 : k < n → ¬ f + (k : Int) * 60 < t) (hj : j < n) (hk : k ≤ n) : f + (j : Int) * 60 < t ↔ j < k := by
  constructor
  · intro h
    rcases Nat.lt_or_ge j k with hx | hx
    · exact hx
    · have := h2 (by omega); omega
  · exact h1 j

set_option maxRecDepth 100000 in
set_option maxHeartbeats 1000000 in
theorem law4 (f t : Int) (a : Option Addr) (n c : Nat) (P : Nat → List UInt8) (w : World) (h : PepsAt w a n P) (hP : ∀ i, i < n → (P i).length = 16) (hn : n ≤ maxLen)
    (hf0 : -9223372036854775808 ≤ f) (hf1 : f ≤ 9223372036854775807) : Calls Try.prog 4 #[.int .i64 f, .slice a n c, .int .i64 t] w (Law w) := by
  have hb12 := zzb12 f t a n c w hn
  go_enter Try.func4, Try.ntmps4
  go_wp2_with fail
  refine hb12.mono ?_
  rintro e w ⟨b, rfl, rfl, hg⟩
  clear hb12
  cases b with
  | false =>
    go_wp2
    go_ret
    exact ⟨rfl, Below.refl _ _⟩
  | true =>
  clear hg
  by_cases h1 : (65536 : Int) < (n : Int)
  · go_wp2
    go_ret
    exact ⟨rfl, Below.refl _ _⟩
  have hn' : n ≤ 65536 := by omega
  go_upto_region 6 with fail
  go_cut [36] (fun s wc => w = wc ∧ ∃ b : Bool, s = .bool b ∧ (b = false → 0 < n → f + ((n : Int) - 1) * 60 ≤ 9223372036854775807))
  case first =>
    by_cases h0 : n = 0
    · subst h0
      go_wp2_with fail
      go_meet
      exact ⟨rfl, _, rfl, fun _ h => absurd h (Nat.lt_irrefl _)⟩
    · by_cases hc : 9223372036854775807 - ((n : Int) - 1) * 60 < f
      · go_wp2_with fail
        go_meet
        exact ⟨rfl, true, by simp [*], fun h => by cases h⟩
      · go_wp2_with fail
        go_meet
        exact ⟨rfl, false, by simp [*], fun _ _ => by omega⟩
  case rest =>
  obtain ⟨rfl, b, rfl, hf⟩ := hcut
  cases b with
  | true =>
    go_wp2
    go_ret
    exact ⟨rfl, Below.refl _ _⟩
  | false =>
  replace hf := hf rfl
  have C8 := clone8'' a n c P w h hP hn'
  go_wp2_with fail
  refine C8.mono ?_
  rintro e w1 ⟨a1, rfl, hB1, hA1⟩
  clear C8
  have C9 := new9' f a1 n n P w1 hA1 hP hn'
  go_wp2_with fail
  refine C9.mono ?_
  rintro e w2 ⟨o, b, rfl, hB2, ho, hb, hob, hO, hA⟩
  clear C9
  have C13 := peps13 o f (some ⟨b, 0, none⟩) n n w2 hO
  go_wp2_with fail
  refine C13.mono ?_
  rintro e wz ⟨rfl, rfl⟩
  clear C13
  have C14 := forget14 o b f t n P w2 hO hA hP hob hn' hf0 hf
  go_wp2_with fail
  refine C14.mono ?_
  rintro e w6 ⟨rfl, k, hk, hend, hst, ⟨a6, hO6, hA6⟩, hpz, hs6, hB6, hx6⟩
  clear C14
  have HST : ∀ hx : k < n, ¬ f + (k : Int) * 60 < t := fun hx => by have := hst hx; omega
  have hiff : Hid (∀ j : Nat, j < n → (f + (j : Int) * 60 < t ↔ j < k)) := fun j hj => ended_iff hend HST hj hk
  clear hend hst HST
  have hb26 : Below w1.heap.size w1 w6 := hB2.trans (hB6 _ ho hb)
  have hA61 : PepsAt w6 a1 n P := hA1.below hP hb26
  go_wp2_with fail
  go_loopg [10, 11, 12] n (fun g s x i wr => w6 = wr ∧ ∃ (j cnt : Nat) (y : Int), j ≤ n ∧ g = n - j ∧ i = .int .i64 j ∧ s = .int .i64 cnt ∧ x = .int .i64 y ∧ cnt = min j k ∧ (j < n → y = f + (j : Int) * 60))
  case atStart => exact ⟨rfl, 0, 0, f, Nat.zero_le _, rfl, rfl, rfl, rfl, by omega, fun _ => by simp⟩
  case round =>
    obtain ⟨rfl, j, cnt, y, hj, rfl, rfl, rfl, rfl, hcnt, hy⟩ := hrel
    by_cases hlt : j < n
    · have hl := hf (by omega)
      have hy' := hy hlt
      subst hy'
      clear hy
      have hij := hiff.out j hlt
      have hc1 : cnt ≤ 65536 := by omega
      have HC : Hid (cnt = min j k) := hcnt
      clear hcnt
      by_cases hjk : j < k
      · have htj : f + (j : Int) * 60 < t := hij.2 hjk
        clear hij
        by_cases hj1 : (j : Int) + 1 < (n : Int)
        · have wr1 : wrap64 (f + (j : Int) * 60 + 60) = f + (j : Int) * 60 + 60 := by unfold wrap64; omega
          go_wp2_with fail
          go_roundg (n - (j + 1))
          case measure => omega
          case rel => exact ⟨rfl, j + 1, cnt + 1, _, by omega, rfl, by go_num, by go_num, rfl, by have := HC.out; omega, fun _ => by push_cast; omega⟩
        · go_wp2_with fail
          go_roundg (n - (j + 1))
          case measure => omega
          case rel => exact ⟨rfl, j + 1, cnt + 1, _, by omega, rfl, by go_num, by go_num, rfl, by have := HC.out; omega, fun _ => by omega⟩
      · have htj : ¬ f + (j : Int) * 60 < t := fun hx => hjk (hij.1 hx)
        clear hij
        by_cases hj1 : (j : Int) + 1 < (n : Int)
        · have wr1 : wrap64 (f + (j : Int) * 60 + 60) = f + (j : Int) * 60 + 60 := by unfold wrap64; omega
          go_wp2_with fail
          go_roundg (n - (j + 1))
          case measure => omega
          case rel => exact ⟨rfl, j + 1, cnt, _, by omega, rfl, by go_num, rfl, rfl, by have := HC.out; omega, fun _ => by push_cast; omega⟩
        · go_wp2_with fail
          go_roundg (n - (j + 1))
          case measure => omega
          case rel => exact ⟨rfl, j + 1, cnt, _, by omega, rfl, by go_num, rfl, rfl, by have := HC.out; omega, fun _ => by omega⟩
    · have hjn : n = j := by omega
      subst hjn
      have hck : k = cnt := by omega
      subst hck
      clear hcnt hy
      go_upto_region 22 with fail
      have hP2 : ∀ i, i < n - k → (P (k + i)).length = 16 := fun i hi => hP _ (by omega)
      have hn2 : n - k ≤ 65536 := by omega
      obtain ⟨F, hF⟩ : ∃ F, wrap64 (f + (k : Int) * 60) = F := ⟨_, rfl⟩
      rw [hF] at hO6
      rw [hF]
      clear hF
      go_cut [76] (fun s wc => s = .bool false ∧ Below w6.heap.size w6 wc)
      case first =>
        by_cases hkn : k = n
        · subst hkn
          have hO0 : SObj w6 o F a6 0 0 := by rw [Nat.sub_self] at hO6; exact hO6
          have C11 := holds11 o F a6 a1 0 0 0 (fun i => P (k + i)) w6 hO0 (fun h => absurd h (Nat.lt_irrefl _)) (fun h => absurd h (Nat.lt_irrefl _)) (fun i hi => by omega) (by omega)
          have i0 : (0 : Int) ≤ (k : Int) := by omega
          cases a1
          all_goals
            go_wp2_with fail
            refine C11.mono ?_
            rintro e w7 ⟨rfl, hB7⟩
            clear C11
            go_wp2_with fail
            go_meet
            exact ⟨rfl, hB7⟩
        · obtain ⟨b1, off1, hx, hc1⟩ := hA61 (by omega)
          have C11 := holds11 o F a6 (some ⟨b1, off1 + k * 16, none⟩) (n - k) (n - k) (n - k) (fun i => P (k + i)) w6 hO6 hA6 (fun _ => ⟨b1, off1 + k * 16, rfl, fun i hi => by
            have := hc1 (k + i) (by omega)
            rw [Nat.add_mul, ← Nat.add_assoc] at this; exact this⟩) hP2 hn2
          have i0 : (0 : Int) ≤ (k : Int) := by omega
          have i1 : (k : Int) ≤ (n : Int) := by omega
          have i2 : ¬ n = k := fun h => hkn h.symm
          clear hA61 hA1
          subst hx
          go_wp2_with fail
          refine C11.mono ?_
          rintro e w7 ⟨rfl, hB7⟩
          clear C11
          go_wp2_with fail
          go_meet
          exact ⟨rfl, hB7⟩
      case rest =>
      obtain ⟨rfl, hB7⟩ := hcut
      go_upto_region 27 with fail
      obtain ⟨w8, hw8⟩ : ∃ w8, wc.alloc (.cells zero16 27) = w8 := ⟨_, rfl⟩
      have hB8 : Below wc.heap.size wc w8 := hw8 ▸ (Below.refl _ _).alloc (Nat.le_refl _) _
      have z8 : w8.rangeAt wc.heap.size 0 (pc nought) := hw8 ▸ range16n wc 27
      unfold zero16 at hw8
      rw [hw8]
      clear hw8
      have hB68 := seqB hB7 hB8
      have hp8 := hpz.of_block (hB68.block b hpz.lt)
      have hA8 : PepsAt w8 a1 n P := hA61.below hP hB68
      have hw26 : Below w.heap.size w w6 := (seqB hB1 hB2).trans (hB6 _ (Nat.le_trans hB1.size ho) (Nat.le_trans hB1.size hb))
      have hw8' := seqB hw26 hB68
      clear hiff hx6 hB6 hA6 hO6 hA61 hA1 hA hO
      go_wp2_with fail
      go_loopg [15] n (fun g i wr => ∃ j : Nat, j ≤ n ∧ g = n - j ∧ i = .int .i64 j ∧ Below w8.heap.size w8 wr)
      case atStart => exact ⟨0, Nat.zero_le _, rfl, rfl, Below.refl _ _⟩
      case round =>
        obtain ⟨j, hj, rfl, rfl, hB⟩ := hrel
        by_cases hlt : j < n
        · obtain ⟨Z, hZ0⟩ : ∃ Z, (if j < k then nought else P j) = Z := ⟨_, rfl⟩
          have hZ : Hid ((if j < k then nought else P j) = Z) := hZ0
          have hlZ : Z.length = 16 := by
            rw [← hZ0]; by_cases c : j < k
            · rw [if_pos c]; rfl
            · rw [if_neg c]; exact hP j hlt
          have q1 : wr.rangeAt b (j * 16) (pc Z) := by
            have := hp8.at_ j hlt
            rw [hZ0] at this
            exact rangeAt_block this (hB.block b hp8.lt)
          clear hZ0
          go_upto_region 31 with (first
            | (refine wpList_load_mid (by rfl) 28 _ (by rfl) b (j * 16) (by rfl) (pc Z) _ q1 Try.underlying28 rfl (size28 hlZ) ?_)
            | (refine wpList_store_mid (by rfl) 27 _ _ (by rfl) wr.heap.size 0 (pc Z).toArray (by rfl) (by rfl) (there16 wr 27 Z hlZ) (size27' hlZ) (all_oneCell_toArray (pc_one _)) ?_))
          obtain ⟨w9, hw9⟩ : ∃ w9, (wr.alloc (.cells zero16 27)).setCells wr.heap.size 0 (pc Z) = w9 := ⟨_, rfl⟩
          have hB9 : Below wr.heap.size wr w9 := hw9 ▸ below16 wr 27 (pc Z)
          have r9 : w9.rangeAt wr.heap.size 0 (pc Z) := hw9 ▸ range16 wr 27 Z hlZ
          unfold zero16 at hw9
          rw [hw9]
          clear hw9
          have hB89 := seqB hB hB9
          by_cases hjk : j < k
          · have hZ0 := hZ.out
            rw [if_pos hjk] at hZ0
            clear hZ
            subst hZ0
            have z9 : w9.rangeAt wc.heap.size 0 (pc nought) := rangeAt_block z8 (hB89.block _ (rangeAt_lt z8 rfl))
            have hne := differ27 nought rfl
            have i1 : (j : Int) < (k : Int) := by omega
            go_wp2_with (first
              | (refine wpList_load_mid (by rfl) 27 _ (by rfl) wr.heap.size 0 (by rfl) (pc nought) _ r9 Try.underlying27 rfl (size27 rfl) ?_)
              | (refine wpList_load_mid (by rfl) 27 _ (by rfl) wc.heap.size 0 (by rfl) (pc nought) _ z9 Try.underlying27 rfl (size27 rfl) ?_))
            go_roundg (n - (j + 1))
            case measure => omega
            case rel => exact ⟨j + 1, by omega, rfl, by go_num, hB89⟩
          · have hZ0 := hZ.out
            rw [if_neg hjk] at hZ0
            clear hZ
            subst hZ0
            obtain ⟨b2, off2, hx, hc2⟩ := hA8 (by omega)
            have hpk := hP j hlt
            have q2 : w9.rangeAt b2 (off2 + j * 16) (pc (P j)) := rangeAt_block (hc2 j hlt) (hB89.block b2 (rangeAt_lt (hc2 j hlt) hpk))
            have hne := differ27 (P j) hpk
            have i0 : 0 ≤ (j : Int) := by omega
            have i1 : (j : Int) < (n : Int) := by omega
            have i2 : ¬ (j : Int) < (k : Int) := by omega
            clear hc2 hA8
            subst hx
            go_wp2_with fail
            refine wp_region_quiet_lit (by kernel_rfl) (by kernel_rfl) ?_
            refine BigFrame.wpQuiet_want (by rfl) (fun K hK => quiet_load_mid 27 _ (by rfl) wr.heap.size 0 (by rfl) (pc (P j)) _ (fun w' hw' => by obtain ⟨m, rfl⟩ := hw'; exact r9) Try.underlying27 rfl (size27 hpk) (hK _ ?_))
            quiet_step (fail)
            quiet_step (fail)
            quiet_step (fail)
            refine BigFrame.wpQuiet_want (by rfl) (fun K hK => quiet_load_mid 27 _ (by rfl) b2 (off2 + j * 16) (by rfl) (pc (P j)) _ (fun w' hw' => by obtain ⟨m, rfl⟩ := hw'; exact q2) Try.underlying27 rfl (size27 hpk) (hK _ ?_))
            quiet_step (fail)
            refine wpQuiet_nil ?_
            intro w5 hw5
            obtain ⟨nq, rfl⟩ := hw5
            go_wp2_with fail
            go_roundg (n - (j + 1))
            case measure => omega
            case rel => exact ⟨j + 1, by omega, rfl, by go_num, below_drewN hB89 nq⟩
        · go_wp2
          go_ret
          exact ⟨rfl, seqB hw8' hB⟩
end Go.Proofs.Qxb6601228a
