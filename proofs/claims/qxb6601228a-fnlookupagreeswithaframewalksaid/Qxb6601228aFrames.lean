/-
  SEAT b6601228a: THE LAW FnLookupAgreesWithAFrameWalk (3): the plain law, and the walk.
-/
import Derived.Test.Qxb6601228aHolds
namespace Go.Proofs.Qxb6601228a
open Go.RowKit Go.Deep
set_option linter.unusedVariables false

/-- The frame walk: the last of the first k frames that begins at u. -/
def scan (f u : Int) (P : Nat → List UInt8) : Nat → Option (List UInt8)
  | 0 => none
  | k + 1 => if f + (k : Int) * 60 = u then some (P k) else scan f u P k

section
variable {f u : Int} {n : Nat} {P : Nat → List UInt8}
theorem scan_none : ∀ k : Nat, (∀ i : Nat, i < k → f + (i : Int) * 60 ≠ u) → scan f u P k = none
  | 0, _ => rfl
  | k + 1, h => by rw [scan, if_neg (h k (Nat.lt_succ_self k))]; exact scan_none k (fun i hi => h i (Nat.lt_succ_of_lt hi))
theorem scan_some : ∀ (k j : Nat), j < k → f + (j : Int) * 60 = u → scan f u P k = some (P j)
  | 0, j, h, _ => by omega
  | k + 1, j, h, e => by
    rw [scan]
    by_cases c : f + (k : Int) * 60 = u
    · have : j = k := by omega
      subst this; rw [if_pos c]
    · rw [if_neg c]
      exact scan_some k j (by
        have : j ≠ k := fun h => c (h ▸ e)
        omega) e
theorem scan_len (hP : ∀ i, i < n → (P i).length = 16) : ∀ k, k ≤ n → ((scan f u P k).getD nought).length = 16
  | 0, _ => rfl
  | k + 1, h => by
    rw [scan]
    by_cases c : f + (k : Int) * 60 = u
    · rw [if_pos c]; exact hP k (by omega)
    · rw [if_neg c]; exact scan_len hP k (by omega)
/-- Lookup agrees with the frame walk. -/
theorem look_scan : look f n P u = scan f u P n := by
  unfold look
  by_cases h1 : n = 0 ∨ u < f
  · rw [if_pos h1, scan_none n (fun i hi => by omega)]
  · rw [if_neg h1]
    by_cases h2 : f + ((n : Int) - 1) * 60 < u ∨ (u - f) % 60 ≠ 0
    · rw [if_pos h2, scan_none n (fun i hi => by omega)]
    · rw [if_neg h2, scan_some n ((u - f) / 60).toNat (by omega) (by omega)]
end

def Scan (f u : Int) (P : Nat → List UInt8) (k : Nat) (z : Bool) (q : List UInt8) : Prop := (scan f u P k).isSome = z ∧ (scan f u P k).getD nought = q
theorem Scan.hit {f u : Int} {P : Nat → List UInt8} {k : Nat} (e : f + (k : Int) * 60 = u) : Scan f u P (k + 1) true (P k) := by
  unfold Scan; rw [scan, if_pos e]; exact ⟨rfl, rfl⟩
theorem Scan.miss {f u : Int} {P : Nat → List UInt8} {k : Nat} {z : Bool} {q : List UInt8} (h : Scan f u P k z q) (e : ¬ f + (k : Int) * 60 = u) : Scan f u P (k + 1) z q := by
  unfold Scan; rw [scan, if_neg e]; exact h

theorem Peps.fresh {w : World} {b : Nat} {t : TypeId} {P : Nat → List UInt8} {p : List UInt8} (h : Peps w b t 1 1 P) (hp : p.length = 16) : Peps (w.setCells b 0 (pc p)) b t 1 1 (fun _ => p) := by
  have h0 : Peps w b t 1 0 (fun _ => p) := ⟨h.blk, fun i hi => by omega⟩
  have := h0.step (Nat.lt_succ_self 0) (fun _ _ => hp)
  simpa using this

set_option maxRecDepth 100000 in
set_option maxHeartbeats 1000000 in
theorem law3 (f u : Int) (a : Option Addr) (n c : Nat) (P : Nat → List UInt8) (w : World) (h : PepsAt w a n P) (hP : ∀ i, i < n → (P i).length = 16) (hn : n ≤ maxLen)
    (hf0 : -9223372036854775808 ≤ f) (hf1 : f ≤ 9223372036854775807) : Calls Try.prog 3 #[.int .i64 f, .slice a n c, .int .i64 u] w (Law w) := by
  have hb7 := zzb7 f u a n c w hn
  go_enter Try.func3, Try.ntmps3
  go_wp2_with fail
  refine hb7.mono ?_
  rintro e w ⟨b, rfl, rfl, hg⟩
  clear hb7
  cases b with
  | false =>
    go_wp2
    go_ret
    exact ⟨rfl, Below.refl _ _⟩
  | true =>
  clear hg
  by_cases h1 : (65536 : Int) < (n : Int)
  · go_wp2
    go_ret
    exact ⟨rfl, Below.refl _ _⟩
  have hn' : n ≤ 65536 := by omega
  go_upto_region 6 with fail
  go_cut [35] (fun s wc => w = wc ∧ ∃ b : Bool, s = .bool b ∧ (b = false → 0 < n → f + ((n : Int) - 1) * 60 ≤ 9223372036854775807))
  case first =>
    by_cases h0 : n = 0
    · subst h0
      go_wp2_with fail
      go_meet
      exact ⟨rfl, _, rfl, fun _ h => absurd h (Nat.lt_irrefl _)⟩
    · by_cases hc : 9223372036854775807 - ((n : Int) - 1) * 60 < f
      · go_wp2_with fail
        go_meet
        exact ⟨rfl, true, by simp [*], fun h => by cases h⟩
      · go_wp2_with fail
        go_meet
        exact ⟨rfl, false, by simp [*], fun _ _ => by omega⟩
  case rest =>
  obtain ⟨rfl, b, rfl, hf⟩ := hcut
  cases b with
  | true =>
    go_wp2
    go_ret
    exact ⟨rfl, Below.refl _ _⟩
  | false =>
  replace hf := hf rfl
  have C8 := clone8' a n c P w h hP hn'
  go_wp2_with fail
  refine C8.mono ?_
  rintro e w1 ⟨a1, c1, rfl, hB1, hA1⟩
  clear C8
  have C9 := new9' f a1 n c1 P w1 hA1 hP hn'
  go_wp2_with fail
  refine C9.mono ?_
  rintro e w2 ⟨o, b, rfl, hB2, ho, hb, hob, hO, hA⟩
  clear C9
  have C10 := look10' o f u (some ⟨b, 0, none⟩) n n P w2 hO hA.view hP hn' hf0 hf
  go_wp2_with fail
  refine C10.mono ?_
  rintro e w3 ⟨p1, b1, rfl, hl1, hp1, hb1, hB3⟩
  clear C10
  go_upto_region 11 with (refine wpList_store_mid (by rfl) 28 _ _ (by rfl) w3.heap.size 0 (pc p1).toArray (by rfl) (by rfl) (there16 w3 28 p1 hl1) (size28' hl1) (all_oneCell_toArray (pc_one _)) ?_)
  obtain ⟨w4, hw4⟩ : ∃ w4, (w3.alloc (.cells zero16 28)).setCells w3.heap.size 0 (pc p1) = w4 := ⟨_, rfl⟩
  have hB4 : Below w3.heap.size w3 w4 := hw4 ▸ below16 w3 28 (pc p1)
  have r4 : w4.rangeAt w3.heap.size 0 (pc p1) := hw4 ▸ range16 w3 28 p1 hl1
  unfold zero16 at hw4
  rw [hw4]
  clear hw4
  go_upto_region 12 with (first
    | (refine wpList_load_mid (by rfl) 28 _ (by rfl) w3.heap.size 0 (by rfl) (pc p1) _ r4 Try.underlying28 rfl (size28 hl1) ?_)
    | (refine wpList_store_mid (by rfl) 27 _ _ (by rfl) w4.heap.size 0 (pc p1).toArray (by rfl) (by rfl) (there16 w4 27 p1 hl1) (size27' hl1) (all_oneCell_toArray (pc_one _)) ?_))
  obtain ⟨w5, hw5⟩ : ∃ w5, (w4.alloc (.cells zero16 27)).setCells w4.heap.size 0 (pc p1) = w5 := ⟨_, rfl⟩
  have hB5 : Below w4.heap.size w4 w5 := hw5 ▸ below16 w4 27 (pc p1)
  have r5 : w5.rangeAt w4.heap.size 0 (pc p1) := hw5 ▸ range16 w4 27 p1 hl1
  unfold zero16 at hw5
  rw [hw5]
  clear hw5
  have hB25 := seqB hB3 (seqB hB4 hB5)
  go_upto_region 14 with fail
  obtain ⟨w6, hw6⟩ : ∃ w6, w5.alloc (.cells zero16 27) = w6 := ⟨_, rfl⟩
  have hB6 : Below w5.heap.size w5 w6 := hw6 ▸ (Below.refl _ _).alloc (Nat.le_refl _) _
  have p6 : Peps w6 w5.heap.size 27 1 1 (fun _ => nought) := hw6 ▸ ⟨⟨zero16, blk_alloc_new _ _, rfl⟩, fun i hi => by
    have : i = 0 := by omega
    subst this; exact range16n w5 27⟩
  unfold zero16 at hw6
  rw [hw6]
  clear hw6
  have hA5 : PepsAt w5 a1 n P := (hA1.below hP (seqB hB2 hB25))
  have s56 : w5.heap.size < w6.heap.size := p6.lt
  go_wp2_with fail
  go_loopg [12, 14, 15] n (fun g s x i wr => ∃ k z q y, k ≤ n ∧ g = n - k ∧ i = .int .i64 (k : Nat) ∧ s = .bool z ∧ x = .int .i64 y ∧ Scan f u P k z q ∧ q.length = 16 ∧ (k < n → y = f + (k : Int) * 60) ∧ Below w5.heap.size w5 wr ∧ Peps wr w5.heap.size 27 1 1 (fun _ => q))
  case atStart => exact ⟨0, false, nought, f, Nat.zero_le _, rfl, rfl, rfl, rfl, ⟨rfl, rfl⟩, rfl, fun _ => by simp, hB6, p6⟩
  case round =>
    obtain ⟨k, z, q, y, hk, rfl, rfl, rfl, rfl, hz, hq, hy, hB, hp⟩ := hrel
    by_cases hlt : k < n
    · have hl := hf (by omega)
      have hy' := hy hlt
      subst hy'
      clear hy
      obtain ⟨b2, off2, hx, hc2⟩ := hA5 (by omega)
      have hpk := hP k hlt
      have q2 : wr.rangeAt b2 (off2 + k * 16) (pc (P k)) := rangeAt_block (hc2 k hlt) (hB.block b2 (rangeAt_lt (hc2 k hlt) hpk))
      clear hc2
      have j1 : (k : Int) < (n : Int) := by omega
      by_cases he : f + (k : Int) * 60 = u
      · have hsc : look f n P u = some (P k) := look_scan.trans (scan_some n k hlt he)
        rw [hsc] at hp1 hb1
        have e1 : P k = p1 := hp1
        have e2 : true = b1 := hb1
        subst e1 e2
        clear hp1 hb1 hsc
        have hth : wr.there w5.heap.size 0 (pc (P k)).toArray.size := hp.there (by rw [List.size_toArray, pc_length, hpk]; omega)
        obtain ⟨W, hW⟩ : ∃ W, wr.setCells w5.heap.size 0 (pc (P k)) = W := ⟨_, rfl⟩
        have hpW : Peps W w5.heap.size 27 1 1 (fun _ => P k) := hW ▸ hp.fresh hpk
        have hBW : Below w5.heap.size w5 W := hW ▸ below_setCells hB (Nat.le_refl _) 0 (pc (P k))
        have g1 : W.rangeAt w4.heap.size 0 (pc (P k)) := rangeAt_block r5 (hBW.block _ (rangeAt_lt r5 hl1))
        have g2 : W.rangeAt w5.heap.size 0 (pc (P k)) := by have := hpW.at_ 0 (by omega); rw [Nat.zero_mul] at this; exact this
        have hBs := seqB hB25 hBW
        have C11 := holds11 o f (some ⟨b, 0, none⟩) a1 n n c1 P W (hO.of_block (hBs.block o hO.lt)) (hA.of_block (hBs.block b hA.lt)).view (hA5.below hP hBW) hP hn'
        have hne := differ27 (P k) hpk
        clear hA5 hA1
        subst hx he
        go_wp2_with (first
          | (refine wpList_load_mid (by rfl) 27 _ (by rfl) b2 (off2 + k * 16) (by rfl) (pc (P k)) _ q2 Try.underlying27 rfl (size27 hpk) ?_)
          | (refine wpList_store_mid (by rfl) 27 _ _ (by rfl) w5.heap.size 0 (pc (P k)).toArray (by rfl) (by rfl) hth (size27' hpk) (all_oneCell_toArray (pc_one _)) ?_; rw [List.toList_toArray, hW])
          | (refine wpList_load_midG (by rfl) 27 _ (by rfl) w4.heap.size 0 (by rfl) (pc (P k)) _ g1 Try.underlying27 rfl (size27 hpk) ?_)
          | (refine wpList_load_midG (by rfl) 27 _ (by rfl) w5.heap.size 0 (by rfl) (pc (P k)) _ g2 Try.underlying27 rfl (size27 hpk) ?_))
        refine C11.mono ?_
        rintro e w7 ⟨rfl, hB7⟩
        clear C11
        go_wp2
        go_ret
        exact ⟨rfl, seqB (seqB (seqB hB1 hB2) hBs) hB7⟩
      · clear hx q2
        have hz' := hz.miss he
        have hkn : k + 1 ≤ n := hlt
        by_cases hk1 : (k : Int) + 1 < (n : Int)
        · have wr1 : wrap64 (f + (k : Int) * 60 + 60) = f + (k : Int) * 60 + 60 := by unfold wrap64; omega
          go_wp2_with fail
          go_roundg (n - (k + 1))
          case measure => omega
          case rel => exact ⟨k + 1, z, q, _, hkn, rfl, by go_num, rfl, rfl, hz', hq, fun _ => by push_cast; omega, hB, hp⟩
        · go_wp2_with fail
          go_roundg (n - (k + 1))
          case measure => omega
          case rel => exact ⟨k + 1, z, q, _, hkn, rfl, by go_num, rfl, rfl, hz', hq, fun hx => by omega, hB, hp⟩
    · have hkn : k = n := by omega
      subst hkn
      rw [look_scan] at hp1 hb1
      have e1 : p1 = q := hp1.symm.trans hz.2
      have e2 : b1 = z := hb1.symm.trans hz.1
      subst e1 e2
      clear hp1 hb1 hz hy
      have g1 : wr.rangeAt w4.heap.size 0 (pc p1) := rangeAt_block r5 (hB.block _ (rangeAt_lt r5 hl1))
      have g2 : wr.rangeAt w5.heap.size 0 (pc p1) := by have := hp.at_ 0 (by omega); rw [Nat.zero_mul] at this; exact this
      have hBs := seqB hB25 hB
      have C11 := holds11 o f (some ⟨b, 0, none⟩) a1 k k c1 P wr (hO.of_block (hBs.block o hO.lt)) (hA.of_block (hBs.block b hA.lt)).view (hA5.below hP hB) hP hn'
      have hne := differ27 p1 hl1
      clear hA5 hA1
      cases b1
      all_goals
        go_wp2_with (first
          | (refine wpList_load_midG (by rfl) 27 _ (by rfl) w4.heap.size 0 (by rfl) (pc p1) _ g1 Try.underlying27 rfl (size27 hl1) ?_)
          | (refine wpList_load_midG (by rfl) 27 _ (by rfl) w5.heap.size 0 (by rfl) (pc p1) _ g2 Try.underlying27 rfl (size27 hl1) ?_))
        refine C11.mono ?_
        rintro e w7 ⟨rfl, hB7⟩
        clear C11
        go_wp2
        go_ret
        exact ⟨rfl, seqB (seqB (seqB hB1 hB2) hBs) hB7⟩
end Go.Proofs.Qxb6601228a
