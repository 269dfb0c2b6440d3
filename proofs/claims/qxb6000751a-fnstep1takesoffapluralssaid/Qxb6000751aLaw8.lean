/-
  SEAT b6000751a: the law FnStep1TakesOffAPluralS (8), walked.
-/
import Derived.Test.Qxb6000751aPure
namespace Go.Proofs.Qxb6000751a
open Go.RowKit Go.Deep
set_option linter.unusedVariables false

theorem tail_no {l : List Int} {s : ByteArray} (h : ¬ (s.size ≤ l.length ∧ ∀ i (h : i < s.size), lz l (l.length - s.size + i) = (s[i].toNat : Int))) : ¬ Tail l s := h

/-- The world behind make and copy. -/
def copy8 (w1 : World) (l : List Int) (p : Nat) : World :=
  (w1.alloc (.cells (madeCells #[.int .u8 0] (p + 2)) 5)).setRow w1.heap.size ((madeCells #[.int .u8 0] (p + 2)).toList.take 0 ++ lets (lz l) (p + 1) ++ (madeCells #[.int .u8 0] (p + 2)).toList.drop (0 + (lets (lz l) (p + 1)).length)).toArray
theorem copy8_below (w1 : World) (l : List Int) (p : Nat) : Below w1.heap.size w1 (copy8 w1 l p) :=
  below_setRow ((Below.refl _ _).alloc (Nat.le_refl _) _) (Nat.le_refl _) _
theorem copy8_row (w1 : World) (l : List Int) (p : Nat) : (copy8 w1 l p).rowIs w1.heap.size 5 (p + 2) (fill (u8s (lz l)) (.int .u8 0) (p + 1)) := by
  refine ⟨_, setRow_heap _ _ _ _ _ _ (blk_alloc_new _ _), ?_, fun i hi => ?_⟩
  · simp [lets_length, size_madeCells]
  · by_cases h : i < p + 1
    · rw [fill_full _ _ h]
      simp only [List.take_zero, List.nil_append]
      rw [List.getElem?_toArray, List.getElem?_append_left (by rw [lets_length]; exact h)]
      simp [lets, h]
    · have : i = p + 1 := by omega
      subst this
      simp [fill, lets, madeCells, Nat.mod_one]

set_option maxRecDepth 100000 in
set_option maxHeartbeats 2000000 in
theorem law8 (a : Option Addr) (c : Nat) (l : List Int) (w : World) (h : RowAt w a l.length (u8s (lz l))) (hr : ∀ i, 0 ≤ lz l i ∧ lz l i < 256) (hn : l.length ≤ maxLen) : Calls Try.prog 8 #[.slice a l.length c] w (Law w) := by
  have hb := zzb22 a l.length c w hn
  obtain ⟨n, hN⟩ : ∃ n, l.length = n := ⟨_, rfl⟩
  rw [hN] at hb h
  rw [hN]
  go_enter Try.func8, Try.ntmps8
  go_wp2_with fail
  refine hb.mono ?_
  rintro e w ⟨r, rfl, rfl, hg⟩
  clear hb
  cases r with
  | false =>
    go_wp2
    go_ret
    exact ⟨rfl, Below.refl _ _⟩
  | true =>
  clear hg
  by_cases h1 : (4096 : Int) < (n : Int)
  · go_wp2
    go_ret
    exact ⟨rfl, Below.refl _ _⟩
  have hn4 : n ≤ 4096 := by omega
  by_cases h2 : n = 0
  · subst h2
    go_wp2
    go_ret
    exact ⟨rfl, Below.refl _ _⟩
  obtain ⟨b, off, hx, hat⟩ := h (by omega)
  subst hx
  obtain ⟨p, hp⟩ : ∃ p, n = p + 1 := ⟨n - 1, by omega⟩
  subst hp
  have cp : w.cell? ⟨b, off + p, none⟩ = some (.int .u8 (lz l p)) := hat p (by omega)
  have e0 : ((p + 1 : Nat) : Int) = (p : Int) + 1 := by omega
  have e1 : (p : Int) + 1 - 1 = (p : Int) := by omega
  have e2 : ((p : Int) + 1 == 0) = false := by rw [beq_eq_false_iff_ne]; omega
  have n3 : (p : Int) < (p : Int) + 1 := by omega
  have n4 : (p : Int) ≤ 4096 := by omega
  have h1' : ¬ ((4096 : Int) < (p : Int) + 1) := by omega
  clear hat h1 h2
  by_cases h3 : lz l p = 115
  · go_wp2
    go_ret
    exact ⟨rfl, Below.refl _ _⟩
  have h3b : (lz l p == 115) = false := by rw [beq_eq_false_iff_ne]; exact h3
  have hT1 := tail23 (some ⟨b, off, none⟩) (p + 1) c (lz l) ⟨#[115, 115, 101]⟩ w h (by omega) (by decide) (by decide)
  go_wp2_with fail
  refine hT1.mono ?_
  rintro e w' ⟨r, q, rfl, rfl, ht1⟩
  clear hT1
  cases r with
  | true =>
    go_wp2
    go_ret
    exact ⟨rfl, below_drewN (Below.refl _ _) q⟩
  | false =>
  have T1 : Hid (¬ Tail l ⟨#[115, 115, 101]⟩) := tail_no (by rw [hN]; exact ht1 rfl)
  clear ht1
  have hT2 := tail23 (some ⟨b, off, none⟩) (p + 1) c (lz l) ⟨#[105, 101]⟩ (w.drewN q) h (by omega) (by decide) (by decide)
  go_wp2_with fail
  refine hT2.mono ?_
  rintro e w' ⟨r, q2, rfl, rfl, ht2⟩
  clear hT2
  cases r with
  | true =>
    go_wp2
    go_ret
    exact ⟨rfl, below_drewN (Below.refl _ _) (q + q2)⟩
  | false =>
  have T2 : ¬ Tail l ⟨#[105, 101]⟩ := tail_no (by rw [hN]; exact ht2 rfl)
  have HS : Hid (step1 (l ++ [115]) = step1 l) := step1_s hr (by omega) (by rw [hN]; exact h3) T1.out T2
  clear ht2 T1 T2 h3 h3b
  obtain ⟨w0, hw0⟩ : ∃ w0, (w.drewN q).drewN q2 = w0 := ⟨_, rfl⟩
  have hB0 : Below w.heap.size w w0 := hw0 ▸ below_drewN (below_drewN (Below.refl _ _) q) q2
  have hA0 : RowAt w0 (some ⟨b, off, none⟩) (p + 1) (u8s (lz l)) := hw0 ▸ h
  rw [hw0]
  clear hw0 cp h
  have C13 := clone13_some ⟨b, off, none⟩ (p + 1) c (lz l) w0 hA0 (by omega)
  go_wp2_with fail
  refine C13.mono ?_
  rintro e w1 ⟨rfl, hB1, hr1⟩
  clear C13
  have hmk := run_make_row' (P := Try.prog) 22 5 (.int .u8 0) 1 Try.underlying22 Try.info5 rfl .i64 .i64 (p + 2) (by omega) (by omega)
  have e5 : ((p + 2 : Nat) : Int) = (p : Int) + 1 + 1 := by omega
  rw [e5] at hmk
  have hcp := run_copy_row (P := Try.prog) (w1.alloc (.cells (madeCells #[.int .u8 0] (p + 2)) 5)) 22 22 3 5 w1.heap.size 0 (p + 2) (p + 2) ⟨w0.heap.size, 0, none⟩ (p + 1) (p + 1) (madeCells #[.int .u8 0] (p + 2)) 5 (lets (lz l) (p + 1)) Try.underlying22 Try.size5 (blk_alloc_new _ _)
    (by rw [lets_length]; exact (Nat.min_eq_left (by omega)).symm) (fun j v hv => by
      obtain ⟨hj, rfl⟩ := lets_get (lz l) (p + 1) j v hv
      rw [addP, Nat.zero_add]
      exact Lib.cell?_alloc_some _ (hr1.cell hj)) (by rw [lets_length, size_madeCells]; omega) (lets_one (lz l) (p + 1))
  obtain ⟨W, hW⟩ : ∃ W, copy8 w1 l p = W := ⟨_, rfl⟩
  have hrW : W.rowIs w1.heap.size 5 (p + 2) (fill (u8s (lz l)) (.int .u8 0) (p + 1)) := hW ▸ copy8_row w1 l p
  have hBW : Below w1.heap.size w1 W := hW ▸ copy8_below w1 l p
  unfold copy8 at hW
  rw [hW] at hcp
  clear hW
  have cW : W.cell? ⟨w1.heap.size, p + 1, none⟩ = some (.int .u8 0) := by rw [hrW.cell (by omega)]; simp [fill]
  have fW : W.frozen? ⟨w1.heap.size, p + 1, none⟩ = false := hrW.frozen _
  have n5 : (p : Int) + 1 < (p : Int) + 2 := by omega
  have n6 : (0 : Int) ≤ (p : Int) + 1 := by omega
  go_wp2_with fail
  clear hmk hcp cW fW
  obtain ⟨w2, hw2⟩ : ∃ w2, W.setCell ⟨w1.heap.size, p + 1, none⟩ (.int .u8 115) = w2 := ⟨_, rfl⟩
  rw [hw2]
  have hr2 := hw2 ▸ hrW.set (p + 1) (.int .u8 115)
  have hB2 : Below w1.heap.size w1 w2 := hw2 ▸ hBW.setCell (Nat.le_refl _) _
  have hl' : (l ++ [115]).length = p + 2 := by rw [List.length_append, hN]; rfl
  clear hw2 hrW hBW
  have C19 := zz19 (l := l ++ [115]) hr2 (by omega) (fun i hi => by
    by_cases e : i = p + 1
    · subst e
      rw [if_pos rfl]
      have : lz (l ++ [115]) (p + 1) = 115 := by simp [lz, List.getD, ← hN]
      rw [this]
    · rw [if_neg e, fill_full _ _ (by omega), lz_app _ (by omega)]; rfl) (by omega)
  rw [hl'] at C19
  refine C19.mono ?_
  rintro e w3 ⟨rfl, hA3, hle3, hK3⟩
  clear C19 hr2
  rw [HS.out] at hA3 hle3 ⊢
  clear HS
  obtain ⟨L, HL⟩ : ∃ L, Hid (step1 l = L) := ⟨_, rfl⟩
  rw [HL.out] at hA3 hle3 ⊢
  have hB13 : Below w1.heap.size w1 w3 := hB2.trans (hK3.below (Nat.le_refl _) (Nat.le_refl _) hB2.size)
  have hr3 : w3.rowIs w0.heap.size 5 (p + 1) (u8s (lz l)) := hr1.of_block (hB13.block _ hr1.lt)
  clear hB2 hK3
  have C13 := clone13_some ⟨w0.heap.size, 0, none⟩ (p + 1) (p + 1) (lz l) w3 (RowAt.of_rowIs hr3 (Nat.le_refl _)) (by omega)
  go_wp2_with fail
  refine C13.mono ?_
  rintro e w4 ⟨rfl, hB4, hr4⟩
  clear C13
  have C19 := zz19 (l := l) hr4 (by omega) (fun i hi => rfl) (by omega)
  rw [hN] at C19
  go_wp2_with fail
  refine C19.mono ?_
  rintro e w5 ⟨rfl, hA5, hle5, hK5⟩
  clear C19
  rw [HL.out] at hA5 hle5 ⊢
  have hB35 : Below w3.heap.size w3 w5 := hB4.trans (hK5.below (Nat.le_refl _) (Nat.le_refl _) hB4.size)
  have C20 := same20 (some ⟨w1.heap.size, 0, none⟩) (some ⟨w3.heap.size, 0, none⟩) L.length (p + 2) (p + 1) (lz L) w5 (hA3.below hB35) hA5 (by omega)
  clear hK5 hr4 hr3 hr1 hA5
  go_wp2_with fail
  refine C20.mono ?_
  rintro e w6 ⟨rfl, q6, rfl⟩
  clear C20
  go_wp2
  go_ret
  exact ⟨rfl, below_drewN (seqB hB0 (seqB hB1 (seqB hB13 hB35))) q6⟩
end Go.Proofs.Qxb6000751a
