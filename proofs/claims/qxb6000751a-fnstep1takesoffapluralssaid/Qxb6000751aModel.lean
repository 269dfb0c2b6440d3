/-
  SEAT b6000751a: zzBytes (12), cloneBytes (13), modelMeasure (15), and the law FnMeasureCountsVowelConsonantTurns (3).
-/
import Derived.Test.Qxb6000751aMeasure
namespace Go.Proofs.Qxb6000751a
open Go.RowKit Go.Deep
set_option linter.unusedVariables false

theorem zzb12 (y : Int) (a : Option Addr) (n c : Nat) (w : World) (hn : n ≤ maxLen) : Calls Try.prog 12 #[.slice a n c, .int .i64 y] w (Guards w (n ≤ 1048576)) := by
  unfold maxLen at hn
  by_cases h : (1048576 : Int) < (n : Int)
  · go_enter Try.func12, Try.ntmps12
    go_wp2
    go_ret
    exact Guards.no _ _
  · go_enter Try.func12, Try.ntmps12
    go_wp2
    go_ret
    exact Guards.yes _ (by omega)

theorem clone13_nil (n c : Nat) (w : World) : Calls Try.prog 13 #[.slice none n c] w fun e w' => e = .returned (.slice none 0 0) ∧ w = w' := by
  have q22 : ∀ (w : World) (a : Option Addr) (n c n' c' : Nat), (binOp .eql 22 (.slice a n c) (.slice none n' c')).run Try.prog w = .ok (.bool a.isNone) w := fun w a n c n' c' => Lib.run_eql_slice_nil w _ _ a n c n' c' Try.underlying22
  go_enter Try.func13, Try.ntmps13
  go_wp2
  go_ret
  exact ⟨rfl, rfl⟩

theorem addP (b o i : Nat) : (⟨b, o, none⟩ : Addr).add i = ⟨b, o + i, none⟩ := by unfold Addr.add; split <;> simp_all
def lets (z : Nat → Int) (n : Nat) : List Value := (List.range n).map (u8s z)
theorem lets_length (z : Nat → Int) (n : Nat) : (lets z n).length = n := by simp [lets]
theorem lets_get (z : Nat → Int) (n j : Nat) (v : Value) (h : (lets z n)[j]? = some v) : j < n ∧ v = .int .u8 (z j) := by
  have hj : j < n := by have := (List.getElem?_eq_some_iff.1 h).1; rw [lets_length] at this; exact this
  refine ⟨hj, ?_⟩
  simp [lets, hj, u8s] at h
  exact h.symm
theorem lets_one (z : Nat → Int) (n : Nat) : ∀ v ∈ lets z n, v.oneCell' = true := fun v hv => by
  obtain ⟨i, _, rfl⟩ := List.mem_map.1 hv
  rfl
theorem rowIs_lets {w : World} {b : Nat} {z : Nat → Int} {n : Nat} (h : w.heap[b]? = some (.cells (lets z n).toArray 5 (0, 0))) : w.rowIs b 5 n (u8s z) := by
  refine ⟨(lets z n).toArray, h, by simp [lets_length], fun i hi => ?_⟩
  simp [lets, hi]

set_option maxHeartbeats 400000 in
theorem clone13_some (x : Addr) (n c : Nat) (z : Nat → Int) (w : World) (hz : RowAt w (some x) n (u8s z)) (hn : n ≤ 1048576) :
    Calls Try.prog 13 #[.slice (some x) n c] w fun e w' => e = .returned (.slice (some ⟨w.heap.size, 0, none⟩) n n) ∧ Below w.heap.size w w' ∧ w'.rowIs w.heap.size 5 n (u8s z) := by
  have hmk := run_make_row' (P := Try.prog) 22 5 (.int .u8 0) 1 Try.underlying22 Try.info5 rfl .i64 .i64 n (by omega) (by omega)
  have q22 : ∀ (w : World) (a : Option Addr) (n c n' c' : Nat), (binOp .eql 22 (.slice a n c) (.slice none n' c')).run Try.prog w = .ok (.bool a.isNone) w := fun w a n c n' c' => Lib.run_eql_slice_nil w _ _ a n c n' c' Try.underlying22
  have hs : ∀ j v, (lets z n)[j]? = some v → (w.alloc (.cells (madeCells #[.int .u8 0] n) 5)).cell? (x.add j) = some v := fun j v hv => by
    obtain ⟨hj, rfl⟩ := lets_get z n j v hv
    obtain ⟨b, off, hx, hc⟩ := hz (by omega)
    cases hx
    rw [addP]
    exact Lib.cell?_alloc_some _ (hc j hj)
  have hcp := run_copy_row (P := Try.prog) (w.alloc (.cells (madeCells #[.int .u8 0] n) 5)) 22 22 3 5 w.heap.size 0 n n x n c (madeCells #[.int .u8 0] n) 5 (lets z n) Try.underlying22 Try.size5 (blk_alloc_new _ _) (by rw [lets_length]; exact (Nat.min_self n).symm) hs (by rw [lets_length, size_madeCells]; omega) (lets_one z n)
  obtain ⟨W, hW⟩ : ∃ W, (w.alloc (.cells (madeCells #[.int .u8 0] n) 5)).setRow w.heap.size ((madeCells #[.int .u8 0] n).toList.take 0 ++ lets z n ++ (madeCells #[.int .u8 0] n).toList.drop (0 + (lets z n).length)).toArray = W := ⟨_, rfl⟩
  rw [hW] at hcp
  have hB : Below w.heap.size w W := hW ▸ below_setRow ((Below.refl _ _).alloc (Nat.le_refl _) _) (Nat.le_refl _) _
  have hr : W.rowIs w.heap.size 5 n (u8s z) := by
    apply rowIs_lets
    rw [← hW, setRow_heap _ _ _ _ _ _ (blk_alloc_new _ _)]
    have : (madeCells #[Value.int .u8 0] n).toList.drop (0 + (lets z n).length) = [] := by
      apply List.drop_eq_nil_of_le
      rw [lets_length]; simp [size_madeCells]
    rw [this]; simp
  clear hW hs hz
  go_enter Try.func13, Try.ntmps13
  go_wp2
  go_ret
  exact ⟨rfl, hB, hr⟩

/-- cloneBytes, whatever the slice. -/
def Cloned (w : World) (n : Nat) (z : Nat → Int) (e : Ending) (w' : World) : Prop := ∃ a, e = .returned (.slice a n n) ∧ Below w.heap.size w w' ∧ RowAt w' a n (u8s z)
theorem clone13 (a : Option Addr) (n c : Nat) (z : Nat → Int) (w : World) (h : RowAt w a n (u8s z)) (hn : n ≤ 1048576) : Calls Try.prog 13 #[.slice a n c] w (Cloned w n z) := by
  cases a with
  | none =>
    have h0 : n = 0 := by
      rcases Nat.eq_zero_or_pos n with h0 | h0
      · exact h0
      · obtain ⟨b, off, hx, _⟩ := h h0; cases hx
    subst h0
    refine (clone13_nil 0 c w).mono ?_
    rintro e w' ⟨rfl, rfl⟩
    exact ⟨none, rfl, Below.refl _ _, fun h => absurd h (Nat.lt_irrefl _)⟩
  | some x =>
    refine (clone13_some x n c z w h hn).mono ?_
    rintro e w' ⟨rfl, hB, hr⟩
    exact ⟨_, rfl, hB, RowAt.of_rowIs hr (Nat.le_refl _)⟩

def bools (z : Nat → Int) : Nat → Value := fun i => .bool (cons z i)

theorem fill_row {w : World} {b t j k : Nat} {f : Nat → Value} {d v : Value} (h : w.rowIs b t j (fill f d k)) (e : f k = v) : (w.setCell ⟨b, k, none⟩ v).rowIs b t j (fill f d (k + 1)) :=
  e ▸ (h.set k (f k)).congr (fun i hi => fill_succ f d k i)

set_option maxRecDepth 100000 in
set_option maxHeartbeats 1000000 in
theorem model15 (a : Option Addr) (n c : Nat) (z : Nat → Int) (w : World) (hR : RowAt w a n (u8s z)) (hn : n ≤ 1048576) (j : Nat) (hj : j ≤ n) :
    Calls Try.prog 15 #[.slice a n c, .int .i64 j] w fun e w' => e = .returned (.int .i64 (turns z j)) ∧ Below w.heap.size w w' := by
  have hmk := run_make_row' (P := Try.prog) 43 4 (.bool false) 1 Try.underlying43 Try.info4 rfl .i64 .i64 j (by omega) (by omega)
  go_enter Try.func15, Try.ntmps15
  go_wp2_with fail
  clear hmk
  go_loopg [6, 7] j (fun g s i wr => ∃ k m : Nat, k ≤ j ∧ g = j - k ∧ i = .int .i64 k ∧ s = .int .i64 m ∧ turns z k = m ∧ Below w.heap.size w wr ∧ wr.rowIs w.heap.size 4 j (fill (bools z) (.bool false) k))
  case atStart => exact ⟨0, 0, Nat.zero_le _, rfl, rfl, rfl, rfl, (Below.refl _ _).alloc (Nat.le_refl _) _, (World.rowIs_made w _ j 4).congr (fun i hi => fill_zero _ _ _)⟩
  case round =>
    obtain ⟨k, m, hk, rfl, rfl, rfl, hm, hB, hr⟩ := hrel
    have HM : Hid (turns z k = m) := hm
    have hmk : (m : Int) ≤ 1048576 := by have := turns_le z k; omega
    clear hm
    by_cases hlt : k < j
    · obtain ⟨b, off, hx, hc⟩ := hR (by omega)
      have hck : wr.cell? ⟨b, off + k, none⟩ = some (.int .u8 (z k)) := by
        rw [hB.cell (World.block_lt_of_cell? _ _ (hc k (by omega)))]; exact hc k (by omega)
      have hfk := hr.frozen k
      obtain ⟨v, hv⟩ : ∃ v, wr.cell? ⟨w.heap.size, k, none⟩ = some v := ⟨_, hr.cell hlt⟩
      have i1 : (k : Int) < (j : Int) := by omega
      have i2 : (k : Int) < (n : Int) := by omega
      have HX : Hid (a = some ⟨b, off, none⟩) := hx
      clear hx hc
      go_upto_block 2 with (obtain rfl := HX.out)
      go_cut [18] (fun _ wc => Below w.heap.size w wc ∧ wc.rowIs w.heap.size 4 j (fill (bools z) (.bool false) (k + 1)))
      case first =>
        by_cases h1 : z k = 97
        · have hv2 := cons_v (z := z) (i := k) (.inl h1)
          go_wp2_with fail
          go_meet
          exact ⟨hB.setCell (Nat.le_refl _) _, fill_row hr (by rw [bools, hv2])⟩
        by_cases h2 : z k = 101
        · have hv2 := cons_v (z := z) (i := k) (.inr (.inl h2))
          go_wp2_with fail
          go_meet
          exact ⟨hB.setCell (Nat.le_refl _) _, fill_row hr (by rw [bools, hv2])⟩
        by_cases h3 : z k = 105
        · have hv2 := cons_v (z := z) (i := k) (.inr (.inr (.inl h3)))
          go_wp2_with fail
          go_meet
          exact ⟨hB.setCell (Nat.le_refl _) _, fill_row hr (by rw [bools, hv2])⟩
        by_cases h4 : z k = 111
        · have hv2 := cons_v (z := z) (i := k) (.inr (.inr (.inr (.inl h4))))
          go_wp2_with fail
          go_meet
          exact ⟨hB.setCell (Nat.le_refl _) _, fill_row hr (by rw [bools, hv2])⟩
        by_cases h5 : z k = 117
        · have hv2 := cons_v (z := z) (i := k) (.inr (.inr (.inr (.inr h5))))
          go_wp2_with fail
          go_meet
          exact ⟨hB.setCell (Nat.le_refl _) _, fill_row hr (by rw [bools, hv2])⟩
        by_cases h6 : z k = 121
        · cases k with
          | zero =>
            have hv2 := cons_y0 h6
            go_wp2_with fail
            go_meet
            exact ⟨hB.setCell (Nat.le_refl _) _, fill_row hr (by rw [bools, hv2])⟩
          | succ p =>
            have hv2 := cons_y h6
            have hcp : wr.cell? ⟨w.heap.size, p, none⟩ = some (.bool (cons z p)) := by
              rw [hr.cell (by omega), fill_full _ _ (Nat.lt_succ_self p)]; rfl
            have hne : ((p : Int) + 1 == 0) = false := by rw [beq_eq_false_iff_ne]; omega
            have i3 : (p : Int) < (j : Int) := by omega
            go_wp2_with fail
            go_meet
            exact ⟨hB.setCell (Nat.le_refl _) _, fill_row hr (by rw [bools, hv2])⟩
        · have hv2 := cons_c (z := z) (i := k) (by unfold isV; omega) h6
          go_wp2_with fail
          go_meet
          exact ⟨hB.setCell (Nat.le_refl _) _, fill_row hr (by rw [bools, hv2])⟩
      case rest =>
      obtain ⟨hB2, hr2⟩ := hcut
      clear hck hfk hv hB hr
      cases k with
      | zero =>
        go_wp2_with fail
        go_roundg (j - (0 + 1))
        case measure => omega
        case rel => exact ⟨0 + 1, m, by omega, rfl, by go_num, rfl, HM.out, hB2, hr2⟩
      | succ p =>
        have g1 : wc.cell? ⟨w.heap.size, p, none⟩ = some (.bool (cons z p)) := by
          rw [hr2.cell (by omega), fill_full _ _ (by omega)]; rfl
        have g2 : wc.cell? ⟨w.heap.size, p + 1, none⟩ = some (.bool (cons z (p + 1))) := by
          rw [hr2.cell (by omega), fill_full _ _ (by omega)]; rfl
        have i3 : (p : Int) < (j : Int) := by omega
        have i4 : (0 : Int) < (p : Int) + 1 := by omega
        cases hcp : cons z p with
        | true =>
          have ht := turns_cc hcp
          rw [hcp] at g1
          go_wp2_with fail
          go_roundg (j - (p + 1 + 1))
          case measure => omega
          case rel => exact ⟨p + 1 + 1, m, by omega, rfl, by go_num, rfl, ht.trans HM.out, hB2, hr2⟩
        | false =>
          rw [hcp] at g1
          cases hcq : cons z (p + 1) with
          | true =>
            have ht := turns_vc hcp hcq
            rw [hcq] at g2
            go_wp2_with fail
            go_roundg (j - (p + 1 + 1))
            case measure => omega
            case rel => exact ⟨p + 1 + 1, m + 1, by omega, rfl, by go_num, by go_num, by rw [ht, HM.out], hB2, hr2⟩
          | false =>
            have ht := turns_v hcq
            rw [hcq] at g2
            go_wp2_with fail
            go_roundg (j - (p + 1 + 1))
            case measure => omega
            case rel => exact ⟨p + 1 + 1, m, by omega, rfl, by go_num, rfl, ht.trans HM.out, hB2, hr2⟩
    · go_wp2
      go_ret
      have : k = j := by omega
      subst this
      exact ⟨by rw [HM.out]; rfl, hB⟩

set_option maxRecDepth 100000 in
set_option maxHeartbeats 1000000 in
theorem law3 (a : Option Addr) (n c : Nat) (z : Nat → Int) (y : Int) (w : World) (h : RowAt w a n (u8s z)) (hn : n ≤ maxLen) : Calls Try.prog 3 #[.slice a n c, .int .i64 y] w (Law w) := by
  have hb12 := zzb12 y a n c w hn
  go_enter Try.func3, Try.ntmps3
  go_wp2_with fail
  refine hb12.mono ?_
  rintro e w ⟨b, rfl, rfl, hg⟩
  clear hb12
  cases b with
  | false =>
    go_wp2
    go_ret
    exact ⟨rfl, Below.refl _ _⟩
  | true =>
  clear hg
  by_cases h1 : (4096 : Int) < (n : Int)
  · go_wp2
    go_ret
    exact ⟨rfl, Below.refl _ _⟩
  by_cases h2 : y < 0
  · go_wp2
    go_ret
    exact ⟨rfl, Below.refl _ _⟩
  by_cases h3 : (n : Int) < y
  · go_wp2
    go_ret
    exact ⟨rfl, Below.refl _ _⟩
  obtain ⟨j, rfl⟩ : ∃ j : Nat, y = (j : Int) := ⟨y.toNat, by omega⟩
  have hj : j ≤ n := by omega
  have hn' : n ≤ 1048576 := by omega
  have C13 := clone13 a n c z w h hn'
  go_wp2_with fail
  refine C13.mono ?_
  rintro e w1 ⟨a1, rfl, hB1, hA1⟩
  clear C13
  have C14 := zz14 a1 n n z w1 hA1 hn' j hj
  go_wp2_with fail
  refine C14.mono ?_
  rintro e w2 ⟨rfl, hB2⟩
  clear C14
  have C15 := model15 a1 n n z w2 (hA1.below hB2) hn' j hj
  go_wp2_with fail
  refine C15.mono ?_
  rintro e w3 ⟨rfl, hB3⟩
  clear C15
  go_wp2
  go_ret
  exact ⟨rfl, seqB hB1 (seqB hB2 hB3)⟩
end Go.Proofs.Qxb6000751a
