/-
  SEAT b6601170a: FnJoinInsertsAfterFirstPresentPlace's helpers: zzBytes (9), afterValid (12), firstPresent (17), cycleOrder (21).
-/
import Derived.Test.Qxb6601170aViews
namespace Go.Proofs.Qxb6601170a
open Go.RowKit Go.Deep
set_option linter.unusedVariables false

set_option maxHeartbeats 400000 in
theorem zzb9 (ac ap al aa : Option Addr) (M Mp n la cc cp cl ca : Nat) (A A2 : Nat → Option Addr) (L C L2 C2 : Nat → Nat) (w : World) (h : RowAt w ac M (slices A L C)) (h2 : RowAt w ap Mp (slices A2 L2 C2))
    (hM : M ≤ maxLen) (hMp : Mp ≤ maxLen) (hn : n ≤ maxLen) (hla : la ≤ maxLen) (hls : ∀ r, r < M → L r ≤ maxLen) (hls2 : ∀ r, r < Mp → L2 r ≤ maxLen) :
    Calls Try.prog 9 #[.slice ac M cc, .slice ap Mp cp, .slice al n cl, .slice aa la ca] w
      (Guards w (M ≤ 1048576 ∧ Mp ≤ 1048576 ∧ n ≤ 1048576 ∧ la ≤ 1048576 ∧ (∀ r, r < M → L r ≤ 1048576) ∧ ∀ r, r < Mp → L2 r ≤ 1048576)) := by
  unfold maxLen at hM hMp hn hla hls hls2
  go_enter Try.func9, Try.ntmps9
  go_wp2
  all_goals try (go_ret; exact Guards.no _ _)
  go_loopg [9, 10] M (fun g s i wr => w = wr ∧ ∃ q z : Nat, q ≤ M ∧ g = M - q ∧ i = .int .i64 q ∧ s = .int .i64 z ∧ z ≤ 1048576 ∧ ∀ r, r < q → L r ≤ 1048576)
  case atStart => exact ⟨rfl, 0, M, Nat.zero_le _, rfl, rfl, by go_num, by omega, fun r hr => by omega⟩
  case round =>
    obtain ⟨rfl, q, z, hq, rfl, rfl, rfl, hz, hl⟩ := hrel
    by_cases hlt : q < M
    · obtain ⟨b, off, rfl, hc⟩ := h (by omega)
      have hck : w.cell? ⟨b, off + q, none⟩ = some (.slice (A q) (L q) (C q)) := hc q hlt
      have hlk := hls q hlt
      clear hc h hls
      go_wp2
      all_goals try (go_ret; exact Guards.no _ _)
      go_roundg (M - (q + 1))
      case measure => omega
      case rel => exact ⟨rfl, q + 1, z + L q, by omega, rfl, by go_num, by go_num, by omega, fun r hr => by
        by_cases e : r = q
        · subst e; omega
        · exact hl r (by omega)⟩
    · have HL : Hid (∀ r, r < M → L r ≤ 1048576) := fun r hr => hl r (by omega)
      clear hl h hls
      go_wp2
      all_goals try (go_ret; exact Guards.no _ _)
      go_loopg [9, 11] Mp (fun g s i wr => w = wr ∧ ∃ q z : Nat, q ≤ Mp ∧ g = Mp - q ∧ i = .int .i64 q ∧ s = .int .i64 z ∧ z ≤ 1048576 ∧ ∀ r, r < q → L2 r ≤ 1048576)
      case atStart => exact ⟨rfl, 0, z + Mp, Nat.zero_le _, rfl, rfl, by go_num, by omega, fun r hr => by omega⟩
      case round =>
        obtain ⟨rfl, q2, z2, hq2, rfl, rfl, rfl, hz2, hl⟩ := hrel
        by_cases hlt2 : q2 < Mp
        · obtain ⟨b, off, rfl, hc⟩ := h2 (by omega)
          have hck : w.cell? ⟨b, off + q2, none⟩ = some (.slice (A2 q2) (L2 q2) (C2 q2)) := hc q2 hlt2
          have hlk := hls2 q2 hlt2
          clear hc h2 hls2
          go_wp2
          all_goals try (go_ret; exact Guards.no _ _)
          go_roundg (Mp - (q2 + 1))
          case measure => omega
          case rel => exact ⟨rfl, q2 + 1, z2 + L2 q2, by omega, rfl, by go_num, by go_num, by omega, fun r hr => by
            by_cases e : r = q2
            · subst e; omega
            · exact hl r (by omega)⟩
        · go_wp2
          all_goals try (go_ret; exact Guards.no _ _)
          all_goals (go_ret; exact Guards.yes _ ⟨by omega, by omega, by omega, by omega, HL.out, fun r hr => hl r (by omega)⟩)

/-- What afterValid lets by. -/
def AfterOK (M n la : Nat) (lf : Nat → Bool) (Zp : Nat → Nat → Int) (za : Nat → Int) : Prop :=
  M ≤ la ∧ ∀ m, m < M → 0 ≤ za m ∧ za m < n ∧ ∃ k, k ≤ n ∧ lf (chain (Zp m) (za m).toNat k) = false ∧ ∀ i, i < k → lf (chain (Zp m) (za m).toNat i) = true

theorem chain_lt {n : Nat} {g : Nat → Int} {a : Nat} (hr : ∀ v, v < n → 0 ≤ g v ∧ g v < n) (ha : a < n) : ∀ k, chain g a k < n := by
  intro k
  induction k with
  | zero => exact ha
  | succ k ih => have := hr _ ih; simp only [chain]; omega

set_option maxRecDepth 100000 in
set_option maxHeartbeats 1000000 in
theorem after12 (ap al aa : Option Addr) (M n la cp cl ca : Nat) (A : Nat → Option Addr) (L C : Nat → Nat) (Zp : Nat → Nat → Int) (lf : Nat → Bool) (za : Nat → Int) (w : World)
    (hP : Rows2 w ap M A L C Zp) (hl : RowAt w al n (bools lf)) (ha : RowAt w aa la (ints za)) (hM : M ≤ 1048576) (hn : n ≤ 1048576) (hla : la ≤ 1048576)
    (hL : ∀ m, m < M → L m = n) (hr : ∀ m, m < M → ∀ v, v < n → 0 ≤ Zp m v ∧ Zp m v < n) :
    Calls Try.prog 12 #[.slice ap M cp, .slice al n cl, .slice aa la ca, .int .i64 M] w (Guards w (AfterOK M n la lf Zp za)) := by
  by_cases h0 : la < M
  · go_enter Try.func12, Try.ntmps12
    go_wp2
    go_ret
    exact Guards.no _ _
  go_enter Try.func12, Try.ntmps12
  go_wp2
  go_loopg [10] M (fun g i wr => w = wr ∧ ∃ m : Nat, m ≤ M ∧ g = M - m ∧ i = .int .i64 m ∧ Hid (∀ q, q < m → 0 ≤ za q ∧ za q < n ∧ ∃ k, k ≤ n ∧ lf (chain (Zp q) (za q).toNat k) = false ∧ ∀ i, i < k → lf (chain (Zp q) (za q).toNat i) = true))
  case atStart => exact ⟨rfl, 0, Nat.zero_le _, rfl, rfl, fun q hq => by omega⟩
  case round =>
    obtain ⟨rfl, m, hm, rfl, rfl, HM⟩ := hrel
    by_cases hmM : m < M
    · obtain ⟨ba, oa, rfl, hca⟩ := ha (by omega)
      have c0 : w.cell? ⟨ba, oa + m, none⟩ = some (.int .i64 (za m)) := hca m (by omega)
      have i0 : m < la := by omega
      clear hca
      by_cases t1 : za m < 0
      · go_wp2
        go_ret
        exact Guards.no _ _
      by_cases t2 : (n : Int) ≤ za m
      · go_wp2
        go_ret
        exact Guards.no _ _
      obtain ⟨x, HX⟩ : ∃ x : Nat, Hid (za m = x) := ⟨(za m).toNat, by show _ = _; omega⟩
      have HXT : Hid ((za m).toNat = x) := by have := HX.out; show _ = _; omega
      rw [HX.out] at c0 t1 t2
      have hxn : x < n := by omega
      obtain ⟨bl, ol, rfl, hcl⟩ := hl (by omega)
      have HCL : Hid (∀ i, i < n → w.cell? ⟨bl, ol + i, none⟩ = some (.bool (lf i))) := hcl
      obtain ⟨bp, op, rfl, hcp⟩ := hP.top (by omega)
      have d0 : w.cell? ⟨bp, op + m, none⟩ = some (.slice (A m) (L m) (C m)) := hcp m hmM
      have hLm := hL m hmM
      obtain ⟨br, or', eA, hcr⟩ := hP.rows m hmM (by omega)
      rw [eA, hLm] at d0
      rw [hLm] at hcr
      have HCR : Hid (∀ i, i < n → w.cell? ⟨br, or' + i, none⟩ = some (.int .i64 (Zp m i))) := hcr
      have HRG : Hid (∀ v, v < n → 0 ≤ Zp m v ∧ Zp m v < n) := hr m hmM
      have HCH : Hid (∀ k, chain (Zp m) x k < n) := chain_lt (hr m hmM) hxn
      clear hcl hcp hcr eA hLm
      go_wp2
      go_loopg [11, 12] (n + 1) (fun g p s wi => w = wi ∧ ∃ k y : Nat, k ≤ n ∧ g = n + 1 - k ∧ p = .int .i64 y ∧ s = .int .i64 k ∧ y < n ∧ Hid (y = chain (Zp m) x k) ∧ Hid (∀ i, i < k → lf (chain (Zp m) x i) = true))
      case atStart => exact ⟨rfl, 0, x, Nat.zero_le _, rfl, rfl, rfl, hxn, rfl, fun i hi => by omega⟩
      case round =>
        obtain ⟨rfl, k, y, hk, rfl, rfl, rfl, hy, HY, HI⟩ := hrel
        have c1 := HCL.out y hy
        have c2 := HCR.out y hy
        have r1 := HRG.out y hy
        cases hb : lf y with
        | false =>
          rw [hb] at c1
          have HB : Hid (lf y = false) := hb
          clear hb
          go_wp2
          go_roundg (M - (m + 1))
          case measure => omega
          case rel => exact ⟨rfl, m + 1, by omega, rfl, by go_num, fun q hq => by
            by_cases e : q = m
            · subst e
              rw [HXT.out]
              exact ⟨by have := HX.out; omega, by have := HX.out; omega, k, hk, by rw [← HY.out]; exact HB.out, HI.out⟩
            · exact HM.out q (by omega)⟩
        | true =>
          rw [hb] at c1
          have HB : Hid (lf y = true) := hb
          clear hb
          by_cases hkn : k < n
          · go_wp2
            go_roundg (n + 1 - (k + 1))
            case measure => omega
            case rel => exact ⟨rfl, k + 1, (Zp m y).toNat, by omega, rfl, int_eq (by omega), by go_num, by omega, by show _ = (Zp m (chain (Zp m) x k)).toNat; rw [← HY.out], fun i hi => by
              by_cases e : i = k
              · subst e; rw [← HY.out]; exact HB.out
              · exact HI.out i (by omega)⟩
          · go_wp2
            go_ret
            exact Guards.no _ _
    · go_wp2
      go_ret
      have : m = M := by omega
      subst this
      exact Guards.yes _ ⟨by omega, HM.out⟩

set_option maxHeartbeats 400000 in
theorem first17 (am al : Option Addr) (n cm cl x k : Nat) (g : Nat → Int) (lf : Nat → Bool) (w : World) (hm : RowAt w am n (ints g)) (hl : RowAt w al n (bools lf)) (hn : n ≤ 1048576) (hxn : x < n)
    (hr : ∀ v, v < n → 0 ≤ g v ∧ g v < n) (hk : k ≤ n) (hf : lf (chain g x k) = false) (ht : ∀ i, i < k → lf (chain g x i) = true) :
    Calls Try.prog 17 #[.slice am n cm, .slice al n cl, .int .i64 x] w fun e w' => e = .returned (.int .i64 (chain g x k)) ∧ w' = w := by
  obtain ⟨bm, om, rfl, hcm⟩ := hm (by omega)
  obtain ⟨bl, ol, rfl, hcl⟩ := hl (by omega)
  have HCL : Hid (∀ i, i < n → w.cell? ⟨bl, ol + i, none⟩ = some (.bool (lf i))) := hcl
  have HCM : Hid (∀ i, i < n → w.cell? ⟨bm, om + i, none⟩ = some (.int .i64 (g i))) := hcm
  have HR : Hid (∀ v, v < n → 0 ≤ g v ∧ g v < n) := hr
  have HF : Hid (lf (chain g x k) = false) := hf
  have HT : Hid (∀ i, i < k → lf (chain g x i) = true) := ht
  have HCH : Hid (∀ k, chain g x k < n) := chain_lt hr hxn
  clear hm hl hcl hcm hr hf ht
  go_enter Try.func17, Try.ntmps17
  go_wp2
  go_loopg [2, 7] k (fun g' p s wi => w = wi ∧ ∃ i y : Nat, i ≤ k ∧ g' = k - i ∧ p = .int .i64 y ∧ s = .int .i64 i ∧ y < n ∧ Hid (y = chain g x i))
  case atStart => exact ⟨rfl, 0, x, Nat.zero_le _, rfl, rfl, rfl, hxn, rfl⟩
  case round =>
    obtain ⟨rfl, i, y, hi, rfl, rfl, rfl, hy, HY⟩ := hrel
    have c1 := HCL.out y hy
    have c2 := HCM.out y hy
    have r1 := HR.out y hy
    have s1 : (i : Int) ≤ (n : Int) := by omega
    by_cases hik : i < k
    · have hb : lf y = true := by rw [HY.out]; exact HT.out i hik
      rw [hb] at c1
      clear hb
      go_wp2
      go_roundg (k - (i + 1))
      case measure => omega
      case rel => exact ⟨rfl, i + 1, (g y).toNat, by omega, rfl, int_eq (by omega), by go_num, by omega, by show _ = (g (chain g x i)).toNat; rw [← HY.out]⟩
    · have hie : i = k := by omega
      have hb : lf y = false := by rw [HY.out, hie]; exact HF.out
      rw [hb] at c1
      have HE : Hid (y = chain g x k) := by rw [← hie]; exact HY.out
      clear hb hie
      go_wp2
      go_ret
      exact ⟨by rw [← HE.out]; rfl, rfl⟩

set_option maxHeartbeats 400000 in
theorem order21 (a : Option Addr) (n c K : Nat) (f : Nat → Int) (w : World) (h : RowAt w a n (ints f)) (hn : n ≤ 1048576) (h0 : 0 < n) (hK : K ≤ 1048576) (hr : ∀ v, v < n → 0 ≤ f v ∧ f v < n) :
    Calls Try.prog 21 #[.slice a n c, .int .i64 K] w fun e w' => e = .returned (.slice (some ⟨w.heap.size, 0, none⟩) K K) ∧ Below w.heap.size w w' ∧ w'.heap.size = w.heap.size + 1 ∧ w'.rowIs w.heap.size 3 K (ints fun j => (orb f j : Nat)) := by
  obtain ⟨b, off, rfl, hc⟩ := h h0
  have HC : Hid (∀ i, i < n → w.cell? ⟨b, off + i, none⟩ = some (.int .i64 (f i))) := hc
  have HR : Hid (∀ v, v < n → 0 ≤ f v ∧ f v < n) := hr
  have HO : Hid (∀ t, orb f t < n) := fun t => by
    induction t with
    | zero => exact h0
    | succ t ih => have := hr _ ih; simp only [orb]; omega
  have hbl : b < w.heap.size := World.block_lt_of_cell? _ _ (hc 0 h0)
  have hmk := run_make_row' (P := Try.prog) 24 3 (.int .i64 0) 8 Try.underlying24 Try.info3 rfl .i64 .i64 K (by omega) (by omega)
  clear h hc hr
  go_enter Try.func21, Try.ntmps21
  go_wp2
  clear hmk
  go_loopg [6, 7] K (fun g u i wr => ∃ j x : Nat, j ≤ K ∧ g = K - j ∧ i = .int .i64 j ∧ u = .int .i64 x ∧ x < n ∧ Hid (x = orb f j) ∧ Below w.heap.size w wr ∧ wr.heap.size = w.heap.size + 1 ∧ wr.rowIs w.heap.size 3 K (fill (ints fun j => (orb f j : Nat)) (.int .i64 0) j))
  case atStart => exact ⟨0, 0, Nat.zero_le _, rfl, rfl, rfl, h0, rfl, (Below.refl _ _).alloc (Nat.le_refl _) _, by simp, (World.rowIs_made w _ K 3).congr (fun i hi => fill_zero _ _ _)⟩
  case round =>
    obtain ⟨j, x, hj, rfl, rfl, rfl, hx, HX, hB, hs, hrw⟩ := hrel
    by_cases hlt : j < K
    · have r1 := HR.out x hx
      have c0 : wr.cell? ⟨b, off + x, none⟩ = some (.int .i64 (f x)) := by rw [hB.cell (by exact hbl)]; exact HC.out x hx
      obtain ⟨v, c1⟩ : ∃ v, wr.cell? ⟨w.heap.size, j, none⟩ = some v := ⟨_, hrw.cell hlt⟩
      have c2 := hrw.frozen j
      have c3 : ∀ v, (wr.setCell ⟨w.heap.size, j, none⟩ v).cell? ⟨b, off + x, none⟩ = some (.int .i64 (f x)) := fun v => by rw [(hB.setCell (Nat.le_refl _) v).cell (by exact hbl)]; exact HC.out x hx
      go_wp2
      go_roundg (K - (j + 1))
      case measure => omega
      case rel => exact ⟨j + 1, (f x).toNat, by omega, rfl, by go_num, int_eq (by omega), by omega, by show _ = (f (orb f j)).toNat; rw [← HX.out], hB.setCell (Nat.le_refl _) _, by simp [hs], (hrw.set j _).congr (fun i hi => by rw [← fill_succ]; simp only [ints, ← HX.out])⟩
    · go_wp2
      go_ret
      have : j = K := by omega
      subst this
      exact ⟨rfl, hB, hs, hrw.congr (fun i hi => fill_full _ _ hi)⟩
end Go.Proofs.Qxb6601170a
