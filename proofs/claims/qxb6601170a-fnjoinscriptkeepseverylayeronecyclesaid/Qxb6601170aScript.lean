/-
  SEAT b6601170a: FnJoinScriptKeepsEveryLayerOneCycle (4): the walk.
-/
import Derived.Test.Qxb6601170aViews
import Derived.Test.Qxb6601170aGuardA
namespace Go.Proofs.Qxb6601170a
open Go.RowKit Go.Deep
set_option linter.unusedVariables false

/-- The two tops and the first m layers' rows, as the law lays them. -/
structure Laid (w0 wr : World) (M m : Nat) : Prop where
  below : Below w0.heap.size w0 wr
  size : wr.heap.size = w0.heap.size + 2 + 2 * m
  tc : wr.rowIs w0.heap.size 24 M (fill (fun m => .slice (some ⟨w0.heap.size + 2 + 2 * m, 0, none⟩) 1 1) (.slice none 0 0) m)
  tp : wr.rowIs (w0.heap.size + 1) 24 M (fill (fun m => .slice (some ⟨w0.heap.size + 2 + (2 * m + 1), 0, none⟩) 1 1) (.slice none 0 0) m)
  rows : ∀ i, i < 2 * m → wr.rowIs (w0.heap.size + 2 + i) 3 1 (fun _ => .int .i64 0)

theorem laid_start (w0 : World) (M : Nat) : Laid w0 ((w0.alloc (.cells (madeCells #[.slice none 0 0] M) 24)).alloc (.cells (madeCells #[.slice none 0 0] M) 24)) M 0 := by
  have h1 := World.rowIs_made w0 (.slice none 0 0) M 24
  have h2 := World.rowIs_made (w0.alloc (.cells (madeCells #[.slice none 0 0] M) 24)) (.slice none 0 0) M 24
  have hs : (w0.alloc (.cells (madeCells #[.slice none 0 0] M) 24)).heap.size = w0.heap.size + 1 := by simp
  rw [hs] at h2
  exact ⟨((Below.refl _ _).alloc (Nat.le_refl _) _).alloc (by omega) _, by simp, (h1.alloc _).congr (fun i _ => fill_zero _ _ _), h2.congr (fun i _ => fill_zero _ _ _), fun i hi => by omega⟩

theorem rowIs_one (w : World) (v : Value) (t : TypeId) : (w.alloc (.cells #[v] t)).rowIs w.heap.size t 1 (fun _ => v) :=
  ⟨#[v], blk_alloc_new _ _, rfl, fun i hi => by
    obtain rfl : i = 0 := by omega
    rfl⟩

theorem laid_step {w0 wr : World} {M m : Nat} (h : Laid w0 wr M m) (hm : m < M) :
    Laid w0 ((((wr.alloc (.cells #[.int .i64 0] 3)).setCell ⟨w0.heap.size, m, none⟩ (.slice (some ⟨wr.heap.size, 0, none⟩) 1 1)).alloc (.cells #[.int .i64 0] 3)).setCell ⟨w0.heap.size + 1, m, none⟩ (.slice (some ⟨wr.heap.size + 1, 0, none⟩) 1 1)) M (m + 1) := by
  have hs := h.size
  have s1 : (wr.alloc (.cells #[.int .i64 0] 3)).heap.size = wr.heap.size + 1 := by simp
  have s2 : ((wr.alloc (.cells #[.int .i64 0] 3)).setCell ⟨w0.heap.size, m, none⟩ (.slice (some ⟨wr.heap.size, 0, none⟩) 1 1)).heap.size = wr.heap.size + 1 := by simp
  have r1 := rowIs_one wr (.int .i64 0) 3
  have r2 := rowIs_one ((wr.alloc (.cells #[.int .i64 0] 3)).setCell ⟨w0.heap.size, m, none⟩ (.slice (some ⟨wr.heap.size, 0, none⟩) 1 1)) (.int .i64 0) 3
  rw [s2] at r2
  refine ⟨(((h.below.alloc (by omega) _).setCell (Nat.le_refl _) _).alloc (by omega) _).setCell (by show w0.heap.size ≤ w0.heap.size + 1; omega) _, by simp; omega,
    ((((h.tc.alloc _).set m _).alloc _).setOther (by show w0.heap.size ≠ w0.heap.size + 1; omega) _).congr (fun i hi => ?_), ((((h.tp.alloc _).setOther (by show w0.heap.size + 1 ≠ w0.heap.size; omega) _).alloc _).set m _).congr (fun i hi => ?_), fun i hi => ?_⟩
  · rw [← fill_succ]
    by_cases e : i = m
    · subst e; simp only [if_true]; rw [hs]
    · simp only [if_neg e]
  · rw [← fill_succ]
    by_cases e : i = m
    · subst e; simp only [if_true]; rw [hs]; rfl
    · simp only [if_neg e]
  · by_cases e1 : i = 2 * m + 1
    · subst e1
      rw [show w0.heap.size + 2 + (2 * m + 1) = wr.heap.size + 1 by omega]
      exact r2.setOther (by show wr.heap.size + 1 ≠ w0.heap.size + 1; omega) _
    by_cases e2 : i = 2 * m
    · subst e2
      rw [show w0.heap.size + 2 + 2 * m = wr.heap.size by omega]
      exact ((r1.setOther (by show wr.heap.size ≠ w0.heap.size; omega) _).alloc _).setOther (by show wr.heap.size ≠ w0.heap.size + 1; omega) _
    exact ((((h.rows i (by omega)).alloc _).setOther (by show w0.heap.size + 2 + i ≠ w0.heap.size; omega) _).alloc _).setOther (by show w0.heap.size + 2 + i ≠ w0.heap.size + 1; omega) _

/-- Where the blocks of the law's own Cycles lie. -/
def lays (H M : Nat) : Nat → Nat := fun i => if i = 0 then H + 3 + 2 * M else if i = 1 then H else if i = 2 then H + 1 else if i = 3 then H + 2 + 2 * M else H + 2 + (i - 4)

theorem laid_cyc {w0 wr : World} {M : Nat} (h : Laid w0 wr M M) :
    Cyc w0.heap.size ((wr.alloc (.cells #[.bool false] 4)).alloc (.cells #[.slice (some ⟨w0.heap.size, 0, none⟩) M M, .slice (some ⟨w0.heap.size + 1, 0, none⟩) M M, .slice (some ⟨wr.heap.size, 0, none⟩) 1 1] 63)) M 1 (some ⟨w0.heap.size, 0, none⟩) (some ⟨w0.heap.size + 1, 0, none⟩) M M 1
      (lays w0.heap.size M) (fun _ => 1) (fun _ => 1) (fun _ _ => 0) (fun _ => false) := by
  have hs := h.size
  have l0 : lays w0.heap.size M 0 = w0.heap.size + 3 + 2 * M := rfl
  have l1 : lays w0.heap.size M 1 = w0.heap.size := rfl
  have l2 : lays w0.heap.size M 2 = w0.heap.size + 1 := rfl
  have l3 : lays w0.heap.size M 3 = w0.heap.size + 2 + 2 * M := rfl
  have l4 : ∀ i, lays w0.heap.size M (4 + i) = w0.heap.size + 2 + i := fun i => by
    simp only [lays]; rw [if_neg (by omega), if_neg (by omega), if_neg (by omega), if_neg (by omega)]; omega
  have s1 : (wr.alloc (.cells #[.bool false] 4)).heap.size = wr.heap.size + 1 := by simp
  have r1 := rowIs_one wr (.bool false) 4
  refine ⟨?_, fun hM => ⟨by rw [l1], ?_⟩, fun hM => ⟨by rw [l2], ?_⟩, fun i hi => ⟨Nat.le_refl _, by unfold maxLen; omega, _, ?_, fun j hj => rfl⟩, ⟨Nat.le_refl _, by unfold maxLen; omega, fun _ => .bool false, ?_, fun j hj => rfl⟩, fun i hi => ?_, fun i j hi hj e => ?_⟩
  · rw [l0, l3]
    refine ⟨#[.slice (some ⟨w0.heap.size, 0, none⟩) M M, .slice (some ⟨w0.heap.size + 1, 0, none⟩) M M, .slice (some ⟨wr.heap.size, 0, none⟩) 1 1], ?_, rfl, fun i hi => ?_⟩
    · rw [show w0.heap.size + 3 + 2 * M = (wr.alloc (.cells #[.bool false] 4)).heap.size by omega]; exact blk_alloc_new _ _
    · rw [hs]
      match i, hi with
      | 0, _ => rfl
      | 1, _ => rfl
      | 2, _ => rfl
  · rw [l1]
    exact ((h.tc.alloc _).alloc _).congr (fun i hi => by rw [fill_full _ _ hi]; simp only [topC]; rw [l4])
  · rw [l2]
    exact ((h.tp.alloc _).alloc _).congr (fun i hi => by rw [fill_full _ _ hi]; simp only [topP]; rw [l4])
  · rw [l4]; exact ((h.rows i hi).alloc _).alloc _
  · rw [l3, ← hs]; exact r1.alloc _
  · simp only [lays]; split
    · omega
    split
    · omega
    split
    · omega
    split <;> omega
  · have key : ∀ i, used M i → (i = 0 ∧ lays w0.heap.size M i = w0.heap.size + 3 + 2 * M) ∨ (i = 1 ∧ lays w0.heap.size M i = w0.heap.size) ∨ (i = 2 ∧ lays w0.heap.size M i = w0.heap.size + 1) ∨ (i = 3 ∧ lays w0.heap.size M i = w0.heap.size + 2 + 2 * M) ∨ (4 ≤ i ∧ i < 4 + 2 * M ∧ lays w0.heap.size M i = w0.heap.size + 2 + (i - 4)) := fun i hi => by
      by_cases h0 : i = 0
      · subst h0; exact .inl ⟨rfl, l0⟩
      by_cases h1 : i = 1
      · subst h1; exact .inr (.inl ⟨rfl, l1⟩)
      by_cases h2 : i = 2
      · subst h2; exact .inr (.inr (.inl ⟨rfl, l2⟩))
      by_cases h3 : i = 3
      · subst h3; exact .inr (.inr (.inr (.inl ⟨rfl, l3⟩)))
      rcases hi with e | e | ⟨_, e⟩
      · omega
      · omega
      · have := l4 (i - 4)
        rw [show 4 + (i - 4) = i by omega] at this
        exact .inr (.inr (.inr (.inr ⟨by omega, e, this⟩)))
    have k1 := key i hi
    have k2 := key j hj
    omega

theorem ring_one : Ring 1 (fun _ => 0) (fun _ => 0) (fun _ => false) 1 :=
  ⟨fun v hv => by omega, fun v hv => by omega, fun v hv _ => ⟨rfl, by omega⟩, rfl, fun i h1 h2 => by omega⟩

theorem count_all {lf : Nat → Bool} {n : Nat} (h : ∀ v, v < n → lf v = false) : count lf n = n := by
  induction n with
  | zero => rfl
  | succ n ih => simp only [count]; rw [ih (fun v hv => h v (by omega)), h n (by omega)]; rfl

theorem Cyc.valid11 {B M n cc cp cl : Nat} {w : World} {ac ap : Option Addr} {G C N : Nat → Nat} {Z : Nat → Nat → Int} {lf : Nat → Bool} (h : Cyc B w M n ac ap cc cp cl G C N Z lf)
    (hV : Valid n M M (fun m => N (2 * m)) (fun m => N (2 * m + 1)) (fun m => Z (2 * m)) (fun m => Z (2 * m + 1)) lf) (hn : n ≤ 4194304) (hM : M ≤ 4194304) (hN : ∀ i, i < 2 * M → N i ≤ 4194304) :
    Calls Try.prog 11 #[.slice ac M cc, .slice ap M cp, .slice (some ⟨G 3, 0, none⟩) n cl] w fun e w' => e = .returned (.bool true) ∧ w' = w := by
  refine (Qxb6601170a.valid11 ac ap (some ⟨G 3, 0, none⟩) n M M cc cp cl _ _ _ _ _ _ _ _ lf w h.rowsC h.rowsP h.marks hn hM hM (fun m hm => hN _ (by omega)) (fun m hm => hN _ (by omega))).mono ?_
  rintro e w' ⟨b, rfl, rfl, hb⟩
  rw [hb.2 hV]
  exact ⟨rfl, rfl⟩

/-- What holds when j have joined. -/
def Joined (w0 wr : World) (M p j : Nat) : Prop :=
  Below w0.heap.size w0 wr ∧ ∃ cl G C N Z lf, G 0 = p ∧ Cyc w0.heap.size wr M (j + 1) (some ⟨w0.heap.size, 0, none⟩) (some ⟨w0.heap.size + 1, 0, none⟩) M M cl G C N Z lf ∧ (∀ i, i < 2 * M → N i = j + 1) ∧ (∀ v, v < j + 1 → lf v = false) ∧ ∀ m, m < M → Ring (j + 1) (Z (2 * m)) (Z (2 * m + 1)) lf (j + 1)

theorem joined_step {w0 w' : World} {M p j cl : Nat} {G C N : Nat → Nat} {Z Z0 : Nat → Nat → Int} {lf : Nat → Bool} {pl : Nat → Nat} (hB : Below w0.heap.size w0 w') (hG : G 0 = p)
    (hC : Cyc w0.heap.size w' M (j + 1 + 1) (some ⟨w0.heap.size, 0, none⟩) (some ⟨w0.heap.size + 1, 0, none⟩) M M cl G C N Z (insL (j + 1) lf)) (hN : ∀ i, i < 2 * M → N i = j + 1 + 1)
    (hl : ∀ v, v < j + 1 → lf v = false) (hR : ∀ m, m < M → Ring (j + 1) (Z0 (2 * m)) (Z0 (2 * m + 1)) lf (j + 1)) (hp : ∀ m, m < M → pl m < j + 1)
    (hZ : ∀ m, m < M → Z (2 * m) = insF (j + 1) (pl m) (Z0 (2 * m)) ∧ Z (2 * m + 1) = insG (j + 1) (pl m) (Z0 (2 * m)) (Z0 (2 * m + 1))) : Joined w0 w' M p (j + 1) := by
  refine ⟨hB, cl, G, C, N, Z, _, hG, hC, hN, fun v hv => ?_, fun m hm => ?_⟩
  · by_cases e : v = j + 1
    · subst e; exact upd_same _ _ _
    · unfold insL; rw [upd_other _ _ e]; exact hl v (by omega)
  · rw [(hZ m hm).1, (hZ m hm).2]
    exact (hR m hm).ins (by omega) (hl 0 (by omega)) (count_all hl).symm (hp m hm) (hl _ (hp m hm))

set_option maxRecDepth 100000 in
set_option maxHeartbeats 2000000 in
theorem walk4 (x : Int) (a : Option Addr) (n c : Nat) (A : Nat → Option Addr) (L C : Nat → Nat) (Z : Nat → Nat → Int) (w : World) (hR : Rows2 w a n A L C Z) (h0 : a = none → n = 0) (hn : n ≤ maxLen) (hls : ∀ r, r < n → L r ≤ maxLen) (hnil : ∀ r, r < n → A r = none → L r = 0) :
    Calls Try.prog 4 #[.int .i64 x, .slice a n c] w fun e w' => e = .returned (.bool true) ∧ Below w.heap.size w w' := by
  have HZ := zzb22 x a n c A L C w hR.top hn hls
  go_enter Try.func4, Try.ntmps4
  go_wp2_with fail
  refine HZ.mono ?_
  rintro e w ⟨b, rfl, rfl, hb⟩
  clear HZ hn hls
  cases b with
  | false =>
    go_wp2
    go_ret
    exact ⟨rfl, Below.refl _ _⟩
  | true =>
  obtain ⟨hn, hls⟩ := hb rfl
  clear hb
  have HZ := nested10 a n c A L C w hR.top hn hls
  go_wp2_with fail
  refine HZ.mono ?_
  rintro e w ⟨t, rfl, rfl, ht0, ht1⟩
  clear HZ
  by_cases ht : 1048576 < t
  · go_wp2
    go_ret
    exact ⟨rfl, Below.refl _ _⟩
  by_cases hx0 : x < 0
  · go_wp2
    go_ret
    exact ⟨rfl, Below.refl _ _⟩
  by_cases hx1 : 65536 < x
  · go_wp2
    go_ret
    exact ⟨rfl, Below.refl _ _⟩
  obtain ⟨M, rfl⟩ := Int.eq_ofNat_of_zero_le (show 0 ≤ x by omega)
  have hM : M ≤ 65536 := by omega
  clear hx0 hx1
  by_cases hq : (65536 : Int) / ((n : Int) + 1) < M
  · go_wp2_with fail
    go_ret
    exact ⟨rfl, Below.refl _ _⟩
  have HZ := script23 M hM a n c A L C Z w hR hn hls
  go_wp2_with fail
  refine HZ.mono ?_
  rintro e w ⟨b, rfl, rfl, hb⟩
  clear HZ
  cases b with
  | false =>
    go_wp2
    go_ret
    exact ⟨rfl, Below.refl _ _⟩
  | true =>
  have HS : Hid (Script M n L Z) := hb rfl
  clear hb
  have HZ := clone2 a n c A L C Z w hR h0 hn hls hnil
  go_wp2_with fail
  refine HZ.mono ?_
  rintro e w0 ⟨a', c', A', C', rfl, hB0, hR'⟩
  clear HZ hR h0 hnil A C
  have hmk := run_make_row' (P := Try.prog) 22 24 (.slice none 0 0) 24 Try.underlying22 Try.info24 rfl .i64 .i64 M (by omega) (by omega)
  go_wp2_with fail
  clear hmk
  go_loopg [7] M (fun g i wr => ∃ m : Nat, m ≤ M ∧ g = M - m ∧ i = .int .i64 m ∧ Laid w0 wr M m)
  case atStart => exact ⟨0, Nat.zero_le _, rfl, rfl, laid_start w0 M⟩
  case round =>
    obtain ⟨m, hm, rfl, rfl, hLaid⟩ := hrel
    by_cases hlt : m < M
    · have hsz := hLaid.size
      obtain ⟨v1, hv1⟩ : ∃ v1, ∀ o, (wr.alloc o).cell? ⟨w0.heap.size, m, none⟩ = some v1 := ⟨_, fun o => (hLaid.tc.alloc o).cell hlt⟩
      have hz1 : ∀ o, (wr.alloc o).frozen? ⟨w0.heap.size, m, none⟩ = false := fun o => (hLaid.tc.alloc o).frozen m
      obtain ⟨v2, hv2⟩ : ∃ v2, ∀ o v o', (((wr.alloc o).setCell ⟨w0.heap.size, m, none⟩ v).alloc o').cell? ⟨w0.heap.size + 1, m, none⟩ = some v2 := ⟨_, fun o v o' => (((hLaid.tp.alloc o).setOther (by show w0.heap.size + 1 ≠ w0.heap.size; omega) v).alloc o').cell hlt⟩
      have hz2 : ∀ o v o', (((wr.alloc o).setCell ⟨w0.heap.size, m, none⟩ v).alloc o').frozen? ⟨w0.heap.size + 1, m, none⟩ = false := fun o v o' => (((hLaid.tp.alloc o).setOther (by show w0.heap.size + 1 ≠ w0.heap.size; omega) v).alloc o').frozen m
      have HSZ : Hid (wr.heap.size = w0.heap.size + 2 + 2 * m) := hsz
      clear hsz
      go_wp2_with fail
      go_roundg (M - (m + 1))
      case measure => omega
      case rel => exact ⟨m + 1, by omega, rfl, by go_num, laid_step hLaid hlt⟩
    · have hme : m = M := by omega
      have HME : Hid (m = M) := hme
      have hsz := hLaid.size
      rw [hme] at hsz hLaid
      clear hme
      have hCy := laid_cyc hLaid
      have HSZ : Hid (wr.heap.size = w0.heap.size + 2 + 2 * M) := hsz
      have hBel := (hLaid.below.alloc (by omega) (.cells #[.bool false] 4)).alloc (by simp; omega) (.cells #[.slice (some ⟨w0.heap.size, 0, none⟩) M M, .slice (some ⟨w0.heap.size + 1, 0, none⟩) M M, .slice (some ⟨wr.heap.size, 0, none⟩) 1 1] 63)
      clear hLaid hsz
      go_wp2_with (go_at_call 18; refine (new18 (.bool false) (.bool false) (.bool false) _ _ _ _ _ _ _ _ _ _).mono ?_; rintro e w' ⟨rfl, rfl⟩)
      obtain ⟨p, HP⟩ : ∃ p, Hid (p = wr.heap.size + 1) := ⟨_, rfl⟩
      rw [← HP.out]
      have hJ : Joined w0 ((wr.alloc (.cells #[.bool false] 4)).alloc (.cells #[.slice (some ⟨w0.heap.size, 0, none⟩) M M, .slice (some ⟨w0.heap.size + 1, 0, none⟩) M M, .slice (some ⟨wr.heap.size, 0, none⟩) 1 1] 63)) M p 0 :=
        ⟨hBel, _, _, _, _, _, _, by rw [HP.out, HSZ.out]; show w0.heap.size + 3 + 2 * M = _; omega, hCy, fun _ _ => rfl, fun _ _ => rfl, fun m hm => ring_one⟩
      clear hCy hBel
      go_loopg [9] n (fun g i wj => ∃ j : Nat, j ≤ n ∧ g = n - j ∧ i = .int .i64 j ∧ Joined w0 wj M p j)
      case atStart => exact ⟨0, Nat.zero_le _, rfl, rfl, hJ⟩
      case round =>
        clear hJ
        obtain ⟨j, hj, rfl, rfl, hBj, cl, G, Cj, N, Zj, lf, rfl, hCy, hN, hlf, hRing⟩ := hrel
        have HNj : Hid (∀ i, i < 2 * M → N i = j + 1) := hN
        have HLF : Hid (∀ v, v < j + 1 → lf v = false) := hlf
        have HRG : Hid (∀ m, m < M → Ring (j + 1) (Zj (2 * m)) (Zj (2 * m + 1)) lf (j + 1)) := hRing
        clear hN hlf hRing
        by_cases hjn : j < n
        · obtain ⟨b1, o1, rfl, hc1⟩ := hR'.top (by omega)
          obtain ⟨hML, hSZ⟩ := HS.out j hjn
          have hck0 : w0.cell? ⟨b1, o1 + j, none⟩ = some (.slice (A' j) (L j) (C' j)) := hc1 j hjn
          have hb1 : b1 < w0.heap.size := World.block_lt_of_cell? _ _ hck0
          have hck : wr.cell? ⟨b1, o1 + j, none⟩ = some (.slice (A' j) (L j) (C' j)) := by rw [hBj.cell (by exact hb1)]; exact hck0
          have hrow := hR'.rows j hjn
          have hLj := hls j hjn
          have HJ := join19 (A' j) (L j) (C' j) (Z j) (fun m => (Z j m).toNat) hCy HNj.out hBj.size (by omega) (by omega) hML (by omega)
            (fun hM0 => by
              obtain ⟨b2, o2, e2, hc2⟩ := hrow (by omega)
              have hb2 : b2 < w0.heap.size := World.block_lt_of_cell? _ _ (hc2 0 (by omega))
              exact ⟨b2, o2, e2, hb2, fun i hi => by rw [hBj.cell (by exact hb2)]; exact hc2 i (by omega)⟩)
            (fun m hm => ⟨(hSZ m hm).1, chase_self (by have := hSZ m hm; omega) (HLF.out _ (by have := hSZ m hm; omega))⟩)
            (fun m hm => (HRG.out m hm).rf _ (by have := hSZ m hm; omega))
          clear hck0 hc1
          go_wp2_with fail
          refine HJ.mono ?_
          rintro e w2 ⟨rfl, hB2, cl2, G2, C2, N2, Z2, hG2, hCy2, hN2, hZ2⟩
          clear HJ
          have hck2 : w2.cell? ⟨b1, o1 + j, none⟩ = some (.slice (A' j) (L j) (C' j)) := by rw [hB2.cell (by exact hb1)]; exact hck
          have hBJ := hBj.trans hB2
          have HZ2 : Hid (∀ m, m < M → Z2 (2 * m) = insF (j + 1) ((fun m => (Z j m).toNat) m) (Zj (2 * m)) ∧ Z2 (2 * m + 1) = insG (j + 1) ((fun m => (Z j m).toNat) m) (Zj (2 * m)) (Zj (2 * m + 1))) := hZ2
          have HN2 : Hid (∀ i, i < 2 * M → N2 i = j + 1 + 1) := hN2
          have HG2 : Hid (G2 0 = G 0) := hG2
          have HSZ2 : Hid (∀ m, m < M → 0 ≤ Z j m ∧ Z j m ≤ j) := hSZ
          clear hZ2 hN2 hck hSZ
          have HF := fields20 hCy2
          rw [hG2] at HF
          clear hG2
          go_wp2_with fail
          refine HF.mono ?_
          rintro e w3 ⟨rfl, q, rfl⟩
          clear HF
          go_wp2_with fail
          go_loopg [14] M (fun g i wi => w2.drewN q = wi ∧ ∃ k : Nat, k ≤ M ∧ g = M - k ∧ i = .int .i64 k)
          case atStart => exact ⟨rfl, 0, Nat.zero_le _, rfl, rfl⟩
          case round =>
            obtain ⟨rfl, k, hk, rfl, rfl⟩ := hrel
            by_cases hkM : k < M
            · obtain ⟨b2, o2, e2, hc2⟩ := hrow (by omega)
              have hb2 : b2 < w0.heap.size := World.block_lt_of_cell? _ _ (hc2 0 (by omega))
              rw [e2] at hck2
              obtain ⟨y, HY⟩ : ∃ y : Nat, Hid (Z j k = y) := ⟨(Z j k).toNat, by have := HSZ2.out k hkM; show _ = _; omega⟩
              have hyj : y ≤ j := by have := HSZ2.out k hkM; have := HY.out; omega
              have hca : w2.cell? ⟨b2, o2 + k, none⟩ = some (.int .i64 y) := by rw [hBJ.cell (by exact hb2), ← HY.out]; exact hc2 k (by omega)
              have e5 : w0.heap.size = G2 1 := by have := (hCy2.tc (by omega)).1; simpa using this
              have e6 : w0.heap.size + 1 = G2 2 := by have := (hCy2.tp (by omega)).1; simpa using this
              have htc : w2.cell? ⟨w0.heap.size, k, none⟩ = some (.slice (some ⟨G2 (4 + 2 * k), 0, none⟩) (j + 1 + 1) (C2 (2 * k))) := by
                have := hCy2.topC hkM
                rw [HN2.out _ (by omega), ← e5] at this; exact this
              have htp : w2.cell? ⟨w0.heap.size + 1, k, none⟩ = some (.slice (some ⟨G2 (4 + (2 * k + 1)), 0, none⟩) (j + 1 + 1) (C2 (2 * k + 1))) := by
                have := hCy2.topP hkM
                rw [HN2.out _ (by omega), ← e6] at this; exact this
              have hy : (Z j k).toNat = y := by have := HY.out; omega
              have hc3 : w2.cell? ⟨G2 (4 + 2 * k), y, none⟩ = some (.int .i64 ((j : Int) + 1)) := by
                have := hCy2.num (i := 2 * k) (j := y) (by omega) (by rw [HN2.out _ (by omega)]; omega)
                rw [(HZ2.out k hkM).1] at this
                simp only [hy] at this
                rw [insF_a] at this
                exact this
              have hc4 : w2.cell? ⟨G2 (4 + (2 * k + 1)), j + 1, none⟩ = some (.int .i64 y) := by
                have := hCy2.num (i := 2 * k + 1) (j := j + 1) (by omega) (by rw [HN2.out _ (by omega)]; omega)
                have hr := (HRG.out k hkM).rf y (by omega)
                rw [(HZ2.out k hkM).2] at this
                simp only [hy] at this
                rw [insG_n (by omega)] at this
                exact this
              clear e2 hc2 e5 e6 hy hrow
              go_wp2_with fail
              go_roundg (M - (k + 1))
              case measure => omega
              case rel => exact ⟨rfl, k + 1, by omega, rfl, by go_num⟩
            · go_wp2_with fail
              go_roundg (n - (j + 1))
              case measure => omega
              case rel =>
                exact ⟨j + 1, by omega, rfl, by go_num, joined_step (below_drewN' hBJ q) HG2.out (hCy2.drewN q) HN2.out HLF.out HRG.out (fun m hm => by have := HSZ2.out m hm; show (Z j m).toNat < j + 1; omega) HZ2.out⟩
        · have hje : j = n := by omega
          have HF := fields20 hCy
          have HJE : Hid (j = n) := hje
          have hVal : Valid (j + 1) M M (fun m => N (2 * m)) (fun m => N (2 * m + 1)) (fun m => Zj (2 * m)) (fun m => Zj (2 * m + 1)) lf :=
            ⟨by omega, HLF.out 0 (by omega), rfl, fun m hm => ⟨HNj.out _ (by omega), HNj.out _ (by omega), by rw [count_all HLF.out]; exact HRG.out m hm⟩⟩
          go_wp2_with fail
          refine HF.mono ?_
          rintro e w3 ⟨rfl, q, rfl⟩
          clear HF hje
          have hne : ((j : Int) + 1 != (n : Int) + 1) = false := by have := HJE.out; simp; omega
          go_wp2_with fail
          go_loopg [19] (j + 1) (fun g i wi => wr.drewN q = wi ∧ ∃ k : Nat, k ≤ j + 1 ∧ g = j + 1 - k ∧ i = .int .i64 k)
          case atStart => exact ⟨rfl, 0, Nat.zero_le _, rfl, rfl⟩
          case round =>
            obtain ⟨rfl, k, hk, rfl, rfl⟩ := hrel
            by_cases hkj : k < j + 1
            · have hmk : wr.cell? ⟨G 3, k, none⟩ = some (.bool false) := by rw [← HLF.out k hkj]; exact hCy.mark hkj
              go_wp2_with fail
              go_roundg (j + 1 - (k + 1))
              case measure => omega
              case rel => exact ⟨rfl, k + 1, by omega, rfl, by go_num⟩
            · have HV := (hCy.drewN q).valid11 hVal (by omega) (by omega) (fun i hi => by rw [HNj.out i hi]; omega)
              go_wp2_with (go_at_call 11; refine HV.mono ?_; rintro e w5 ⟨rfl, rfl⟩)
              go_ret
              exact ⟨rfl, hB0.trans ((below_drewN' hBj q).mono hB0.size)⟩
end Go.Proofs.Qxb6601170a
