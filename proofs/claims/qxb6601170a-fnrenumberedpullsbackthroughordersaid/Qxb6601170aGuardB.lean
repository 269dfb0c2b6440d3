/-
  SEAT b6601170a: THE GUARDS OF FnRenumberedPullsBackThroughOrder: zzBytes (24), orderValid (25); sameInts (30).
-/
import Derived.Test.Qxb6601170aBase
import Derived.Test.Qxb6601170aPure
import Derived.StillTactics
import Derived.Deep.QuietTactic
import Derived.BigQuiet
namespace Go.Proofs.Qxb6601170a
open Go.RowKit
set_option linter.unusedVariables false

set_option maxHeartbeats 400000 in
theorem zzb24 (lay rul : Int) (av ac am ap ao : Option Addr) (nv M nm np k cv cc cm cp co : Nat) (A : Nat → Option Addr) (L C : Nat → Nat) (w : World) (h : RowAt w ac M (slices A L C))
    (hv : nv ≤ maxLen) (hM : M ≤ maxLen) (hm : nm ≤ maxLen) (hp : np ≤ maxLen) (hk : k ≤ maxLen) (hls : ∀ r, r < M → L r ≤ maxLen) :
    Calls Try.prog 24 #[.int .i64 lay, .slice av nv cv, .int .i64 rul, .slice ac M cc, .slice am nm cm, .slice ap np cp, .slice ao k co] w
      (Guards w (nv ≤ 1048576 ∧ M ≤ 1048576 ∧ nm ≤ 1048576 ∧ np ≤ 1048576 ∧ k ≤ 1048576 ∧ ∀ r, r < M → L r ≤ 1048576)) := by
  unfold maxLen at hv hM hm hp hk hls
  go_enter Try.func24, Try.ntmps24
  go_wp2
  all_goals try (go_ret; exact Guards.no _ _)
  go_loopg [15, 16] M (fun g s i wr => w = wr ∧ ∃ q z : Nat, q ≤ M ∧ g = M - q ∧ i = .int .i64 q ∧ s = .int .i64 z ∧ z ≤ 1048576 ∧ ∀ r, r < q → L r ≤ 1048576)
  case atStart => exact ⟨rfl, 0, nv + M, Nat.zero_le _, rfl, rfl, by go_num, by omega, fun r hr => by omega⟩
  case round =>
    obtain ⟨rfl, q, z, hq, rfl, rfl, rfl, hz, hl⟩ := hrel
    by_cases hlt : q < M
    · obtain ⟨b, off, rfl, hc⟩ := h (by omega)
      have hck : w.cell? ⟨b, off + q, none⟩ = some (.slice (A q) (L q) (C q)) := hc q hlt
      have hlk := hls q hlt
      clear hc h hls
      go_wp2
      all_goals try (go_ret; exact Guards.no _ _)
      go_roundg (M - (q + 1))
      case measure => omega
      case rel => exact ⟨rfl, q + 1, z + L q, by omega, rfl, by go_num, by go_num, by omega, fun r hr => by
        by_cases e : r = q
        · subst e; omega
        · exact hl r (by omega)⟩
    · go_wp2
      all_goals try (go_ret; exact Guards.no _ _)
      all_goals (go_ret; exact Guards.yes _ ⟨by omega, by omega, by omega, by omega, by omega, fun r hr => hl r (by omega)⟩)

set_option maxHeartbeats 400000 in
theorem same30 (a b : Option Addr) (n ca cb : Nat) (z : Nat → Int) (w : World) (ha : RowAt w a n (ints z)) (hb : RowAt w b n (ints z)) (hn : n ≤ 1048576) :
    Calls Try.prog 30 #[.slice a n ca, .slice b n cb] w fun e w' => e = .returned (.bool true) ∧ ∃ q, w' = w.drewN q := by
  go_enter Try.func30, Try.ntmps30
  go_wp2
  go_loopg [5] n (fun g i wr => ∃ k q : Nat, k ≤ n ∧ g = n - k ∧ i = .int .i64 k ∧ wr = w.drewN q)
  case atStart => exact ⟨0, 0, Nat.zero_le _, rfl, rfl, rfl⟩
  case round =>
    obtain ⟨k, q, hk, rfl, rfl, rfl⟩ := hrel
    by_cases hlt : k < n
    · obtain ⟨b1, o1, rfl, hc1⟩ := ha (by omega)
      obtain ⟨b2, o2, rfl, hc2⟩ := hb (by omega)
      have h1 : w.cell? ⟨b1, o1 + k, none⟩ = some (.int .i64 (z k)) := hc1 k hlt
      have h2 : w.cell? ⟨b2, o2 + k, none⟩ = some (.int .i64 (z k)) := hc2 k hlt
      have hi0 : (0 : Int) ≤ (k : Int) := Int.natCast_nonneg _
      have hi1 : (k : Int) < (n : Int) := by omega
      clear hc1 hc2 ha hb
      go_wp2
      go_quiet (fail)
      go_wp2
      go_roundg (n - (k + 1))
      case measure => omega
      case rel => exact ⟨k + 1, _, by omega, rfl, by go_num, rfl⟩
    · go_wp2
      go_ret
      exact ⟨rfl, q, rfl⟩
/-- A guard's answer where memory is made. -/
def GuardsB (w : World) (p : Prop) (e : Ending) (w' : World) : Prop := ∃ b, e = .returned (.bool b) ∧ Below w.heap.size w w' ∧ (b = true → p)
theorem GuardsB.no {w w' : World} (p : Prop) (h : Below w.heap.size w w') : GuardsB w p (.returned (.bool false)) w' := ⟨false, rfl, h, fun h => by cases h⟩
theorem GuardsB.yes {w w' : World} {p : Prop} (h : Below w.heap.size w w') (hp : p) : GuardsB w p (.returned (.bool true)) w' := ⟨true, rfl, h, fun _ => hp⟩

/-- What orderValid lets by. -/
structure OrderOK (k n np M : Nat) (L : Nat → Nat) (o : Nat → Int) (Z : Nat → Nat → Int) : Prop where
  rng : ∀ i, i < k → 0 ≤ o i ∧ o i < n ∧ o i < np ∧ ∀ m, m < M → o i < L m
  dist : ∀ i j, i < j → j < k → o i ≠ o j
  clos : ∀ i, i < k → ∀ m, m < M → 0 ≤ Z m (o i).toNat → ∃ g, g < k ∧ o g = Z m (o i).toNat

/-- The first loop's marks when i are listed. -/
structure Listing (w wr : World) (n np M i : Nat) (L : Nat → Nat) (o : Nat → Int) (f : Nat → Bool) : Prop where
  below : Below w.heap.size w wr
  size : wr.heap.size = w.heap.size + 1
  row : wr.rowIs w.heap.size 4 n (bools f)
  mark : ∀ v, v < n → (f v = true ↔ ∃ q, q < i ∧ o q = v)
  rng : ∀ q, q < i → 0 ≤ o q ∧ o q < n ∧ o q < np ∧ ∀ m, m < M → o q < L m
  dist : ∀ q r, q < r → r < i → o q ≠ o r

theorem listing_start (w : World) (n np M : Nat) (L : Nat → Nat) (o : Nat → Int) : Listing w (w.alloc (.cells (madeCells #[.bool false] n) 4)) n np M 0 L o (fun _ => false) :=
  ⟨(Below.refl _ _).alloc (Nat.le_refl _) _, by simp, World.rowIs_made w _ n 4, fun v hv => ⟨fun h => (by cases h), fun ⟨q, hq, _⟩ => by omega⟩, fun q hq => by omega, fun q r h1 h2 => by omega⟩

theorem Listing.drewN {w wr : World} {n np M i : Nat} {L : Nat → Nat} {o : Nat → Int} {f : Nat → Bool} (h : Listing w wr n np M i L o f) (q : Nat) : Listing w (wr.drewN q) n np M i L o f :=
  ⟨⟨h.below.os, h.below.tape, h.below.output, h.below.size, h.below.block⟩, h.size, h.row.of_block rfl, h.mark, h.rng, h.dist⟩

theorem listing_step {w wr : World} {n np M i : Nat} {L : Nat → Nat} {o : Nat → Int} {f : Nat → Bool} (h : Listing w wr n np M i L o f) (x : Nat) (hx : o i = x) (hn : x < n) (hp : x < np) (hM : ∀ m, m < M → x < L m) (hf : f x = false) :
    Listing w (wr.setCell ⟨w.heap.size, x, none⟩ (.bool true)) n np M (i + 1) L o (upd f x true) := by
  refine ⟨h.below.setCell (Nat.le_refl _) _, by simp [h.size], (h.row.set x _).congr (fun j hj => ?_), fun v hv => ?_, fun q hq => ?_, fun q r h1 h2 => ?_⟩
  · simp only [bools]
    by_cases e : j = x
    · subst e; rw [if_pos rfl, upd_same]
    · rw [if_neg e, upd_other _ _ e]
  · by_cases e : v = x
    · subst e; rw [upd_same]; exact ⟨fun _ => ⟨i, by omega, hx⟩, fun _ => rfl⟩
    · rw [upd_other _ _ e, h.mark v hv]
      constructor
      · rintro ⟨q, hq, e2⟩; exact ⟨q, by omega, e2⟩
      · rintro ⟨q, hq, e2⟩
        refine ⟨q, ?_, e2⟩
        by_cases e3 : q = i
        · subst e3; omega
        · omega
  · by_cases e : q = i
    · subst e; rw [hx]; exact ⟨by omega, by omega, by omega, fun m hm => by have := hM m hm; omega⟩
    · exact h.rng q (by omega)
  · by_cases e : r = i
    · subst e
      rw [hx]
      intro e2
      have := (h.mark x hn).2 ⟨q, by omega, e2⟩
      rw [hf] at this; cases this
    · exact h.dist q r h1 (by omega)

set_option maxRecDepth 100000 in
set_option maxHeartbeats 1000000 in
theorem order25 (ac am ap ao : Option Addr) (M n np k cc cm cp co : Nat) (A : Nat → Option Addr) (L C : Nat → Nat) (Z : Nat → Nat → Int) (o : Nat → Int) (w : World)
    (hC : Rows2 w ac M A L C Z) (hO : RowAt w ao k (ints o)) (hn : n ≤ 1048576) (hM : M ≤ 1048576) (hp : np ≤ 1048576) (hk : k ≤ 1048576) (hls : ∀ r, r < M → L r ≤ 1048576) :
    Calls Try.prog 25 #[.slice ac M cc, .slice am n cm, .slice ap np cp, .slice ao k co] w (GuardsB w (OrderOK k n np M L o Z)) := by
  have hmk := run_make_row' (P := Try.prog) 23 4 (.bool false) 1 Try.underlying23 Try.info4 rfl .i64 .i64 n (by omega) (by omega)
  go_enter Try.func25, Try.ntmps25
  go_wp2
  clear hmk
  go_loopg [11] k (fun g i wr => ∃ (q : Nat) (f : Nat → Bool), q ≤ k ∧ g = k - q ∧ i = .int .i64 q ∧ Listing w wr n np M q L o f)
  case atStart => exact ⟨0, _, Nat.zero_le _, rfl, rfl, listing_start w n np M L o⟩
  case round =>
    obtain ⟨q, f, hq, rfl, rfl, hL⟩ := hrel
    by_cases hlt : q < k
    · obtain ⟨bo, oo, rfl, hco⟩ := hO (by omega)
      have hb := hL.below
      have c0 : wr.cell? ⟨bo, oo + q, none⟩ = some (.int .i64 (o q)) := by rw [hb.cell (World.block_lt_of_cell? _ _ (hco q hlt))]; exact hco q hlt
      clear hco
      by_cases t1 : o q < 0
      · go_wp2
        go_ret
        exact GuardsB.no _ hb
      by_cases t2 : (n : Int) ≤ o q
      · go_wp2
        go_ret
        exact GuardsB.no _ hb
      by_cases t3 : (np : Int) ≤ o q
      · go_wp2
        go_ret
        exact GuardsB.no _ hb
      obtain ⟨x, HX⟩ : ∃ x : Nat, Hid (o q = x) := ⟨(o q).toNat, by show _ = _; omega⟩
      rw [HX.out] at c0 t1 t2 t3
      have hxn : x < n := by omega
      have c1 : wr.cell? ⟨w.heap.size, x, none⟩ = some (.bool (f x)) := hL.row.cell hxn
      have c2 : wr.frozen? ⟨w.heap.size, x, none⟩ = false := hL.row.frozen x
      cases hf : f x with
      | true =>
        rw [hf] at c1
        clear hf
        go_wp2
        go_ret
        exact GuardsB.no _ hb
      | false =>
      rw [hf] at c1
      have HF : Hid (f x = false) := hf
      clear hf
      go_wp2
      go_loopg [13] M (fun g i wi => wr = wi ∧ ∃ m : Nat, m ≤ M ∧ g = M - m ∧ i = .int .i64 m ∧ Hid (∀ r, r < m → x < L r))
      case atStart => exact ⟨rfl, 0, Nat.zero_le _, rfl, rfl, fun r hr => by omega⟩
      case round =>
        obtain ⟨rfl, m, hm, rfl, rfl, HR⟩ := hrel
        by_cases hmM : m < M
        · obtain ⟨bc, oc, rfl, hcc⟩ := hC.top (by omega)
          have d0 : wr.cell? ⟨bc, oc + m, none⟩ = some (.slice (A m) (L m) (C m)) := by rw [hb.cell (World.block_lt_of_cell? _ _ (hcc m hmM))]; exact hcc m hmM
          clear hcc
          have hlm := hls m hmM
          by_cases t4 : L m ≤ x
          · go_wp2
            go_ret
            exact GuardsB.no _ hb
          · go_wp2
            go_roundg (M - (m + 1))
            case measure => omega
            case rel => exact ⟨rfl, m + 1, by omega, rfl, by go_num, fun r hr => by
              by_cases e : r = m
              · subst e; omega
              · exact HR.out r (by omega)⟩
        · go_wp2
          go_roundg (k - (q + 1))
          case measure => omega
          case rel => exact ⟨q + 1, _, by omega, rfl, by go_num, listing_step hL x HX.out hxn (by omega) (fun r hr => HR.out r (by omega)) HF.out⟩
    · have hqe : q = k := by omega
      have HQ : Hid (q = k) := hqe
      clear hqe
      go_wp2
      go_loopg [14] k (fun g i wi => ∃ i' : Nat, i' ≤ k ∧ g = k - i' ∧ i = .int .i64 i' ∧ Listing w wi n np M q L o f ∧ Hid (∀ r, r < i' → ∀ m, m < M → 0 ≤ Z m (o r).toNat → ∃ g, g < k ∧ o g = Z m (o r).toNat))
      case atStart => exact ⟨0, Nat.zero_le _, rfl, rfl, hL, fun r hr => by omega⟩
      case round =>
        clear hL
        obtain ⟨i', hi', rfl, rfl, hL, HCL⟩ := hrel
        by_cases hik : i' < k
        · obtain ⟨bo, oo, rfl, hco⟩ := hO (by omega)
          have HCO : Hid (w.cell? ⟨bo, oo + i', none⟩ = some (.int .i64 (o i'))) := hco i' hik
          clear hco hO
          have hrg := hL.rng i' (by have := HQ.out; omega)
          obtain ⟨x, HX⟩ : ∃ x : Nat, Hid (o i' = x) := ⟨(o i').toNat, by show _ = _; omega⟩
          have HXL : Hid (∀ m, m < M → x < L m) := fun m hm => by have := hrg.2.2.2 m hm; have := HX.out; omega
          clear hrg
          go_wp2
          go_loopg [15] M (fun g i wi => ∃ m : Nat, m ≤ M ∧ g = M - m ∧ i = .int .i64 m ∧ Listing w wi n np M q L o f ∧ Hid (∀ r, r < m → 0 ≤ Z r x → ∃ g, g < k ∧ o g = Z r x))
          case atStart => exact ⟨0, Nat.zero_le _, rfl, rfl, hL, fun r hr => by omega⟩
          case round =>
            clear hL
            obtain ⟨m, hm, rfl, rfl, hL, HR⟩ := hrel
            by_cases hmM : m < M
            · obtain ⟨bc, oc, rfl, hcc⟩ := hC.top (by omega)
              have hb := hL.below
              have hxl := HXL.out m hmM
              obtain ⟨br, or', eA, hcr⟩ := hC.rows m hmM (by omega)
              have hcr' : w.cell? ⟨br, or' + x, none⟩ = some (.int .i64 (Z m x)) := hcr x hxl
              have d0 : wr.cell? ⟨bc, oc + m, none⟩ = some (.slice (some ⟨br, or', none⟩) (L m) (C m)) := by
                rw [hb.cell (World.block_lt_of_cell? _ _ (hcc m hmM)), hcc m hmM]; simp only [slices]; rw [eA]
              have d1 : wr.cell? ⟨bo, oo + i', none⟩ = some (.int .i64 x) := by rw [hb.cell (World.block_lt_of_cell? _ _ HCO.out), HCO.out, HX.out]
              have d2 : wr.cell? ⟨br, or' + x, none⟩ = some (.int .i64 (Z m x)) := by rw [hb.cell (World.block_lt_of_cell? _ _ hcr')]; exact hcr'
              have i0 : (0 : Int) ≤ (m : Int) := Int.natCast_nonneg _
              have i1 : (m : Int) < (M : Int) := by omega
              have i2 : (0 : Int) ≤ (i' : Int) := Int.natCast_nonneg _
              have i3 : (i' : Int) < (k : Int) := by omega
              have i4 : (0 : Int) ≤ (x : Int) := Int.natCast_nonneg _
              have i5 : (x : Int) < (L m : Int) := by omega
              clear hcc eA hcr hcr' hC
              go_wp2
              go_quiet (fail)
              by_cases t1 : Z m x < 0
              · go_wp2
                go_roundg (M - (m + 1))
                case measure => omega
                case rel => exact ⟨m + 1, by omega, rfl, by go_num, hL.drewN _, fun r hr h0 => by
                  by_cases e : r = m
                  · subst e; omega
                  · exact HR.out r (by omega) h0⟩
              by_cases t2 : (n : Int) ≤ Z m x
              · go_wp2
                go_ret
                exact GuardsB.no _ (hL.drewN _).below
              obtain ⟨y, HY⟩ : ∃ y : Nat, Hid (Z m x = y) := ⟨(Z m x).toNat, by show _ = _; omega⟩
              have hyn : y < n := by have := HY.out; omega
              have d3 : wr.cell? ⟨w.heap.size, y, none⟩ = some (.bool (f y)) := hL.row.cell hyn
              rw [HY.out]
              clear t1 t2
              cases hf : f y with
              | false =>
                rw [hf] at d3
                clear hf
                go_wp2
                go_ret
                exact GuardsB.no _ (hL.drewN _).below
              | true =>
                rw [hf] at d3
                have HF : Hid (f y = true) := hf
                clear hf
                go_wp2
                go_roundg (M - (m + 1))
                case measure => omega
                case rel => exact ⟨m + 1, by omega, rfl, by go_num, hL.drewN _, fun r hr h0 => by
                  by_cases e : r = m
                  · subst e
                    obtain ⟨g, hg, eg⟩ := (hL.mark y hyn).1 HF.out
                    exact ⟨g, by have := HQ.out; omega, by rw [eg, HY.out]⟩
                  · exact HR.out r (by omega) h0⟩
            · go_wp2
              go_roundg (k - (i' + 1))
              case measure => omega
              case rel => exact ⟨i' + 1, by omega, rfl, by go_num, hL, fun r hr m' hm' h0 => by
                by_cases e : r = i'
                · subst e
                  have : (o r).toNat = x := by have := HX.out; omega
                  rw [this] at h0 ⊢
                  exact HR.out m' (by omega) h0
                · exact HCL.out r (by omega) m' hm' h0⟩
        · go_wp2
          go_ret
          exact GuardsB.yes hL.below ⟨fun i hi => hL.rng i (by have := HQ.out; omega), fun i j h1 h2 => hL.dist i j h1 (by have := HQ.out; omega), fun i hi => HCL.out i (by omega)⟩
end Go.Proofs.Qxb6601170a
