/-
  SEAT b6601170a: ZZNewCycles (18), ZZCyclesFields (20), Join (19).
-/
import Derived.Test.Qxb6601170aCyc
import Derived.StillTactics
import Derived.Laws.Pointers
import Derived.Deep.RegionHeld3
import Derived.Deep.DrawnRows
import Derived.Deep.RegionLaw
import Derived.Deep.DeepCutAuto
import Derived.Deep.QuietTactic
import Derived.BigQuiet
namespace Go.Proofs.Qxb6601170a
open Go.RowKit
set_option linter.unusedVariables false
attribute [local go_sem ↓] Go.wp_at_zero Go.wp_at_succ

/-- The road from a along g. -/
def chain (g : Nat → Int) (a : Nat) : Nat → Nat
  | 0 => a
  | k + 1 => (g (chain g a k)).toNat

/-- The first present one on the road from a is p. -/
def Chase (n : Nat) (g : Nat → Int) (lf : Nat → Bool) (a p : Nat) : Prop :=
  ∃ k, chain g a k = p ∧ p < n ∧ lf p = false ∧ ∀ i, i < k → chain g a i < n ∧ lf (chain g a i) = true ∧ 0 ≤ g (chain g a i)

theorem chase_self {n : Nat} {g : Nat → Int} {lf : Nat → Bool} {a : Nat} (ha : a < n) (hl : lf a = false) : Chase n g lf a a := ⟨0, rfl, ha, hl, fun i hi => by omega⟩

section
variable {B M n cc cp cl : Nat} {w : World} {ac ap : Option Addr} {G C N : Nat → Nat} {Z : Nat → Nat → Int} {lf : Nat → Bool}

set_option maxHeartbeats 400000 in
theorem fields20 (h : Cyc B w M n ac ap cc cp cl G C N Z lf) :
    Calls Try.prog 20 #[.pointer (some ⟨G 0, 0, none⟩)] w fun e w' => e = .returned (.tuple #[.slice ac M cc, .slice ap M cp, .slice (some ⟨G 3, 0, none⟩) n cl]) ∧ ∃ q, w' = w.drewN q := by
  have h0 := h.f0
  have h1 := h.f1
  have h2 := h.f2
  clear h
  go_enter Try.func20, Try.ntmps20
  go_wp2
  go_quiet (fail)
  go_wp2
  go_ret3
  exact ⟨rfl, _, rfl⟩

/-- What holds between the statements of a round of Join. -/
def Stage (B : Nat) (w wc : World) (M n cc cp cl g0 g1 g2 : Nat) (lf : Nat → Bool) (N : Nat → Nat) (Z : Nat → Nat → Int) : Prop :=
  Below B w wc ∧ ∃ G C, G 0 = g0 ∧ Cyc B wc M n (some ⟨g1, 0, none⟩) (some ⟨g2, 0, none⟩) cc cp cl G C N Z lf

theorem stage_appC {wr w1 : World} {g0 g1 g2 m gg cap : Nat} {G' C' N' : Nat → Nat} {Z' : Nat → Nat → Int} {z : Nat → Int} (hCy : Cyc B wr M n (some ⟨g1, 0, none⟩) (some ⟨g2, 0, none⟩) cc cp cl G' C' N' Z' lf) (hBel : Below B w wr) (hBw : B ≤ wr.heap.size) (hm : m < M)
    (hN' : N' (2 * m) = n) (hZ' : Z' (2 * m) = z) (e0 : G' 0 = g0) (e1 : G' 1 = g1) (x : Int) (o : Obj)
    (hown1 : w1.ownsRow B 3 1 (.slice (some ⟨gg, 0, none⟩) (n + 1) cap) (n + 1) ((List.range n).map (fun j => .int .i64 (z j)) ++ [.int .i64 x]))
    (hgrow : (wr.alloc o).drew.grownBy w1 (Value.ownBlock (.slice (some ⟨G' (4 + 2 * m), 0, none⟩) n (C' (2 * m)))))
    (hat : Value.ownBlock (.slice (some ⟨G' (4 + 2 * m), 0, none⟩) n (C' (2 * m))) = some gg ∨ gg = wr.heap.size + 1) :
    Stage B w (w1.setCell ⟨g1, m, none⟩ (.slice (some ⟨gg, 0, none⟩) (n + 1) cap)) M n cc cp cl g0 g1 g2 lf (upd N' (2 * m) (n + 1)) (upd Z' (2 * m) (upd z n x)) := by
  subst e0 e1 hZ'
  have hsz : (wr.alloc o).drew.heap.size = wr.heap.size + 1 := by simp
  have ui : used M (4 + 2 * m) := .inr (.inr ⟨by omega, by omega⟩)
  have u1 : used M 1 := .inr (.inr ⟨by omega, by omega⟩)
  have hgg : gg = G' (4 + 2 * m) ∨ (wr.alloc o).drew.heap.size ≤ gg := by
    rcases hat with h | h
    · exact .inl (Option.some.inj h).symm
    · exact .inr (by omega)
  have hgB : B ≤ gg := by
    rcases hgg with h | h
    · rw [h]; exact hCy.low _ ui
    · omega
  refine ⟨((((hBel.alloc hBw o).drew).grown hgrow (by omega) (fun k hk => by rw [← Option.some.inj hk]; exact hCy.low _ ui)).setCell (hCy.low 1 u1) _), upd G' (4 + 2 * m) gg, upd C' (2 * m) cap, upd_other _ _ (by omega), ?_⟩
  have := (hCy.alloc o).drew.appC (m := m) (g := gg) (cap := cap) hm x hgrow.size (fun k hk hne => hgrow.block k hk (fun e => hne (Option.some.inj e))) hgg hgB (by rw [hN']; exact hown1)
  rw [hN'] at this
  exact this

theorem stage_appP {wr w1 : World} {g0 g1 g2 m gg cap : Nat} {G' C' N' : Nat → Nat} {Z' : Nat → Nat → Int} {z : Nat → Int} (hCy : Cyc B wr M n (some ⟨g1, 0, none⟩) (some ⟨g2, 0, none⟩) cc cp cl G' C' N' Z' lf) (hBel : Below B w wr) (hBw : B ≤ wr.heap.size) (hm : m < M)
    (hN' : N' (2 * m + 1) = n) (hZ' : Z' (2 * m + 1) = z) (e0 : G' 0 = g0) (e2 : G' 2 = g2) (x : Int) (o : Obj)
    (hown1 : w1.ownsRow B 3 1 (.slice (some ⟨gg, 0, none⟩) (n + 1) cap) (n + 1) ((List.range n).map (fun j => .int .i64 (z j)) ++ [.int .i64 x]))
    (hgrow : (wr.alloc o).drew.grownBy w1 (Value.ownBlock (.slice (some ⟨G' (4 + (2 * m + 1)), 0, none⟩) n (C' (2 * m + 1)))))
    (hat : Value.ownBlock (.slice (some ⟨G' (4 + (2 * m + 1)), 0, none⟩) n (C' (2 * m + 1))) = some gg ∨ gg = wr.heap.size + 1) :
    Stage B w (w1.setCell ⟨g2, m, none⟩ (.slice (some ⟨gg, 0, none⟩) (n + 1) cap)) M n cc cp cl g0 g1 g2 lf (upd N' (2 * m + 1) (n + 1)) (upd Z' (2 * m + 1) (upd z n x)) := by
  subst e0 e2 hZ'
  have hsz : (wr.alloc o).drew.heap.size = wr.heap.size + 1 := by simp
  have ui : used M (4 + (2 * m + 1)) := .inr (.inr ⟨by omega, by omega⟩)
  have u2 : used M 2 := .inr (.inr ⟨by omega, by omega⟩)
  have hgg : gg = G' (4 + (2 * m + 1)) ∨ (wr.alloc o).drew.heap.size ≤ gg := by
    rcases hat with h | h
    · exact .inl (Option.some.inj h).symm
    · exact .inr (by omega)
  have hgB : B ≤ gg := by
    rcases hgg with h | h
    · rw [h]; exact hCy.low _ ui
    · omega
  refine ⟨((((hBel.alloc hBw o).drew).grown hgrow (by omega) (fun k hk => by rw [← Option.some.inj hk]; exact hCy.low _ ui)).setCell (hCy.low 2 u2) _), upd G' (4 + (2 * m + 1)) gg, upd C' (2 * m + 1) cap, upd_other _ _ (by omega), ?_⟩
  have := (hCy.alloc o).drew.appP (m := m) (g := gg) (cap := cap) hm x hgrow.size (fun k hk hne => hgrow.block k hk (fun e => hne (Option.some.inj e))) hgg hgB (by rw [hN']; exact hown1)
  rw [hN'] at this
  exact this

theorem stage_appL {wr w1 : World} {gg cap : Nat} {G' C' N' : Nat → Nat} {Z' : Nat → Nat → Int} (hCy : Cyc B wr M n ac ap cc cp cl G' C' N' Z' lf) (hBel : Below B w wr) (hBw : B ≤ wr.heap.size) (e0 : G' 0 = G 0) (o : Obj)
    (hown1 : w1.ownsRow B 4 1 (.slice (some ⟨gg, 0, none⟩) (n + 1) cap) (n + 1) ((List.range n).map (fun j => .bool (lf j)) ++ [.bool false]))
    (hgrow : (wr.alloc o).grownBy w1 (Value.ownBlock (.slice (some ⟨G' 3, 0, none⟩) n cl)))
    (hat : Value.ownBlock (.slice (some ⟨G' 3, 0, none⟩) n cl) = some gg ∨ gg = wr.heap.size + 1) :
    Below B w (w1.setCell ⟨G 0, 2, none⟩ (.slice (some ⟨gg, 0, none⟩) (n + 1) cap)) ∧ Cyc B (w1.setCell ⟨G 0, 2, none⟩ (.slice (some ⟨gg, 0, none⟩) (n + 1) cap)) M (n + 1) ac ap cc cp cap (upd G' 3 gg) C' N' Z' (insL n lf) := by
  have hsz : (wr.alloc o).heap.size = wr.heap.size + 1 := by simp
  have u3 : used M 3 := .inr (.inl rfl)
  have hgg : gg = G' 3 ∨ (wr.alloc o).heap.size ≤ gg := by
    rcases hat with h | h
    · exact .inl (Option.some.inj h).symm
    · exact .inr (by omega)
  have hgB : B ≤ gg := by
    rcases hgg with h | h
    · rw [h]; exact hCy.low _ u3
    · omega
  rw [← e0]
  exact ⟨((hBel.alloc hBw o).grown hgrow (by omega) (fun k hk => by rw [← Option.some.inj hk]; exact hCy.low _ u3)).setCell (hCy.low 0 (.inl rfl)) _,
    (hCy.alloc o).appL (g := gg) (cap := cap) hgrow.size (fun k hk hne => hgrow.block k hk (fun e => hne (Option.some.inj e))) hgg hgB hown1⟩

set_option maxHeartbeats 1000000 in
set_option maxRecDepth 100000 in
theorem join19 (aa : Option Addr) (la ca : Nat) (za : Nat → Int) (pl : Nat → Nat) (h : Cyc B w M n ac ap cc cp cl G C N Z lf) (hN : ∀ i, i < 2 * M → N i = n) (hB : B ≤ w.heap.size)
    (hn : n ≤ 2097152) (hM : M ≤ 2097152) (hla : M ≤ la) (hla2 : la ≤ 2097152)
    (haa : 0 < M → ∃ b off, aa = some ⟨b, off, none⟩ ∧ b < B ∧ ∀ i, i < M → w.cell? ⟨b, off + i, none⟩ = some (.int .i64 (za i)))
    (hpl : ∀ m, m < M → 0 ≤ za m ∧ Chase n (Z (2 * m + 1)) lf (za m).toNat (pl m))
    (hr : ∀ m, m < M → 0 ≤ Z (2 * m) (pl m) ∧ Z (2 * m) (pl m) < n) :
    Calls Try.prog 19 #[.pointer (some ⟨G 0, 0, none⟩), .slice aa la ca] w fun e w' => e = .returned (.int .i64 n) ∧ Below B w w' ∧
      ∃ cl' G' C' N' Z', G' 0 = G 0 ∧ Cyc B w' M (n + 1) ac ap cc cp cl' G' C' N' Z' (insL n lf) ∧ (∀ i, i < 2 * M → N' i = n + 1) ∧
        ∀ m, m < M → Z' (2 * m) = insF n (pl m) (Z (2 * m)) ∧ Z' (2 * m + 1) = insG n (pl m) (Z (2 * m)) (Z (2 * m + 1)) := by
  have h0 := h.f0
  have h2 := h.f2
  have HN : Hid (∀ i, i < 2 * M → N i = n) := hN
  clear hN
  by_cases hM0 : M = 0
  · subst hM0
    have hown := h.ownsL
    have lt0 : G 0 < w.heap.size := World.block_lt_of_cell? _ _ h2
    have ag : Value.ownBlock (.slice (some ⟨G 3, 0, none⟩) n cl) ≠ some (G 0) := by
      intro e; have := h.inj _ _ (.inr (.inl rfl)) (.inl rfl) (Option.some.inj e); omega
    have fz : w.frozen? ⟨G 0, 2, none⟩ = false := h.obj.frozen 2
    have fza : ∀ o, (w.alloc o).frozen? ⟨G 0, 2, none⟩ = false := fun o => by rw [World.frozen?_of_block (w := w) (Below.heap_alloc _ _ _ lt0)]; exact fz
    have f2a : ∀ o, (w.alloc o).cell? ⟨G 0, 2, none⟩ = some (.slice (some ⟨G 3, 0, none⟩) n cl) := fun o => by rw [World.cell?_of_block (w := w) (Below.heap_alloc _ _ _ lt0)]; exact h2
    obtain ⟨i0, hi0, hz0', hz1, hz2⟩ := info_parts Try.info4
    go_enter Try.func19, Try.ntmps19
    go_wp2
    go_loopg [19] 0 (fun g i wr => w = wr ∧ i = .int .i64 0)
    case atStart => exact ⟨rfl, rfl⟩
    case round =>
      obtain ⟨rfl, rfl⟩ := hrel
      go_wp2_with (at_builtin; refine wpList_append_lies _ rfl _ _ _ rfl B 4 i0 _ 1 1 Try.underlying23 hi0 hz0' hz1 hz2 rfl (by omega) (.slice (some ⟨G 3, 0, none⟩) n cl) n _ rfl (hown.alloc _) ⟨w.heap.size, 0, none⟩ 1 1 [.bool false] rfl rfl (World.news_of_block (cs := #[.bool false]) (t := 4) (fr := (0, 0)) (heap_alloc_new w _)) (by simp [Value.oneCell']) (by omega) (by unfold maxLen; omega) (by omega) (by simp; omega) (w.heap.size + 1) (by simp) ?_; intro gg cap w1 hown1 hgrow hat hlt'; have hq0 : w1.cell? ⟨G 0, 2, none⟩ = some (.slice (some ⟨G 3, 0, none⟩) n cl) := (by rw [hgrow.cell_far _ (by simp; omega) (Ne.symm ag)]; exact f2a _); have hq2 : w1.frozen? ⟨G 0, 2, none⟩ = false := (by rw [hgrow.frozen_far _ (by simp; omega) (Ne.symm ag)]; exact fza _))
      go_ret
      obtain ⟨r1, r2⟩ := stage_appL h (Below.refl _ _) hB rfl _ hown1 hgrow hat
      refine ⟨rfl, r1, cap, _, _, _, _, ?_, r2, fun i hi => by omega, fun q hq => by omega⟩
      rw [upd_other _ _ (by omega)]
  obtain ⟨eac, _⟩ := h.tc (by omega)
  obtain ⟨eap, _⟩ := h.tp (by omega)
  subst eac eap
  obtain ⟨b, off, rfl, hbB, hac⟩ := haa (by omega)
  clear haa
  have HAC : Hid (∀ i, i < M → w.cell? ⟨b, off + i, none⟩ = some (.int .i64 (za i))) := hac
  clear hac
  have HPL : Hid (∀ m, m < M → 0 ≤ za m ∧ Chase n (Z (2 * m + 1)) lf (za m).toNat (pl m)) := hpl
  have HR : Hid (∀ m, m < M → 0 ≤ Z (2 * m) (pl m) ∧ Z (2 * m) (pl m) < n) := hr
  clear hpl hr
  go_enter Try.func19, Try.ntmps19
  go_wp2
  clear h0 h2
  go_loopg [19] M (fun g i wr => ∃ m : Nat, m ≤ M ∧ g = M - m ∧ i = .int .i64 m ∧ Below B w wr ∧
    ∃ G' C' N' Z', G' 0 = G 0 ∧ Cyc B wr M n (some ⟨G 1, 0, none⟩) (some ⟨G 2, 0, none⟩) cc cp cl G' C' N' Z' lf ∧ (∀ i, i < 2 * M → N' i = if i < 2 * m then n + 1 else n) ∧
        (∀ q, q < m → Z' (2 * q) = insF n (pl q) (Z (2 * q)) ∧ Z' (2 * q + 1) = insG n (pl q) (Z (2 * q)) (Z (2 * q + 1))) ∧ ∀ i, 2 * m ≤ i → Z' i = Z i)
  case atStart => exact ⟨0, Nat.zero_le _, rfl, rfl, Below.refl _ _, G, C, N, Z, rfl, h, fun i hi => by rw [if_neg (by omega)]; exact HN.out i hi, fun q hq => by omega, fun _ _ => rfl⟩
  case round =>
    obtain ⟨m, hm, rfl, rfl, hBel, G', C', N', Z', hG0, hCy, hN', hZ1, hZ2⟩ := hrel
    have HN' : Hid (∀ i, i < 2 * M → N' i = if i < 2 * m then n + 1 else n) := hN'
    have HZ : Hid ((∀ q, q < m → Z' (2 * q) = insF n (pl q) (Z (2 * q)) ∧ Z' (2 * q + 1) = insG n (pl q) (Z (2 * q)) (Z (2 * q + 1))) ∧ ∀ i, 2 * m ≤ i → Z' i = Z i) := ⟨hZ1, hZ2⟩
    have HG0 : Hid (G' 0 = G 0) := hG0
    clear hN' hZ1 hZ2 hG0
    by_cases hlt : m < M
    · obtain ⟨e1, _⟩ := hCy.tc (by omega)
      obtain ⟨e2, _⟩ := hCy.tp (by omega)
      have HG1 : Hid (G' 1 = G 1) := by show G' 1 = G 1; simpa using e1.symm
      have HG2 : Hid (G' 2 = G 2) := by show G' 2 = G 2; simpa using e2.symm
      clear e1 e2
      obtain ⟨k, hk1, hk2, hk3, hk4⟩ := (HPL.out m hlt).2
      have hz0 := (HPL.out m hlt).1
      have hca : wr.cell? ⟨b, off + m, none⟩ = some (.int .i64 (za m)) := by rw [hBel.cell (by exact hbB)]; exact HAC.out m hlt
      have f0 : wr.cell? ⟨G 0, 0, none⟩ = some (.slice (some ⟨G 1, 0, none⟩) M cc) := by rw [← HG0.out]; exact hCy.f0
      have f1 : wr.cell? ⟨G 0, 1, none⟩ = some (.slice (some ⟨G 2, 0, none⟩) M cp) := by rw [← HG0.out]; exact hCy.f1
      have f2 : wr.cell? ⟨G 0, 2, none⟩ = some (.slice (some ⟨G' 3, 0, none⟩) n cl) := by rw [← HG0.out]; exact hCy.f2
      have n1 : N' (2 * m) = n := by rw [HN'.out _ (by omega), if_neg (by omega)]
      have n2 : N' (2 * m + 1) = n := by rw [HN'.out _ (by omega), if_neg (by omega)]
      have tc : wr.cell? ⟨G 1, m, none⟩ = some (.slice (some ⟨G' (4 + 2 * m), 0, none⟩) n (C' (2 * m))) := by rw [← HG1.out, ← n1]; exact hCy.topC hlt
      have tp : wr.cell? ⟨G 2, m, none⟩ = some (.slice (some ⟨G' (4 + (2 * m + 1)), 0, none⟩) n (C' (2 * m + 1))) := by rw [← HG2.out, ← n2]; exact hCy.topP hlt
      have HM : Hid (∀ j, j < n → wr.cell? ⟨G' 3, j, none⟩ = some (.bool (lf j))) := fun j hj => hCy.mark hj
      have HCN : Hid (∀ j, j < n → wr.cell? ⟨G' (4 + 2 * m), j, none⟩ = some (.int .i64 (Z (2 * m) j))) := fun j hj => by
        rw [← HZ.out.2 (2 * m) (Nat.le_refl _)]; exact hCy.num (by omega) (by omega)
      have HPN : Hid (∀ j, j < n → wr.cell? ⟨G' (4 + (2 * m + 1)), j, none⟩ = some (.int .i64 (Z (2 * m + 1) j))) := fun j hj => by
        rw [← HZ.out.2 (2 * m + 1) (by omega)]; exact hCy.num (by omega) (by omega)
      have HE : Hid (N' (2 * m) = n ∧ N' (2 * m + 1) = n) := ⟨n1, n2⟩
      clear n1 n2
      have HK : Hid (chain (Z (2 * m + 1)) (za m).toNat k = pl m ∧ pl m < n ∧ lf (pl m) = false ∧ ∀ i, i < k → chain (Z (2 * m + 1)) (za m).toNat i < n ∧ lf (chain (Z (2 * m + 1)) (za m).toNat i) = true ∧ 0 ≤ Z (2 * m + 1) (chain (Z (2 * m + 1)) (za m).toNat i)) := ⟨hk1, hk2, hk3, hk4⟩
      clear hk1 hk2 hk3 hk4
      have hml : m < la := by omega
      go_wp2
      -- the road to the first present one
      go_loopg [7] k (fun g i wi => wr = wi ∧ ∃ q x : Nat, q ≤ k ∧ g = k - q ∧ i = .int .i64 x ∧ Hid (x = chain (Z (2 * m + 1)) (za m).toNat q))
      case atStart => exact ⟨rfl, 0, (za m).toNat, Nat.zero_le _, rfl, int_eq (by omega), rfl⟩
      case round =>
        obtain ⟨rfl, q, x, hq, rfl, rfl, HX⟩ := hrel
        by_cases hqk : q < k
        · obtain ⟨i1, i2, i3⟩ := HK.out.2.2.2 q hqk
          rw [← HX.out] at i1 i2 i3
          have m1 := HM.out x i1
          have m2 := HPN.out x i1
          rw [i2] at m1
          have HI2 : Hid (lf x = true) := i2
          clear i2
          go_wp2
          go_roundg (k - (q + 1))
          case measure => omega
          case rel => exact ⟨rfl, q + 1, (Z (2 * m + 1) x).toNat, by omega, rfl, int_eq (by omega), by show _ = (Z (2 * m + 1) (chain _ _ q)).toNat; rw [← HX.out]⟩
        · have hqe : q = k := by omega
          have HXP : Hid (x = pl m) := by rw [← HK.out.1, ← hqe]; exact HX.out
          have hxn : x < n := by rw [HXP.out]; exact HK.out.2.1
          have hxl : lf x = false := by rw [HXP.out]; exact HK.out.2.2.1
          have m1 := HM.out x hxn
          rw [hxl] at m1
          have m2 := HCN.out x hxn
          have hrm := HR.out m hlt
          rw [← HXP.out] at hrm
          clear hqe hqk hxl HX hq HK
          go_wp2
          clear m1 m2
          go_cut [] (fun wc => Stage B w wc M n cc cp cl (G 0) (G 1) (G 2) lf (upd N' (2 * m) (n + 1)) (upd Z' (2 * m) (upd (Z (2 * m)) n (Z (2 * m) x))))
          case first =>
            have hown : wr.ownsRow B 3 1 (.slice (some ⟨G' (4 + 2 * m), 0, none⟩) n (C' (2 * m))) n ((List.range n).map fun j => .int .i64 (Z (2 * m) j)) := by
              have := hCy.owns (i := 2 * m) (by omega)
              rw [HE.out.1, HZ.out.2 (2 * m) (Nat.le_refl _)] at this
              exact this
            have lt0 : G 0 < wr.heap.size := World.block_lt_of_cell? _ _ f0
            have lt1 : G 1 < wr.heap.size := World.block_lt_of_cell? _ _ tc
            have ag : Value.ownBlock (.slice (some ⟨G' (4 + 2 * m), 0, none⟩) n (C' (2 * m))) ≠ some (G 0) := by
              rw [← HG0.out]; intro e; have := hCy.inj _ _ (.inr (.inr ⟨by omega, by omega⟩)) (.inl rfl) (Option.some.inj e); omega
            have ak : Value.ownBlock (.slice (some ⟨G' (4 + 2 * m), 0, none⟩) n (C' (2 * m))) ≠ some (G 1) := by
              rw [← HG1.out]; intro e; have := hCy.inj _ _ (.inr (.inr ⟨by omega, by omega⟩)) (.inr (.inr ⟨by omega, by omega⟩)) (Option.some.inj e); omega
            have fz : wr.frozen? ⟨G 1, m, none⟩ = false := by rw [← HG1.out]; exact (hCy.tc (by omega)).2.frozen m
            have fza : ∀ o, (wr.alloc o).frozen? ⟨G 1, m, none⟩ = false := fun o => by rw [World.frozen?_of_block (w := wr) (Below.heap_alloc _ _ _ lt1)]; exact fz
            have f0a : ∀ o, (wr.alloc o).cell? ⟨G 0, 0, none⟩ = some (.slice (some ⟨G 1, 0, none⟩) M cc) := fun o => by rw [World.cell?_of_block (w := wr) (Below.heap_alloc _ _ _ lt0)]; exact f0
            have tca : ∀ o, (wr.alloc o).cell? ⟨G 1, m, none⟩ = some (.slice (some ⟨G' (4 + 2 * m), 0, none⟩) n (C' (2 * m))) := fun o => by rw [World.cell?_of_block (w := wr) (Below.heap_alloc _ _ _ lt1)]; exact tc
            obtain ⟨i0, hi0, hz0', hz1, hz2⟩ := info_parts Try.info3
            have hm0 : (0 : Int) ≤ (m : Int) := Int.natCast_nonneg _
            have hm1 : (m : Int) < (M : Int) := by omega
            have hBw : B ≤ wr.heap.size := Nat.le_trans hB hBel.size
            clear HM HPN HCN HAC
            go_region_law (
              (refine step_append_lies _ (by rfl) _ _ _ (by rfl) B 3 i0 _ 1 8 Try.underlying24 hi0 hz0' hz1 hz2 rfl (by omega) _ n _ (by rfl) ((hown.alloc _).drew)
                 ⟨wr.heap.size, 0, none⟩ 1 1 [.int .i64 (Z (2 * m) x)] (by rfl) (by rfl) (World.news_of_block (cs := #[.int .i64 (Z (2 * m) x)]) (t := 3) (fr := (0, 0)) (heap_alloc_new wr _)) (by simp [Value.oneCell'])
                 (by omega) (by unfold maxLen; omega) (by omega) (by simp; omega) (wr.heap.size + 1) (by simp) ?_; intro gg cap w1 hown1 hgrow hat hlt'
               have hq0 : w1.cell? ⟨G 0, 0, none⟩ = some (.slice (some ⟨G 1, 0, none⟩) M cc) := by rw [hgrow.cell_far _ (by simp; omega) (Ne.symm ag)]; exact f0a _
               have hq1 : w1.cell? ⟨G 1, m, none⟩ = some (.slice (some ⟨G' (4 + 2 * m), 0, none⟩) n (C' (2 * m))) := by rw [hgrow.cell_far _ (by simp; omega) (Ne.symm ak)]; exact tca _
               have hq2 : w1.frozen? ⟨G 1, m, none⟩ = false := by rw [hgrow.frozen_far _ (by simp; omega) (Ne.symm ak)]; exact fza _))
            all_goals (go_wp2_with fail; go_meet; exact stage_appC hCy hBel hBw hlt HE.out.1 (HZ.out.2 _ (Nat.le_refl _)) HG0.out HG1.out _ _ hown1 hgrow hat)
          case rest =>
            obtain ⟨hBel1, G2, C2, hG20, hCy1⟩ := hcut
            have HG20 : Hid (G2 0 = G 0) := hG20
            have HG21 : Hid (G2 1 = G 1) := by have := (hCy1.tc (by omega)).1; show G2 1 = G 1; simpa using this.symm
            have HG22 : Hid (G2 2 = G 2) := by have := (hCy1.tp (by omega)).1; show G2 2 = G 2; simpa using this.symm
            clear f0 f1 f2 tc tp hca HM HPN HCN hG20
            have HN2 : Hid (upd N' (2 * m) (n + 1) (2 * m + 1) = n) := by show _ = _; rw [upd_other _ _ (by omega)]; exact HE.out.2
            have HZ2 : Hid (upd Z' (2 * m) (upd (Z (2 * m)) n (Z (2 * m) x)) (2 * m + 1) = Z (2 * m + 1)) := by show _ = _; rw [upd_other _ _ (by omega)]; exact HZ.out.2 _ (by omega)
            have f1 : wc.cell? ⟨G 0, 1, none⟩ = some (.slice (some ⟨G 2, 0, none⟩) M cp) := by rw [← HG20.out]; exact hCy1.f1
            have tp : wc.cell? ⟨G 2, m, none⟩ = some (.slice (some ⟨G2 (4 + (2 * m + 1)), 0, none⟩) n (C2 (2 * m + 1))) := by
              have := hCy1.topP hlt
              rw [HN2.out, HG22.out] at this; exact this
            go_wp2
            go_cut [] (fun wc => Stage B w wc M n cc cp cl (G 0) (G 1) (G 2) lf (upd (upd N' (2 * m) (n + 1)) (2 * m + 1) (n + 1)) (upd (upd Z' (2 * m) (upd (Z (2 * m)) n (Z (2 * m) x))) (2 * m + 1) (upd (Z (2 * m + 1)) n x)))
            case first =>
              have hown : wc.ownsRow B 3 1 (.slice (some ⟨G2 (4 + (2 * m + 1)), 0, none⟩) n (C2 (2 * m + 1))) n ((List.range n).map fun j => .int .i64 (Z (2 * m + 1) j)) := by
                have := hCy1.owns (i := 2 * m + 1) (by omega)
                rw [HN2.out, HZ2.out] at this
                exact this
              have lt0 : G 0 < wc.heap.size := World.block_lt_of_cell? _ _ f1
              have lt2 : G 2 < wc.heap.size := World.block_lt_of_cell? _ _ tp
              have ag : Value.ownBlock (.slice (some ⟨G2 (4 + (2 * m + 1)), 0, none⟩) n (C2 (2 * m + 1))) ≠ some (G 0) := by
                rw [← HG20.out]; intro e; have := hCy1.inj _ _ (.inr (.inr ⟨by omega, by omega⟩)) (.inl rfl) (Option.some.inj e); omega
              have ak : Value.ownBlock (.slice (some ⟨G2 (4 + (2 * m + 1)), 0, none⟩) n (C2 (2 * m + 1))) ≠ some (G 2) := by
                rw [← HG22.out]; intro e; have := hCy1.inj _ _ (.inr (.inr ⟨by omega, by omega⟩)) (.inr (.inr ⟨by omega, by omega⟩)) (Option.some.inj e); omega
              have fz : wc.frozen? ⟨G 2, m, none⟩ = false := by rw [← HG22.out]; exact (hCy1.tp (by omega)).2.frozen m
              have fza : ∀ o, (wc.alloc o).frozen? ⟨G 2, m, none⟩ = false := fun o => by rw [World.frozen?_of_block (w := wc) (Below.heap_alloc _ _ _ lt2)]; exact fz
              have f1a : ∀ o, (wc.alloc o).cell? ⟨G 0, 1, none⟩ = some (.slice (some ⟨G 2, 0, none⟩) M cp) := fun o => by rw [World.cell?_of_block (w := wc) (Below.heap_alloc _ _ _ lt0)]; exact f1
              have tpa : ∀ o, (wc.alloc o).cell? ⟨G 2, m, none⟩ = some (.slice (some ⟨G2 (4 + (2 * m + 1)), 0, none⟩) n (C2 (2 * m + 1))) := fun o => by rw [World.cell?_of_block (w := wc) (Below.heap_alloc _ _ _ lt2)]; exact tp
              obtain ⟨i0, hi0, hz0', hz1, hz2⟩ := info_parts Try.info3
              have hm0 : (0 : Int) ≤ (m : Int) := Int.natCast_nonneg _
              have hm1 : (m : Int) < (M : Int) := by omega
              have hBw : B ≤ wc.heap.size := Nat.le_trans hB hBel1.size
              clear HAC
              go_region_law (
                (refine step_append_lies _ (by rfl) _ _ _ (by rfl) B 3 i0 _ 1 8 Try.underlying24 hi0 hz0' hz1 hz2 rfl (by omega) _ n _ (by rfl) ((hown.alloc _).drew)
                   ⟨wc.heap.size, 0, none⟩ 1 1 [.int .i64 x] (by rfl) (by rfl) (World.news_of_block (cs := #[.int .i64 x]) (t := 3) (fr := (0, 0)) (heap_alloc_new wc _)) (by simp [Value.oneCell'])
                   (by omega) (by unfold maxLen; omega) (by omega) (by simp; omega) (wc.heap.size + 1) (by simp) ?_; intro gg cap w1 hown1 hgrow hat hlt'
                 have hq0 : w1.cell? ⟨G 0, 1, none⟩ = some (.slice (some ⟨G 2, 0, none⟩) M cp) := by rw [hgrow.cell_far _ (by simp; omega) (Ne.symm ag)]; exact f1a _
                 have hq1 : w1.cell? ⟨G 2, m, none⟩ = some (.slice (some ⟨G2 (4 + (2 * m + 1)), 0, none⟩) n (C2 (2 * m + 1))) := by rw [hgrow.cell_far _ (by simp; omega) (Ne.symm ak)]; exact tpa _
                 have hq2 : w1.frozen? ⟨G 2, m, none⟩ = false := by rw [hgrow.frozen_far _ (by simp; omega) (Ne.symm ak)]; exact fza _))
              all_goals (go_wp2_with fail; go_meet; exact stage_appP hCy1 hBel1 hBw hlt HN2.out HZ2.out HG20.out HG22.out _ _ hown1 hgrow hat)
            case rest =>
              clear f1 tp
              obtain ⟨hBel2, G3, C3, hG30, hCy2⟩ := hcut
              have HG30 : Hid (G3 0 = G 0) := hG30
              have HG31 : Hid (G3 1 = G 1) := by have := (hCy2.tc (by omega)).1; show G3 1 = G 1; simpa using this.symm
              have HG32 : Hid (G3 2 = G 2) := by have := (hCy2.tp (by omega)).1; show G3 2 = G 2; simpa using this.symm
              clear hG30 hBel1 hCy1 HG20 HG21 HG22 HN2 HZ2
              obtain ⟨N3, HN3⟩ : ∃ N3, Hid (N3 = upd (upd N' (2 * m) (n + 1)) (2 * m + 1) (n + 1)) := ⟨_, rfl⟩
              obtain ⟨Z3, HZ3⟩ : ∃ Z3, Hid (Z3 = upd (upd Z' (2 * m) (upd (Z (2 * m)) n (Z (2 * m) x))) (2 * m + 1) (upd (Z (2 * m + 1)) n x)) := ⟨_, rfl⟩
              rw [← HN3.out, ← HZ3.out] at hCy2
              have HNa : Hid (N3 (2 * m) = n + 1) := by show _ = _; rw [HN3.out, upd_other _ _ (by omega), upd_same]
              have HNb : Hid (N3 (2 * m + 1) = n + 1) := by show _ = _; rw [HN3.out, upd_same]
              have f0 : wc.cell? ⟨G 0, 0, none⟩ = some (.slice (some ⟨G 1, 0, none⟩) M cc) := by rw [← HG30.out]; exact hCy2.f0
              have f1 : wc.cell? ⟨G 0, 1, none⟩ = some (.slice (some ⟨G 2, 0, none⟩) M cp) := by rw [← HG30.out]; exact hCy2.f1
              have tc : wc.cell? ⟨G 1, m, none⟩ = some (.slice (some ⟨G3 (4 + 2 * m), 0, none⟩) (n + 1) (C3 (2 * m))) := by
                have := hCy2.topC hlt
                rw [HNa.out, HG31.out] at this; exact this
              have tp : wc.cell? ⟨G 2, m, none⟩ = some (.slice (some ⟨G3 (4 + (2 * m + 1)), 0, none⟩) (n + 1) (C3 (2 * m + 1))) := by
                have := hCy2.topP hlt
                rw [HNb.out, HG32.out] at this; exact this
              obtain ⟨y, HY⟩ : ∃ y : Nat, Hid (Z (2 * m) x = y) := ⟨(Z (2 * m) x).toNat, by show _ = _; omega⟩
              have hyn : y < n := by have := HY.out; omega
              obtain ⟨v1, hv1⟩ : ∃ v, wc.cell? ⟨G3 (4 + 2 * m), x, none⟩ = some (.int .i64 v) := ⟨_, hCy2.num (by omega) (by rw [HNa.out]; omega)⟩
              obtain ⟨v2, hv2⟩ : ∃ v, wc.cell? ⟨G3 (4 + (2 * m + 1)), y, none⟩ = some (.int .i64 v) := ⟨_, hCy2.num (by omega) (by rw [HNb.out]; omega)⟩
              have z1 : wc.frozen? ⟨G3 (4 + 2 * m), x, none⟩ = false := by obtain ⟨_, _, F, r, _⟩ := hCy2.row (2 * m) (by omega); exact r.frozen x
              have z2 : wc.frozen? ⟨G3 (4 + (2 * m + 1)), y, none⟩ = false := by obtain ⟨_, _, F, r, _⟩ := hCy2.row (2 * m + 1) (by omega); exact r.frozen y
              have nab : G3 (4 + 2 * m) ≠ G3 (4 + (2 * m + 1)) := fun e => by have := hCy2.inj _ _ (.inr (.inr ⟨by omega, by omega⟩)) (.inr (.inr ⟨by omega, by omega⟩)) e; omega
              have nba : G3 (4 + (2 * m + 1)) ≠ G3 (4 + 2 * m) := Ne.symm nab
              clear hrm
              rw [HY.out]
              go_wp2
              have hm0 : (0 : Int) ≤ (m : Int) := Int.natCast_nonneg _
              have hm1 : (m : Int) < (M : Int) := by omega
              have hx0 : (0 : Int) ≤ (x : Int) := Int.natCast_nonneg _
              have hx1 : (x : Int) < ((n + 1 : Nat) : Int) := by omega
              have hy0 : (0 : Int) ≤ (y : Int) := Int.natCast_nonneg _
              have hy1 : (y : Int) < ((n + 1 : Nat) : Int) := by omega
              go_region
              go_wp2
              go_roundg (M - (m + 1))
              case measure => omega
              case rel =>
                have hS := (hCy2.store (i := 2 * m) (j := x) (by omega) n).store (i := 2 * m + 1) (j := y) (by omega) n
                refine ⟨m + 1, by omega, rfl, by go_num, ((hBel2.setCell (hCy2.low (4 + 2 * m) (.inr (.inr ⟨by omega, by omega⟩))) _).setCell (hCy2.low (4 + (2 * m + 1)) (.inr (.inr ⟨by omega, by omega⟩))) _).drew, G3, C3, N3, _, HG30.out, hS.drew, fun i hi => ?_, fun q hq => ?_, fun i hi => ?_⟩
                · rw [HN3.out]
                  by_cases e1 : i = 2 * m + 1
                  · subst e1; rw [upd_same, if_pos (by omega)]
                  · rw [upd_other _ _ e1]
                    by_cases e2 : i = 2 * m
                    · subst e2; rw [upd_same, if_pos (by omega)]
                    · rw [upd_other _ _ e2, HN'.out i hi]
                      by_cases e3 : i < 2 * m
                      · rw [if_pos e3, if_pos (by omega)]
                      · rw [if_neg e3, if_neg (by omega)]
                · by_cases e : q = m
                  · subst e
                    have ey : y = (Z (2 * q) x).toNat := by have := HY.out; omega
                    rw [← HXP.out]
                    refine ⟨?_, ?_⟩
                    · rw [upd_other _ _ (by omega), upd_same, HZ3.out, upd_other _ _ (by omega), upd_same]; rfl
                    · rw [upd_same, upd_other _ _ (by omega), HZ3.out, upd_same, ey]; rfl
                  · rw [upd_other _ _ (by omega), upd_other _ _ (by omega), upd_other _ _ (by omega), upd_other _ _ (by omega), HZ3.out, upd_other _ _ (by omega), upd_other _ _ (by omega), upd_other _ _ (by omega), upd_other _ _ (by omega)]
                    exact HZ.out.1 q (by omega)
                · rw [upd_other _ _ (by omega), upd_other _ _ (by omega), HZ3.out, upd_other _ _ (by omega), upd_other _ _ (by omega)]
                  exact HZ.out.2 i (by omega)
    · have hme : m = M := by omega
      have f2 : wr.cell? ⟨G 0, 2, none⟩ = some (.slice (some ⟨G' 3, 0, none⟩) n cl) := by rw [← HG0.out]; exact hCy.f2
      have hown := hCy.ownsL
      have lt0 : G 0 < wr.heap.size := World.block_lt_of_cell? _ _ f2
      have ag : Value.ownBlock (.slice (some ⟨G' 3, 0, none⟩) n cl) ≠ some (G 0) := by
        rw [← HG0.out]; intro e; have := hCy.inj _ _ (.inr (.inl rfl)) (.inl rfl) (Option.some.inj e); omega
      have fz : wr.frozen? ⟨G 0, 2, none⟩ = false := by rw [← HG0.out]; exact hCy.obj.frozen 2
      have fza : ∀ o, (wr.alloc o).frozen? ⟨G 0, 2, none⟩ = false := fun o => by rw [World.frozen?_of_block (w := wr) (Below.heap_alloc _ _ _ lt0)]; exact fz
      have f2a : ∀ o, (wr.alloc o).cell? ⟨G 0, 2, none⟩ = some (.slice (some ⟨G' 3, 0, none⟩) n cl) := fun o => by rw [World.cell?_of_block (w := wr) (Below.heap_alloc _ _ _ lt0)]; exact f2
      obtain ⟨i0, hi0, hz0', hz1, hz2⟩ := info_parts Try.info4
      have hBw : B ≤ wr.heap.size := Nat.le_trans hB hBel.size
      have HM : Hid (m = M) := hme
      clear hme
      go_wp2_with (at_builtin; refine wpList_append_lies _ rfl _ _ _ rfl B 4 i0 _ 1 1 Try.underlying23 hi0 hz0' hz1 hz2 rfl (by omega) (.slice (some ⟨G' 3, 0, none⟩) n cl) n _ rfl (hown.alloc _) ⟨wr.heap.size, 0, none⟩ 1 1 [.bool false] rfl rfl (World.news_of_block (cs := #[.bool false]) (t := 4) (fr := (0, 0)) (heap_alloc_new wr _)) (by simp [Value.oneCell']) (by omega) (by unfold maxLen; omega) (by omega) (by simp; omega) (wr.heap.size + 1) (by simp) ?_; intro gg cap w1 hown1 hgrow hat hlt'; have hq0 : w1.cell? ⟨G 0, 2, none⟩ = some (.slice (some ⟨G' 3, 0, none⟩) n cl) := (by rw [hgrow.cell_far _ (by simp; omega) (Ne.symm ag)]; exact f2a _); have hq2 : w1.frozen? ⟨G 0, 2, none⟩ = false := (by rw [hgrow.frozen_far _ (by simp; omega) (Ne.symm ag)]; exact fza _))
      go_ret
      obtain ⟨r1, r2⟩ := stage_appL hCy hBel hBw HG0.out _ hown1 hgrow hat
      refine ⟨rfl, r1, cap, _, _, _, _, ?_, r2, fun i hi => ?_, fun q hq => HZ.out.1 q (by have := HM.out; omega)⟩
      · rw [upd_other _ _ (by omega)]; exact HG0.out
      · rw [HN'.out i hi, if_pos (by have := HM.out; omega)]
end
end Go.Proofs.Qxb6601170a
