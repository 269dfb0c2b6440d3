/-
  SEAT b6601170a: FnRenumberedPullsBackThroughOrder (5): the walk.
-/
import Derived.Test.Qxb6601170aRenum
import Derived.Test.Qxb6601170aGuardA
namespace Go.Proofs.Qxb6601170a
open Go.RowKit Go.Deep
set_option linter.unusedVariables false

theorem RowAt.nil {w : World} {a : Option Addr} {n : Nat} {f : Nat → Value} (h : RowAt w a n f) : a = none → n = 0 := fun e => by
  rcases Nat.eq_zero_or_pos n with h0 | h0
  · exact h0
  · obtain ⟨b, off, e2, _⟩ := h h0; rw [e] at e2; cases e2

/-- What ZZRenumbered hands back, as views. -/
def Pulled (w w' : World) (l r : Int) (a : Option Addr) (nv cv M k : Nat) (Z : Nat → Nat → Int) (mu ph o : Nat → Int) (p : Nat) : Prop :=
  Below w.heap.size w w' ∧ ∃ (nf : Nat → Int) (bc bm bp : Nat) (R : Nat → Option Addr), (∀ q : Nat, q < k → nf (o q).toNat = q) ∧
    w'.cell? ⟨p, 0, none⟩ = some (.int .i64 l) ∧ w'.cell? ⟨p, 1, none⟩ = some (.slice a nv cv) ∧ w'.cell? ⟨p, 2, none⟩ = some (.int .i64 r) ∧
    w'.cell? ⟨p, 3, none⟩ = some (.slice (some ⟨bc, 0, none⟩) M M) ∧ w'.cell? ⟨p, 4, none⟩ = some (.slice (some ⟨bm, 0, none⟩) k k) ∧ w'.cell? ⟨p, 5, none⟩ = some (.slice (some ⟨bp, 0, none⟩) k k) ∧
    Rows2 w' (some ⟨bc, 0, none⟩) M R (fun _ => k) (fun _ => k) (pull Z o nf) ∧ RowAt w' (some ⟨bm, 0, none⟩) k (ints fun i => mu (o i).toNat) ∧ RowAt w' (some ⟨bp, 0, none⟩) k (ints fun i => ph (o i).toNat)

set_option maxHeartbeats 400000 in
theorem renum27 (l r : Int) (av ac am ap ao : Option Addr) (nv M n np k cv cc cm cp co : Nat) (A : Nat → Option Addr) (L C : Nat → Nat) (Z : Nat → Nat → Int) (mu ph o : Nat → Int) (w : World)
    (hC : Rows2 w ac M A L C Z) (hMu : RowAt w am n (ints mu)) (hPh : RowAt w ap np (ints ph)) (hO : RowAt w ao k (ints o)) (hn : n ≤ 1048576) (hM : M ≤ 1048576) (hp : np ≤ 1048576) (hk : k ≤ 1048576) (hls : ∀ r, r < M → L r ≤ 1048576)
    (hOK : OrderOK k n np M L o Z) :
    Calls Try.prog 27 #[.agg #[.int .i64 l, .slice av nv cv, .int .i64 r], .slice ac M cc, .slice am n cm, .slice ap np cp, .slice ao k co] w fun e w' => ∃ p, e = .returned (.pointer (some ⟨p, 0, none⟩)) ∧ Pulled w w' l r av nv cv M k Z mu ph o p := by
  have hb0 : Below w.heap.size w (w.alloc (.cells #[.int .i64 l, .slice av nv cv, .int .i64 r] 45)) := (Below.refl _ _).alloc (Nat.le_refl _) _
  have HC := renum41 l r av ac am ap ao nv M n np k cv cc cm cp co A L C Z mu ph o _ (hC.below hb0) (hMu.below hb0) (hPh.below hb0) (hO.below hb0) hn hM hp hk hls hOK
  go_enter Try.func27, Try.ntmps27
  go_wp2_with (go_at_call 41; refine HC.mono ?_; rintro e w' ⟨rfl, nf, bc, bm, bp, hnf, hR⟩)
  go_ret
  have ho := hR.obj
  rw [show (w.alloc (.cells #[.int .i64 l, .slice av nv cv, .int .i64 r] 45)).heap.size = w.heap.size + 1 by simp] at ho
  refine ⟨_, rfl, hb0.trans (hR.below.mono hb0.size), nf, bc, bm, bp, _, hnf, ho.cell (i := 0) (by omega), ho.cell (i := 1) (by omega), ho.cell (i := 2) (by omega), ho.cell (i := 3) (by omega), ho.cell (i := 4) (by omega), ho.cell (i := 5) (by omega), ⟨RowAt.of_rowIs hR.ch (Nat.le_refl _), fun q hq => RowAt.of_rowIs (hR.row q hq) (Nat.le_refl _)⟩, RowAt.of_rowIs hR.mu (Nat.le_refl _), RowAt.of_rowIs hR.ph (Nat.le_refl _)⟩

set_option maxRecDepth 100000 in
set_option maxHeartbeats 2000000 in
theorem walk5 (l r : Int) (av ac am ap ao : Option Addr) (nv M n np k cv cc cm cp co : Nat) (A : Nat → Option Addr) (L C : Nat → Nat) (Z : Nat → Nat → Int) (vec mu ph o : Nat → Int) (w : World)
    (hC : Rows2 w ac M A L C Z) (hV : RowAt w av nv (ints vec)) (hMu : RowAt w am n (ints mu)) (hPh : RowAt w ap np (ints ph)) (hO : RowAt w ao k (ints o))
    (z1 : av = none → nv = 0) (z2 : ac = none → M = 0) (z3 : am = none → n = 0) (z4 : ap = none → np = 0) (z5 : ao = none → k = 0)
    (hv : nv ≤ maxLen) (hM : M ≤ maxLen) (hn : n ≤ maxLen) (hp : np ≤ maxLen) (hk : k ≤ maxLen) (hls : ∀ r, r < M → L r ≤ maxLen) (hnil : ∀ r, r < M → A r = none → L r = 0) :
    Calls Try.prog 5 #[.int .i64 l, .slice av nv cv, .int .i64 r, .slice ac M cc, .slice am n cm, .slice ap np cp, .slice ao k co] w fun e w' => e = .returned (.bool true) ∧ Below w.heap.size w w' := by
  have HZ := zzb24 l r av ac am ap ao nv M n np k cv cc cm cp co A L C w hC.top hv hM hn hp hk hls
  go_enter Try.func5, Try.ntmps5
  go_wp2_with fail
  refine HZ.mono ?_
  rintro e w ⟨b, rfl, rfl, hb⟩
  clear HZ hv hM hn hp hk hls
  cases b with
  | false =>
    go_wp2
    go_ret
    exact ⟨rfl, Below.refl _ _⟩
  | true =>
  obtain ⟨hv, hM, hn, hp, hk, hls⟩ := hb rfl
  clear hb
  have HZ := nested10 ac M cc A L C w hC.top hM hls
  go_wp2_with fail
  refine HZ.mono ?_
  rintro e w ⟨t, rfl, rfl, ht0, ht1⟩
  clear HZ
  by_cases hs : 1048576 < 8 * ((nv : Int) + n + np + k) + t
  · go_wp2
    go_ret
    exact ⟨rfl, Below.refl _ _⟩
  go_upto_region 7 with fail
  go_cut [84] (fun s wc => w = wc ∧ ∃ b, s = .bool b)
  case first =>
    by_cases hk0 : k = 0
    · have hd : decide ((0 : Int) < (k : Int)) = false := decide_eq_false (by omega)
      go_wp2_with fail
      go_meet
      exact ⟨rfl, _, rfl⟩
    · have hd : (0 : Int) < (k : Int) := by omega
      go_wp2_with fail
      go_meet
      exact ⟨rfl, _, rfl⟩
  case rest =>
  obtain ⟨rfl, b, rfl⟩ := hcut
  cases b with
  | true =>
    go_wp2
    go_ret
    exact ⟨rfl, Below.refl _ _⟩
  | false =>
  have HO := order25 ac am ap ao M n np k cc cm cp co A L C Z o w hC hO hn hM hp hk hls
  go_wp2_with fail
  refine HO.mono ?_
  rintro e w1 ⟨b, rfl, hb1, hb⟩
  clear HO
  cases b with
  | false =>
    go_wp2
    go_ret
    exact ⟨rfl, hb1⟩
  | true =>
  have hOK := hb rfl
  clear hb
  have C1 := clone1 av nv cv vec w1 (hV.below hb1) z1 hv
  go_wp2_with fail
  refine C1.mono ?_
  rintro e w2 ⟨av2, cv2, rfl, hb2, hV2⟩
  clear C1
  have HB2 := hb1.trans (hb2.mono hb1.size)
  have C1 := clone2 ac M cc A L C Z w2 (hC.below HB2) z2 hM hls hnil
  go_wp2_with fail
  refine C1.mono ?_
  rintro e w3 ⟨ac3, cc3, A3, C3, rfl, hb3, hC3⟩
  clear C1
  have HB3 := HB2.trans (hb3.mono HB2.size)
  have C1 := clone1 am n cm mu w3 (hMu.below HB3) z3 hn
  go_wp2_with fail
  refine C1.mono ?_
  rintro e w4 ⟨am4, cm4, rfl, hb4, hMu4⟩
  clear C1
  have HB4 := HB3.trans (hb4.mono HB3.size)
  have C1 := clone1 ap np cp ph w4 (hPh.below HB4) z4 hp
  go_wp2_with fail
  refine C1.mono ?_
  rintro e w5 ⟨ap5, cp5, rfl, hb5, hPh5⟩
  clear C1
  have HB5 := HB4.trans (hb5.mono HB4.size)
  have C1 := clone1 ao k co o w5 (hO.below HB5) z5 hk
  go_wp2_with fail
  refine C1.mono ?_
  rintro e w6 ⟨ao6, co6, rfl, hb6, hO6⟩
  clear C1
  have HB6 := HB5.trans (hb6.mono HB5.size)
  have B46 := hb5.trans (hb6.mono hb5.size)
  have B36 := hb4.trans (B46.mono hb4.size)
  have B26 := hb3.trans (B36.mono hb3.size)
  have hV6 := hV2.below B26
  have hC6 := hC3.below B36
  have hMu6 := hMu4.below B46
  have hPh6 := hPh5.below hb6
  clear hb1 hb2 hb3 hb4 hb5 hb6 B46 B36 B26 hV2 hC3 hMu4 hPh5 HB2 HB3 HB4 HB5 hC hV hMu hPh hO z1 z2 z3 z4 z5 hnil
  have C1 := clone1 av2 nv cv2 vec w6 hV6 hV6.nil hv
  go_wp2_with fail
  refine C1.mono ?_
  rintro e w7 ⟨av7, cv7, rfl, hb7, hV7⟩
  clear C1
  go_wp2_with fail
  refine (make26 l r av7 nv cv7 w7).mono ?_
  rintro e w8 ⟨rfl, hb8⟩
  have B78 := hb7.trans (hb8.mono hb7.size)
  have hb9 : Below w8.heap.size w8 (w8.alloc (.cells #[.int .i64 l, .slice av7 nv cv7, .int .i64 r] 45)) := (Below.refl _ _).alloc (Nat.le_refl _) _
  have B69 := B78.trans (hb9.mono B78.size)
  have HR := renum27 l r av7 ac3 am4 ap5 ao6 nv M n np k cv7 cc3 cm4 cp5 co6 A3 L C3 Z mu ph o _ (hC6.below B69) (hMu6.below B69) (hPh6.below B69) (hO6.below B69) hn hM hp hk hls hOK
  go_wp2_with fail
  refine HR.mono ?_
  rintro e w10 ⟨p, rfl, hb10, nf, bc, bm, bp, R, hnf, p0, p1, p2, p3, p4, p5, hGC, hGM, hGP⟩
  clear HR
  have B6A := B69.trans (hb10.mono B69.size)
  have hVA := (hV7.below (hb8.trans (hb9.mono hb8.size))).below hb10
  go_wp2_with fail
  refine (fields28 p l r av7 _ _ _ nv cv7 M M k k k k w10 p0 p1 p2 p3 p4 p5).mono ?_
  rintro e w11 ⟨rfl, hb11⟩
  have hb12 : Below w11.heap.size w11 (w11.alloc (.cells #[.int .i64 l, .slice av7 nv cv7, .int .i64 r] 45)) := (Below.refl _ _).alloc (Nat.le_refl _) _
  go_wp2_with fail
  refine (fields29 l r av7 nv cv7 _).mono ?_
  rintro e w13 ⟨rfl, hb13⟩
  have BA : Below w10.heap.size w10 w13 := hb11.trans ((hb12.trans (hb13.mono hb12.size)).mono hb11.size)
  have B6D := B6A.trans (BA.mono B6A.size)
  have BD := HB6.trans (B6D.mono HB6.size)
  have vC := hC6.below B6D
  have vMu := hMu6.below B6D
  have vPh := hPh6.below B6D
  have vO := hO6.below B6D
  have vV := hV6.below B6D
  have vV' := hVA.below BA
  have vGC := hGC.below BA
  have vGM := hGM.below BA
  have vGP := hGP.below BA
  clear p0 p1 p2 p3 p4 p5 hGC hGM hGP hVA hV7 hC6 hMu6 hPh6 hO6 hV6 hb7 hb8 B78 hb9 B69 hb10 B6A hb11 hb12 hb13 BA B6D HB6
  have HS := same30 av7 av2 nv cv7 cv2 vec w13 vV' vV hv
  go_wp2_with fail
  refine HS.mono ?_
  rintro e wq ⟨rfl, q, rfl⟩
  clear HS vV vV'
  have HF : Hid (∀ i, i < k → ∃ x : Nat, o i = x ∧ x < n ∧ x < np ∧ ∀ m, m < M → x < L m) := fun i hi => by
    obtain ⟨z1, z2, z3, z4⟩ := hOK.rng i hi
    exact ⟨(o i).toNat, by omega, by omega, by omega, fun m hm => by have := z4 m hm; omega⟩
  have HNF : Hid (∀ q : Nat, q < k → nf (o q).toNat = q) := hnf
  clear hnf
  go_wp2_with fail
  go_loopg [25] k (fun g i wi => ∃ i' q : Nat, i' ≤ k ∧ g = k - i' ∧ i = .int .i64 i' ∧ wi = w13.drewN q)
  case atStart => exact ⟨0, q, Nat.zero_le _, rfl, rfl, rfl⟩
  case round =>
    obtain ⟨i', q, hi', rfl, rfl, rfl⟩ := hrel
    by_cases hik : i' < k
    · obtain ⟨x, hx, hxn, hxp, hxL⟩ := HF.out i' hik
      have HX : Hid (o i' = x) := hx
      have ex : (o i').toNat = x := by omega
      obtain ⟨bo, oo, rfl, hco⟩ := vO (by omega)
      obtain ⟨bu, ou, rfl, hcu⟩ := vMu (by omega)
      obtain ⟨bh, oh, rfl, hch⟩ := vPh (by omega)
      obtain ⟨_, _, e1, hc1⟩ := vGM (by omega)
      obtain ⟨_, _, e2, hc2⟩ := vGP (by omega)
      cases e1
      cases e2
      have c0 : w13.cell? ⟨bo, oo + i', none⟩ = some (.int .i64 x) := by rw [hco i' hik]; simp only [ints]; rw [hx]
      have c1 : w13.cell? ⟨bu, ou + x, none⟩ = some (.int .i64 (mu x)) := hcu x hxn
      have c2 : w13.cell? ⟨bh, oh + x, none⟩ = some (.int .i64 (ph x)) := hch x hxp
      have c3 : w13.cell? ⟨bm, i', none⟩ = some (.int .i64 (mu x)) := by have := hc1 i' hik; simp only [ints, Nat.zero_add, ex] at this; exact this
      have c4 : w13.cell? ⟨bp, i', none⟩ = some (.int .i64 (ph x)) := by have := hc2 i' hik; simp only [ints, Nat.zero_add, ex] at this; exact this
      have i0 : (0 : Int) ≤ (i' : Int) := Int.natCast_nonneg _
      have i1 : (i' : Int) < (k : Int) := by omega
      have i2 : (0 : Int) ≤ (x : Int) := Int.natCast_nonneg _
      have i3 : (x : Int) < (n : Int) := by omega
      have i4 : (x : Int) < (np : Int) := by omega
      clear hco hcu hch hc1 hc2 hx ex hxL vO vMu vPh vGM vGP vC vGC
      go_wp2_with fail
      go_quiet (fail)
      go_wp2_with fail
      go_roundg (k - (i' + 1))
      case measure => omega
      case rel => exact ⟨i' + 1, _, by omega, rfl, by go_num, rfl⟩
    · clear vMu vPh vGM vGP
      go_wp2_with fail
      go_loopg [26] M (fun g i wi => ∃ m q : Nat, m ≤ M ∧ g = M - m ∧ i = .int .i64 m ∧ wi = w13.drewN q)
      case atStart => exact ⟨0, q, Nat.zero_le _, rfl, rfl, rfl⟩
      case round =>
        obtain ⟨m, q, hm, rfl, rfl, rfl⟩ := hrel
        by_cases hmM : m < M
        · obtain ⟨bb, ob, rfl, hcc⟩ := vC.top (by omega)
          obtain ⟨_, _, e1, hc1⟩ := vGC.top (by omega)
          cases e1
          have d0 : w13.cell? ⟨bc, m, none⟩ = some (.slice (R m) k k) := by have := hc1 m hmM; rw [Nat.zero_add] at this; exact this
          obtain ⟨Rm, hRm⟩ : ∃ Rm, R m = Rm := ⟨_, rfl⟩
          have hgrow : RowAt w13 Rm k (ints (pull Z o nf m)) := by rw [← hRm]; exact vGC.rows m hmM
          rw [hRm] at d0
          have d1 : w13.cell? ⟨bb, ob + m, none⟩ = some (.slice (A3 m) (L m) (C3 m)) := hcc m hmM
          have hrow := vC.rows m hmM
          have hlm := hls m hmM
          have i0 : (0 : Int) ≤ (m : Int) := Int.natCast_nonneg _
          have i1 : (m : Int) < (M : Int) := by omega
          have HXL : Hid (∀ i, i < k → ∃ x : Nat, o i = x ∧ x < L m) := fun i hi => by obtain ⟨x, e1, _, _, e2⟩ := HF.out i hi; exact ⟨x, e1, e2 m hmM⟩
          have HCL : Hid (∀ i, i < k → 0 ≤ Z m (o i).toNat → ∃ g, g < k ∧ o g = Z m (o i).toNat) := fun i hi h0 => hOK.clos i hi m hmM h0
          clear hcc hc1 hRm
          go_wp2_with fail
          go_loopg [28] k (fun g i wi => ∃ i' q : Nat, i' ≤ k ∧ g = k - i' ∧ i = .int .i64 i' ∧ wi = w13.drewN q)
          case atStart => exact ⟨0, q, Nat.zero_le _, rfl, rfl, rfl⟩
          case round =>
            obtain ⟨i2, q, hi2, rfl, rfl, rfl⟩ := hrel
            by_cases hik2 : i2 < k
            · obtain ⟨x, hx, hxL⟩ := HXL.out i2 hik2
              have ex : (o i2).toNat = x := by omega
              have hclos := HCL.out i2 hik2
              rw [ex] at hclos
              obtain ⟨bo, oo, rfl, hco⟩ := vO (by omega)
              have HCO : Hid (∀ i, i < k → w13.cell? ⟨bo, oo + i, none⟩ = some (.int .i64 (o i))) := hco
              obtain ⟨br, or', eA, hcr⟩ := hrow (by omega)
              rw [eA] at d1
              obtain ⟨bg, og, rfl, hcg⟩ := hgrow (by omega)
              have c0 : w13.cell? ⟨bo, oo + i2, none⟩ = some (.int .i64 x) := by rw [hco i2 hik2]; simp only [ints]; rw [hx]
              have c1 : w13.cell? ⟨br, or' + x, none⟩ = some (.int .i64 (Z m x)) := hcr x hxL
              have c2 : w13.cell? ⟨bg, og + i2, none⟩ = some (.int .i64 (if Z m x < 0 then -1 else nf (Z m x).toNat)) := by have := hcg i2 hik2; simp only [ints, pull, ex] at this; exact this
              have j0 : (0 : Int) ≤ (i2 : Int) := Int.natCast_nonneg _
              have j1 : (i2 : Int) < (k : Int) := by omega
              have j2 : (0 : Int) ≤ (x : Int) := Int.natCast_nonneg _
              have j3 : (x : Int) < (L m : Int) := by omega
              clear hco hcr hcg hx ex eA hrow vO vC vGC
              by_cases t1 : Z m x < 0
              · rw [if_pos t1] at c2
                go_wp2_with fail
                go_quiet (fail)
                go_wp2_with fail
                go_roundg (k - (i2 + 1))
                case measure => omega
                case rel => exact ⟨i2 + 1, _, by omega, rfl, by go_num, rfl⟩
              · rw [if_neg t1] at c2
                obtain ⟨g, hg, eg⟩ := hclos (by omega)
                have en : nf (Z m x).toNat = g := by rw [← eg]; exact HNF.out g hg
                rw [en] at c2
                have c3 : w13.cell? ⟨bo, oo + g, none⟩ = some (.int .i64 (Z m x)) := by rw [HCO.out g hg, eg]
                have k0 : (0 : Int) ≤ (g : Int) := Int.natCast_nonneg _
                have k1 : (g : Int) < (k : Int) := by omega
                clear en eg hclos
                go_wp2_with fail
                go_quiet (fail)
                go_wp2_with fail
                go_roundg (k - (i2 + 1))
                case measure => omega
                case rel => exact ⟨i2 + 1, _, by omega, rfl, by go_num, rfl⟩
            · go_wp2_with fail
              go_roundg (M - (m + 1))
              case measure => omega
              case rel => exact ⟨m + 1, _, by omega, rfl, by go_num, rfl⟩
        · go_wp2_with fail
          go_ret
          exact ⟨rfl, below_drewN' BD _⟩
end Go.Proofs.Qxb6601170a
