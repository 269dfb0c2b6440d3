/-
  SEAT b6601170a: FnJoinInsertsAfterFirstPresentPlace (3): the walk.
-/
import Derived.Test.Qxb6601170aOwn
import Derived.Deep.RegionHeld3
namespace Go.Proofs.Qxb6601170a
open Go.RowKit Go.Deep
set_option linter.unusedVariables false
attribute [local go_sem ↓] Go.wp_at_zero Go.wp_at_succ

theorem rowAt_nil {w : World} {a : Option Addr} {n : Nat} {f : Nat → Value} (h : RowAt w a n f) : a = none → n = 0 := fun e => by
  rcases Nat.eq_zero_or_pos n with h0 | h0
  · exact h0
  · obtain ⟨b, off, e2, _⟩ := h h0; rw [e] at e2; cases e2

theorem Rows2.get {w : World} {a : Option Addr} {M : Nat} {A : Nat → Option Addr} {L C : Nat → Nat} {Z : Nat → Nat → Int} (h : Rows2 w a M A L C Z) {m : Nat} (hm : m < M) (hL : 0 < L m) :
    ∃ b off br or', a = some ⟨b, off, none⟩ ∧ w.cell? ⟨b, off + m, none⟩ = some (.slice (some ⟨br, or', none⟩) (L m) (C m)) ∧ ∀ i, i < L m → w.cell? ⟨br, or' + i, none⟩ = some (.int .i64 (Z m i)) := by
  obtain ⟨b, off, e, hc⟩ := h.top (by omega)
  obtain ⟨br, or', eA, hr⟩ := h.rows m hm hL
  exact ⟨b, off, br, or', e, by rw [hc m hm]; simp only [slices]; rw [eA], hr⟩

/-- One layer before (f, g) and behind (F, G) the join after p, p the orbit's number j0. -/
structure Lay (n K : Nat) (f g F G : Nat → Int) (lf : Nat → Bool) (p j0 : Nat) : Prop where
  same : ∀ u, u < n → lf u = true → F u = f u ∧ G u = g u
  jK : j0 < K
  at_ : orb f j0 = p
  ne : ∀ j, j < K → j ≠ j0 → orb f j ≠ p
  low : ∀ i, i ≤ j0 → orb F i = orb f i
  mid : orb F (j0 + 1) = n
  high : ∀ j, j0 < j → j < K → orb F (j + 1) = orb f j
  lt : ∀ i, orb F i < n + 1
  nxt : ∀ i, F (orb F i) = (orb F (i + 1) : Nat)
  prv : ∀ i, G (orb F (i + 1)) = (orb F i : Nat)
  back : orb F (K + 1) = 0

theorem lay_of {n K a : Nat} {f g : Nat → Int} {lf : Nat → Bool} (h : Ring n f g lf K) (hn : 0 < n) (h0 : lf 0 = false) (hK : K = count lf n) (ha : a < n) (hl : lf a = false) : ∃ j0, Lay n K f g (insF n a f) (insG n a f g) lf a j0 := by
  obtain ⟨j0, hj, ej⟩ := h.cover hn h0 hK ha hl
  obtain ⟨o1, o2, o3⟩ := orb_ins h hn h0 ha hj ej
  have hR := h.ins hn h0 hK ha hl
  have h0' : insL n lf 0 = false := by unfold insL; rw [upd_other _ _ (by omega)]; exact h0
  refine ⟨j0, fun u hu hlu => ?_, hj, ej, fun j hjK hne e => hne (h.inj hn h0 hjK hj (e.trans ej.symm)), o1, o3, fun j h1 h2 => ?_, fun i => (hR.in_ (by omega) h0' i).1, fun i => ?_, fun i => hR.prev (by omega) h0' i, hR.back⟩
  · have e1 : u ≠ a := fun e => by rw [e, hl] at hlu; cases hlu
    have e2 : u ≠ (f a).toNat := fun e => by rw [e, (h.inv a ha hl).1] at hlu; cases hlu
    exact ⟨insF_other (by omega) e1, insG_other (by omega) e2⟩
  · have := o2 (j - (j0 + 1)) (by omega)
    rw [show j0 + 2 + (j - (j0 + 1)) = j + 1 by omega, show j0 + 1 + (j - (j0 + 1)) = j by omega] at this
    exact this
  · have := hR.rf _ (hR.in_ (by omega) h0' i).1
    simp only [orb]; omega

/-- The old order and the new ring, kk of its cells laid. -/
structure RF (W wi : World) (K kk : Nat) (f F : Nat → Int) : Prop where
  below : Below W.heap.size W wi
  size : wi.heap.size = W.heap.size + 2
  old : wi.rowIs W.heap.size 3 K (ints fun j => (orb f j : Nat))
  ring : wi.rowIs (W.heap.size + 1) 3 (K + 1) (fill (ints fun j => (orb F j : Nat)) (.int .i64 0) kk)

theorem rf_start {W w' : World} {K : Nat} {f F : Nat → Int} (hb : Below W.heap.size W w') (hs : w'.heap.size = W.heap.size + 1) (hr : w'.rowIs W.heap.size 3 K (ints fun j => (orb f j : Nat))) :
    RF W (w'.alloc (.cells (madeCells #[.int .i64 0] (K + 1)) 3)) K 0 f F := by
  have h := World.rowIs_made w' (.int .i64 0) (K + 1) 3
  rw [hs] at h
  exact ⟨hb.alloc (by omega) _, by simp [hs], hr.alloc _, h.congr (fun i _ => fill_zero _ _ _)⟩

theorem RF.drewN {W wi : World} {K kk : Nat} {f F : Nat → Int} (h : RF W wi K kk f F) (q : Nat) : RF W (wi.drewN q) K kk f F := ⟨below_drewN' h.below q, h.size, h.old.of_block rfl, h.ring.of_block rfl⟩

theorem RF.step {W wi : World} {K kk : Nat} {f F : Nat → Int} (h : RF W wi K kk f F) (v : Value) (hv : v = .int .i64 (orb F kk : Nat)) : RF W (wi.setCell ⟨W.heap.size + 1, kk, none⟩ v) K (kk + 1) f F := by
  subst hv
  exact ⟨h.below.setCell (by show W.heap.size ≤ W.heap.size + 1; omega) _, by simp [h.size], h.old.setOther (by show W.heap.size ≠ W.heap.size + 1; omega) _, (h.ring.set kk _).congr (fun i _ => fill_succ (ints fun j => (orb F j : Nat)) _ kk i)⟩

/-- What the law's first half has found: the layers are rings, every place is the first present one on its road. -/
structure Fine (M n la K : Nat) (lf : Nat → Bool) (Zc Zp : Nat → Nat → Int) (za : Nat → Int) (kf : Nat → Nat) : Prop where
  pos : 0 < n
  pres : lf 0 = false
  cnt : K = count lf n
  ring : ∀ m, m < M → Ring n (Zc m) (Zp m) lf K
  la : M ≤ la
  rng : ∀ m, m < M → 0 ≤ za m ∧ za m < n
  kn : ∀ m, m < M → kf m ≤ n
  at_ : ∀ m, m < M → lf (chain (Zp m) (za m).toNat (kf m)) = false
  road : ∀ m, m < M → ∀ i, i < kf m → lf (chain (Zp m) (za m).toNat i) = true

set_option maxRecDepth 100000 in
set_option maxHeartbeats 2000000 in
theorem walk3 (ac ap al aa : Option Addr) (M Mp n la cc cp cl ca : Nat) (Ac Ap : Nat → Option Addr) (Lc Lp Cc Cp : Nat → Nat) (Zc Zp : Nat → Nat → Int) (lf : Nat → Bool) (za : Nat → Int) (w : World)
    (hC : Rows2 w ac M Ac Lc Cc Zc) (hP : Rows2 w ap Mp Ap Lp Cp Zp) (hL : RowAt w al n (bools lf)) (hA : RowAt w aa la (ints za))
    (z1 : ac = none → M = 0) (z2 : ap = none → Mp = 0) (z3 : al = none → n = 0) (z4 : aa = none → la = 0)
    (hM : M ≤ maxLen) (hMp : Mp ≤ maxLen) (hn : n ≤ maxLen) (hla : la ≤ maxLen) (hlc : ∀ r, r < M → Lc r ≤ maxLen) (hlp : ∀ r, r < Mp → Lp r ≤ maxLen) (hnc : ∀ r, r < M → Ac r = none → Lc r = 0) (hnp : ∀ r, r < Mp → Ap r = none → Lp r = 0) :
    Calls Try.prog 3 #[.slice ac M cc, .slice ap Mp cp, .slice al n cl, .slice aa la ca] w fun e w' => e = .returned (.bool true) ∧ Below w.heap.size w w' := by
  have HZ := zzb9 ac ap al aa M Mp n la cc cp cl ca Ac Ap Lc Cc Lp Cp w hC.top hP.top hM hMp hn hla hlc hlp
  go_enter Try.func3, Try.ntmps3
  go_wp2_with fail
  refine HZ.mono ?_
  rintro e w ⟨b, rfl, rfl, hb⟩
  clear HZ hM hMp hn hla hlc hlp
  cases b with
  | false =>
    go_wp2
    go_ret
    exact ⟨rfl, Below.refl _ _⟩
  | true =>
  obtain ⟨hM, hMp, hn, hla, hlc, hlp⟩ := hb rfl
  clear hb
  have HZ := nested10 ac M cc Ac Lc Cc w hC.top hM hlc
  have HZ2 := nested10 ap Mp cp Ap Lp Cp w hP.top hMp hlp
  go_wp2_with fail
  refine HZ.mono ?_
  rintro e w ⟨t1, rfl, rfl, ht0, ht1⟩
  clear HZ
  go_wp2_with fail
  refine HZ2.mono ?_
  rintro e w ⟨t2, rfl, rfl, hu0, hu1⟩
  clear HZ2
  by_cases hs : 1048576 < t1 + t2 + (n : Int) + 8 * (la : Int)
  · go_wp2_with fail
    go_ret
    exact ⟨rfl, Below.refl _ _⟩
  have HV := valid11 ac ap al n M Mp cc cp cl Ac Ap Lc Lp Cc Cp Zc Zp lf w hC hP hL (by omega) (by omega) (by omega) (fun m hm => by have := hlc m hm; omega) (fun m hm => by have := hlp m hm; omega)
  go_wp2_with fail
  refine HV.mono ?_
  rintro e w ⟨b, rfl, rfl, hb⟩
  clear HV
  cases b with
  | false =>
    go_wp2_with fail
    go_ret
    exact ⟨rfl, Below.refl _ _⟩
  | true =>
  obtain ⟨hn0, hl0, hMM, hV⟩ := hb.1 rfl
  clear hb
  subst hMM
  have HA := after12 ap al aa Mp n la cp cl ca Ap Lp Cp Zp lf za w hP hL hA hM hn hla (fun m hm => (hV m hm).2.1) (fun m hm => (hV m hm).2.2.rg)
  go_wp2_with fail
  refine HA.mono ?_
  rintro e w ⟨b, rfl, rfl, hb⟩
  clear HA
  cases b with
  | false =>
    go_wp2_with fail
    go_ret
    exact ⟨rfl, Below.refl _ _⟩
  | true =>
  obtain ⟨hal, hch⟩ := hb rfl
  clear hb
  have each : ∀ m, m < Mp → ∃ k : Nat, k ≤ n ∧ lf (chain (Zp m) (za m).toNat k) = false ∧ ∀ i, i < k → lf (chain (Zp m) (za m).toNat i) = true := fun m hm => (hch m hm).2.2
  obtain ⟨kf, hkf⟩ := choose_lt each
  obtain ⟨K, HK⟩ : ∃ K : Nat, Hid (K = count lf n) := ⟨_, rfl⟩
  have HF : Hid (Fine Mp n la K lf Zc Zp za kf) := ⟨hn0, hl0, HK.out, fun m hm => by rw [HK.out]; exact (hV m hm).2.2, hal, fun m hm => ⟨(hch m hm).1, (hch m hm).2.1⟩, fun m hm => (hkf m hm).1, fun m hm => (hkf m hm).2.1, fun m hm => (hkf m hm).2.2⟩
  have hKn : K ≤ n := by rw [HK.out]; exact count_le _ _
  have HLC : Hid (∀ m, m < Mp → Lc m = n) := fun m hm => (hV m hm).1
  have HLP : Hid (∀ m, m < Mp → Lp m = n) := fun m hm => (hV m hm).2.1
  clear each hkf hch hV
  -- the clones
  have C1 := clone2 ac Mp cc Ac Lc Cc Zc w hC z1 hM hlc hnc
  go_wp2_with fail
  refine C1.mono ?_
  rintro e w1 ⟨ac1, cc1, Ac1, Cc1, rfl, hb1, hC1⟩
  clear C1
  have C1 := clone2 ap Mp cp Ap Lp Cp Zp w1 (hP.below hb1) z2 hMp hlp hnp
  go_wp2_with fail
  refine C1.mono ?_
  rintro e w2 ⟨ap2, cp2, Ap2, Cp2, rfl, hb2, hP2⟩
  clear C1
  have HB2 := hb1.trans (hb2.mono hb1.size)
  obtain ⟨xl, ol, rfl, hcl⟩ := hL hn0
  have C1 := cloneBools_some ⟨xl, ol, none⟩ n cl lf w2 (hL.below HB2) hn
  go_wp2_with fail
  refine C1.mono ?_
  rintro e w3 ⟨rfl, hb3, hs3, hr3⟩
  clear C1 hcl
  have HB3 := HB2.trans (hb3.mono HB2.size)
  have C1 := clone1 aa la ca za w3 (hA.below HB3) z4 hla
  go_wp2_with fail
  refine C1.mono ?_
  rintro e w4 ⟨aa4, ca4, rfl, hb4, hA4⟩
  clear C1
  have HB4 := HB3.trans (hb4.mono HB3.size)
  have B24 := hb3.trans (hb4.mono hb3.size)
  have B14 := hb2.trans (B24.mono hb2.size)
  have vC := hC1.below B14
  have vP := hP2.below B24
  have vL := (RowAt.of_rowIs hr3 (Nat.le_refl n)).below hb4
  clear hb1 hb2 hb3 hb4 HB2 HB3 B24 B14 hC1 hP2 hr3 hs3 hC hP hL hA z1 z2 z3 z4 hnc hnp
  have HCN := count16 _ n n lf w4 vL (by omega)
  rw [← HK.out] at HCN
  have hmk := run_make_row' (P := Try.prog) 24 3 (.int .i64 0) 8 Try.underlying24 Try.info3 rfl .i64 .i64 Mp (by omega) (by omega)
  go_wp2_with (go_at_call 16; refine HCN.mono ?_; rintro e w4 ⟨rfl, rfl⟩)
  clear hmk HCN
  go_loopg [13] Mp (fun g i wr => ∃ m : Nat, m ≤ Mp ∧ g = Mp - m ∧ i = .int .i64 m ∧ Below w4.heap.size w4 wr ∧ wr.heap.size = w4.heap.size + 1 ∧ wr.rowIs w4.heap.size 3 Mp (fill (ints fun m => (chain (Zp m) (za m).toNat (kf m) : Nat)) (.int .i64 0) m))
  case atStart => exact ⟨0, Nat.zero_le _, rfl, rfl, (Below.refl _ _).alloc (Nat.le_refl _) _, by simp, (World.rowIs_made w4 _ Mp 3).congr (fun i hi => fill_zero _ _ _)⟩
  case round =>
    obtain ⟨m, hm, rfl, rfl, hBm, hsz, hrw⟩ := hrel
    by_cases hmM : m < Mp
    · have hLm := HLP.out m hmM
      obtain ⟨bp, op, rfl, hcp⟩ := vP.top (by omega)
      obtain ⟨ba, oa, rfl, hca⟩ := hA4 (by have := HF.out.la; omega)
      have hcp' : w4.cell? ⟨bp, op + m, none⟩ = some (.slice (Ap2 m) n (Cp2 m)) := by rw [hcp m hmM]; simp only [slices]; rw [hLm]
      have hrg := HF.out.rng m hmM
      obtain ⟨x, HX⟩ : ∃ x : Nat, Hid (za m = x) := ⟨(za m).toNat, by show _ = _; omega⟩
      have HXT : Hid ((za m).toNat = x) := by have := HX.out; show _ = _; omega
      have hca' : w4.cell? ⟨ba, oa + m, none⟩ = some (.int .i64 x) := by rw [hca m (by have := HF.out.la; omega)]; simp only [ints]; rw [HX.out]
      have lbp : bp < w4.heap.size := World.block_lt_of_cell? _ _ hcp'
      have lba : ba < w4.heap.size := World.block_lt_of_cell? _ _ hca'
      have c0 : wr.cell? ⟨bp, op + m, none⟩ = some (.slice (Ap2 m) n (Cp2 m)) := by rw [hBm.cell (by exact lbp)]; exact hcp'
      have c1 : wr.cell? ⟨ba, oa + m, none⟩ = some (.int .i64 x) := by rw [hBm.cell (by exact lba)]; exact hca'
      obtain ⟨v, c2⟩ : ∃ v, wr.cell? ⟨w4.heap.size, m, none⟩ = some v := ⟨_, hrw.cell hmM⟩
      have c3 := hrw.frozen m
      have hrp : RowAt wr (Ap2 m) n (ints (Zp m)) := by have := (vP.rows m hmM).below hBm; rw [hLm] at this; exact this
      have hrl := vL.below hBm
      have hxn : x < n := by have := HX.out; omega
      have HC17 := first17 (Ap2 m) (some ⟨w2.heap.size, 0, none⟩) n (Cp2 m) n x (kf m) (Zp m) lf wr.drew hrp hrl hn hxn (HF.out.ring m hmM).rg (HF.out.kn m hmM) (by rw [← HXT.out]; exact HF.out.at_ m hmM) (by rw [← HXT.out]; exact HF.out.road m hmM)
      obtain ⟨y, HY⟩ : ∃ y : Nat, Hid (chain (Zp m) x (kf m) = y) := ⟨_, rfl⟩
      rw [HY.out] at HC17
      have n1 : w4.heap.size ≠ bp := by omega
      have n2 : w4.heap.size ≠ ba := by omega
      have n3 : bp ≠ w4.heap.size := by omega
      have n4 : ba ≠ w4.heap.size := by omega
      have i0 : (0 : Int) ≤ (m : Int) := Int.natCast_nonneg _
      have i1 : (m : Int) < (Mp : Int) := by omega
      have i2 : (m : Int) < (la : Int) := by have := HF.out.la; omega
      clear hcp hca hcp' hca' hrp hrl hrg hLm
      go_wp2_with fail
      go_region_held3 (fun w' => w'.cell? ⟨bp, op + m, none⟩ = some (.slice (Ap2 m) n (Cp2 m)) ∧ w'.cell? ⟨ba, oa + m, none⟩ = some (.int .i64 x)) (go_keep)
        (first | (go_at_call 17; refine HC17.mono ?_; rintro e w' ⟨rfl, rfl⟩))
      go_wp2_with fail
      go_roundg (Mp - (m + 1))
      case measure => omega
      case rel => exact ⟨m + 1, by omega, rfl, by go_num, (hBm.setCell (Nat.le_refl _) _).drew, by simp [hsz], ((hrw.set m _).congr (fun i hi => by rw [← fill_succ]; simp only [ints, HXT.out, HY.out])).drew⟩
    · have hme : m = Mp := by omega
      have hPl : RowAt wr (some ⟨w4.heap.size, 0, none⟩) Mp (ints fun m => (chain (Zp m) (za m).toNat (kf m) : Nat)) := RowAt.of_rowIs (hrw.congr (fun i hi => fill_full _ _ (by omega))) (Nat.le_refl _)
      obtain ⟨pl, HPL⟩ : ∃ pl : Nat → Nat, Hid (∀ m, pl m = chain (Zp m) (za m).toNat (kf m)) := ⟨_, fun m => rfl⟩
      have hPl' : RowAt wr (some ⟨w4.heap.size, 0, none⟩) Mp (ints fun m => (pl m : Nat)) := hPl.congr (fun i _ => by simp only [ints, HPL.out])
      have vC5 := vC.below hBm
      have vP5 := vP.below hBm
      have vL5 := vL.below hBm
      have vA5 := hA4.below hBm
      have HB5 := HB4.trans (hBm.mono HB4.size)
      clear hPl hrw hsz hBm vC vP vL hA4 hme HB4
      have C1 := clone2own ac1 Mp n cc1 Ac1 Lc Cc1 Zc wr vC5 (rowAt_nil vC5.top) hM HLC.out hn0 hn
      go_wp2_with fail
      refine C1.mono ?_
      rintro e w6 ⟨ac6, cc6, rfl, hb6, hO6⟩
      clear C1
      have C1 := clone2own ap2 Mp n cp2 Ap2 Lp Cp2 Zp w6 (vP5.below hb6) (rowAt_nil vP5.top) hM HLP.out hn0 hn
      go_wp2_with fail
      refine C1.mono ?_
      rintro e w7 ⟨ap7, cp7, rfl, hb7, hO7⟩
      clear C1
      have HB7 := hb6.trans (hb7.mono hb6.size)
      have C1 := cloneBools_some ⟨w2.heap.size, 0, none⟩ n n lf w7 (vL5.below HB7) hn
      go_wp2_with fail
      refine C1.mono ?_
      rintro e w8 ⟨rfl, hb8, hs8, hr8⟩
      clear C1
      have HB8 := HB7.trans (hb8.mono HB7.size)
      obtain ⟨G, hG0, hCy⟩ := own_cyc (cc := cc6) (cp := cp7) hn hb6 hb7 hb8 hs8 hO6 hO7 hr8
      clear hs8 hr8 hO6 hO7
      have HB9 := HB8.alloc HB8.size (.cells #[.slice ac6 Mp cc6, .slice ap7 Mp cp7, .slice (some ⟨w7.heap.size, 0, none⟩) n n] 63)
      go_wp2_with (go_at_call 18; refine (new18 (.bool false) (.bool false) (.bool false) _ _ _ _ _ _ _ _ _ _).mono ?_; rintro e w' ⟨rfl, rfl⟩)
      have HJ := join19 aa4 la ca4 za pl hCy (fun _ _ => rfl) HB9.size (by omega) (by omega) HF.out.la (by omega)
        (fun h0 => by
          obtain ⟨b2, o2, e2, hc2⟩ := vA5 (by have := HF.out.la; omega)
          have hb2 : b2 < wr.heap.size := World.block_lt_of_cell? _ _ (hc2 0 (by have := HF.out.la; omega))
          exact ⟨b2, o2, e2, hb2, fun i hi => by rw [HB9.cell (by exact hb2)]; exact hc2 i (by have := HF.out.la; omega)⟩)
        (fun m hm => ⟨(HF.out.rng m hm).1, by
          rw [mix_odd]
          have hx : (za m).toNat < n := by have := HF.out.rng m hm; omega
          refine ⟨kf m, (HPL.out m).symm, ?_, ?_, fun i hi => ⟨chain_lt (HF.out.ring m hm).rg hx i, HF.out.road m hm i hi, ((HF.out.ring m hm).rg _ (chain_lt (HF.out.ring m hm).rg hx i)).1⟩⟩
          · rw [HPL.out]; exact chain_lt (HF.out.ring m hm).rg hx _
          · rw [HPL.out]; exact HF.out.at_ m hm⟩)
        (fun m hm => by
          rw [mix_even]
          have hx : (za m).toNat < n := by have := HF.out.rng m hm; omega
          exact (HF.out.ring m hm).rf _ (by rw [HPL.out]; exact chain_lt (HF.out.ring m hm).rg hx _))
      rw [hG0] at HJ
      go_wp2_with fail
      refine HJ.mono ?_
      rintro e w10 ⟨rfl, hB10, cl2, G2, C2, N2, Z2, hG2, hCy2, hN2, hZ2⟩
      clear HJ
      have HBA := HB9.trans hB10
      have HF20 := fields20 hCy2
      rw [hG2] at HF20
      go_wp2_with fail
      refine HF20.mono ?_
      rintro e w11 ⟨rfl, q, rfl⟩
      clear HF20
      have HPLn : Hid (∀ m, m < Mp → pl m < n ∧ lf (pl m) = false) := fun m hm => by
        have hx : (za m).toNat < n := by have := HF.out.rng m hm; omega
        rw [HPL.out]
        exact ⟨chain_lt (HF.out.ring m hm).rg hx _, HF.out.at_ m hm⟩
      have HLAY : Hid (∀ m, m < Mp → ∃ j0, Lay n K (Zc m) (Zp m) (insF n (pl m) (Zc m)) (insG n (pl m) (Zc m) (Zp m)) lf (pl m) j0) := fun m hm => lay_of (HF.out.ring m hm) hn0 hl0 HF.out.cnt (HPLn.out m hm).1 (HPLn.out m hm).2
      have GC : Rows2 w10 ac6 Mp (fun m => some ⟨G2 (4 + 2 * m), 0, none⟩) (fun _ => n + 1) (fun m => C2 (2 * m)) (fun m => insF n (pl m) (Zc m)) :=
        ⟨hCy2.rowsC.top.congr (fun i hi => by simp only [slices]; rw [hN2 _ (by omega)]), fun m hm => by have := hCy2.rowsC.rows m hm; simp only [hN2 _ (show 2 * m < 2 * Mp by omega), (hZ2 m hm).1, mix_even] at this; exact this⟩
      have GP : Rows2 w10 ap7 Mp (fun m => some ⟨G2 (4 + (2 * m + 1)), 0, none⟩) (fun _ => n + 1) (fun m => C2 (2 * m + 1)) (fun m => insG n (pl m) (Zc m) (Zp m)) :=
        ⟨hCy2.rowsP.top.congr (fun i hi => by simp only [slices]; rw [hN2 _ (by omega)]), fun m hm => by have := hCy2.rowsP.rows m hm; simp only [hN2 _ (show 2 * m + 1 < 2 * Mp by omega), (hZ2 m hm).2, mix_even, mix_odd] at this; exact this⟩
      have HGL : Hid (∀ u, u < n + 1 → w10.cell? ⟨G2 3, u, none⟩ = some (.bool (insL n lf u))) := fun u hu => hCy2.mark hu
      have VC := vC5.below HBA
      have VP := vP5.below HBA
      have VL := vL5.below HBA
      have VPl := hPl'.below HBA
      have HBW := HB5.trans (HBA.mono HB5.size)
      clear hCy2 hN2 hZ2 hG2 hB10 hG0 hCy HB9 HB8 HB7 hb6 hb7 hb8 vC5 vP5 vL5 vA5 hPl' HBA HB5
      have m0 : w10.cell? ⟨G2 3, n, none⟩ = some (.bool false) := by rw [HGL.out n (by omega)]; unfold insL; rw [upd_same]
      go_wp2_with fail
      go_loopg [19] n (fun g i wi => ∃ u q : Nat, u ≤ n ∧ g = n - u ∧ i = .int .i64 u ∧ wi = w10.drewN q)
      case atStart => exact ⟨0, q, Nat.zero_le _, rfl, rfl, rfl⟩
      case round =>
        obtain ⟨u, q, hu, rfl, rfl, rfl⟩ := hrel
        by_cases hun : u < n
        · have c0 : w10.cell? ⟨G2 3, u, none⟩ = some (.bool (lf u)) := by rw [HGL.out u (by omega)]; unfold insL; rw [upd_other _ _ (by omega)]
          obtain ⟨_, _, e1, hc1⟩ := VL (by omega)
          cases e1
          have c1 : w10.cell? ⟨w2.heap.size, u, none⟩ = some (.bool (lf u)) := by have := hc1 u hun; rw [Nat.zero_add] at this; exact this
          have i0 : (0 : Int) ≤ (u : Int) := Int.natCast_nonneg _
          have i1 : (u : Int) < (n : Int) := by omega
          have i2 : (u : Int) < ((n + 1 : Nat) : Int) := by omega
          clear hc1
          go_wp2_with fail
          go_quiet (fail)
          go_wp2_with fail
          go_roundg (n - (u + 1))
          case measure => omega
          case rel => exact ⟨u + 1, _, by omega, rfl, by go_num, rfl⟩
        · clear m0 HGL
          go_wp2_with fail
          go_loopg [20] Mp (fun g i wi => ∃ m2 : Nat, m2 ≤ Mp ∧ g = Mp - m2 ∧ i = .int .i64 m2 ∧ Below w10.heap.size w10 wi)
          case atStart => exact ⟨0, Nat.zero_le _, rfl, rfl, below_drewN' (Below.refl _ _) _⟩
          case round =>
            obtain ⟨m2, hm2, rfl, rfl, hBw⟩ := hrel
            by_cases hmM2 : m2 < Mp
            · obtain ⟨j0, hLay⟩ := HLAY.out m2 hmM2
              have hLc := HLC.out m2 hmM2
              have hLp := HLP.out m2 hmM2
              obtain ⟨b1, o1, r1, s1, rfl, t1, hc1⟩ := VC.get hmM2 (by omega)
              obtain ⟨b2, o2, r2, s2, rfl, t2, hc2⟩ := VP.get hmM2 (by omega)
              obtain ⟨b6, o6, r6, s6, rfl, t6, hc6⟩ := GC.get hmM2 (by omega)
              obtain ⟨b7, o7, r7, s7, rfl, t7, hc7⟩ := GP.get hmM2 (by omega)
              rw [hLc] at t1 hc1
              rw [hLp] at t2 hc2
              obtain ⟨_, _, e1, hcl⟩ := VL (by omega)
              cases e1
              obtain ⟨_, _, e1, hcq⟩ := VPl (by omega)
              cases e1
              have up : ∀ {a v}, w10.cell? a = some v → wr.cell? a = some v := fun h => by rw [hBw.cell (World.block_lt_of_cell? _ _ h)]; exact h
              have c1 := up t1
              have c2 := up t2
              have c6 := up t6
              have c7 := up t7
              have c8 : wr.cell? ⟨w4.heap.size, m2, none⟩ = some (.int .i64 (pl m2)) := by have := up (hcq m2 hmM2); rw [Nat.zero_add] at this; exact this
              obtain ⟨F, HFE⟩ : ∃ F, Hid (insF n (pl m2) (Zc m2) = F) := ⟨_, rfl⟩
              obtain ⟨Gf, HGE⟩ : ∃ F, Hid (insG n (pl m2) (Zc m2) (Zp m2) = F) := ⟨_, rfl⟩
              rw [HFE.out, HGE.out] at hLay
              have H1 : Hid (∀ i, i < n → wr.cell? ⟨r1, s1 + i, none⟩ = some (.int .i64 (Zc m2 i))) := fun i hi => up (hc1 i hi)
              have H2 : Hid (∀ i, i < n → wr.cell? ⟨r2, s2 + i, none⟩ = some (.int .i64 (Zp m2 i))) := fun i hi => up (hc2 i hi)
              have H6 : Hid (∀ i, i < n + 1 → wr.cell? ⟨r6, s6 + i, none⟩ = some (.int .i64 (F i))) := fun i hi => by rw [← HFE.out]; exact up (hc6 i hi)
              have H7 : Hid (∀ i, i < n + 1 → wr.cell? ⟨r7, s7 + i, none⟩ = some (.int .i64 (Gf i))) := fun i hi => by rw [← HGE.out]; exact up (hc7 i hi)
              have HL : Hid (∀ i, i < n → wr.cell? ⟨w2.heap.size, i, none⟩ = some (.bool (lf i))) := fun i hi => by have := up (hcl i hi); rw [Nat.zero_add] at this; exact this
              have HLay : Hid (Lay n K (Zc m2) (Zp m2) F Gf lf (pl m2) j0) := hLay
              clear t1 t2 t6 t7 hc1 hc2 hc6 hc7 hcl hcq hLc hLp hLay VC VP GC GP VL VPl up
              have i0 : (0 : Int) ≤ (m2 : Int) := Int.natCast_nonneg _
              have i1 : (m2 : Int) < (Mp : Int) := by omega
              obtain ⟨W0, rfl⟩ : ∃ W0, W0 = wr := ⟨_, rfl⟩
              go_wp2_with fail
              go_loopg [21] n (fun g i wi => ∃ u2 q : Nat, u2 ≤ n ∧ g = n - u2 ∧ i = .int .i64 u2 ∧ wi = W0.drewN q)
              case atStart => exact ⟨0, 0, Nat.zero_le _, rfl, rfl, rfl⟩
              case round =>
                obtain ⟨u2, q2, hu2, rfl, rfl, rfl⟩ := hrel
                by_cases hun2 : u2 < n
                · have d0 := HL.out u2 hun2
                  have d1 := H1.out u2 hun2
                  have d2 := H2.out u2 hun2
                  have d6 := H6.out u2 (by omega)
                  have d7 := H7.out u2 (by omega)
                  have j0' : (0 : Int) ≤ (u2 : Int) := Int.natCast_nonneg _
                  have j1 : (u2 : Int) < (n : Int) := by omega
                  have j2 : (u2 : Int) < ((n + 1 : Nat) : Int) := by omega
                  cases hb : lf u2 with
                  | true =>
                    rw [hb] at d0
                    rw [(HLay.out.same u2 hun2 hb).1] at d6
                    rw [(HLay.out.same u2 hun2 hb).2] at d7
                    clear hb
                    go_wp2_with fail
                    go_quiet (fail)
                    go_wp2_with fail
                    go_roundg (n - (u2 + 1))
                    case measure => omega
                    case rel => exact ⟨u2 + 1, _, by omega, rfl, by go_num, rfl⟩
                  | false =>
                    rw [hb] at d0
                    clear hb
                    go_wp2_with fail
                    go_quiet (fail)
                    go_wp2_with fail
                    go_roundg (n - (u2 + 1))
                    case measure => omega
                    case rel => exact ⟨u2 + 1, _, by omega, rfl, by go_num, rfl⟩
                · have HO21 := order21 (some ⟨r1, s1, none⟩) n (Cc1 m2) K (Zc m2) (W0.drewN q2) (fun _ => ⟨r1, s1, rfl, fun i hi => H1.out i hi⟩) hn hn0 (by omega) (HF.out.ring m2 hmM2).rf
                  have hmk := run_make_row' (P := Try.prog) 24 3 (.int .i64 0) 8 Try.underlying24 Try.info3 rfl .i64 .i64 (K + 1) (by omega) (by omega)
                  simp only [Int.natCast_add, Int.natCast_one] at hmk
                  go_wp2_with fail
                  refine HO21.mono ?_
                  rintro e w12 ⟨rfl, hb12, hs12, hr12⟩
                  clear HO21
                  go_wp2_with fail
                  have hRF : RF W0 (w12.alloc (.cells (madeCells #[.int .i64 0] (K + 1)) 3)) K 0 (Zc m2) F := rf_start ⟨hb12.os, hb12.tape, hb12.output, hb12.size, hb12.block⟩ hs12 hr12
                  clear hmk hb12 hs12 hr12
                  go_loopg [24, 25] K (fun g kv jv wi => ∃ j kk : Nat, j ≤ K ∧ g = K - j ∧ kv = .int .i64 kk ∧ jv = .int .i64 j ∧ ((j ≤ j0 ∧ kk = j) ∨ (j0 < j ∧ kk = j + 1)) ∧ RF W0 wi K kk (Zc m2) F)
                  case atStart => exact ⟨0, 0, Nat.zero_le _, rfl, rfl, rfl, .inl ⟨Nat.zero_le _, rfl⟩, hRF⟩
                  case round =>
                    clear hRF
                    obtain ⟨j, kk, hj, rfl, rfl, rfl, hkk, hRF⟩ := hrel
                    have hjK := HLay.out.jK
                    by_cases hlt : j < K
                    · have hkK : kk < K + 1 := by omega
                      obtain ⟨y, HY⟩ : ∃ y : Nat, Hid (orb (Zc m2) j = y) := ⟨_, rfl⟩
                      have d0 : wr.cell? ⟨W0.heap.size, j, none⟩ = some (.int .i64 y) := by rw [← HY.out]; exact hRF.old.cell hlt
                      obtain ⟨v, d1⟩ : ∃ v, wr.cell? ⟨W0.heap.size + 1, kk, none⟩ = some v := ⟨_, hRF.ring.cell hkK⟩
                      have d2 : wr.frozen? ⟨W0.heap.size + 1, kk, none⟩ = false := hRF.ring.frozen kk
                      have hw4 : w4.heap.size < W0.heap.size := World.block_lt_of_cell? _ _ c8
                      have yF : y = orb F kk := by
                        rw [← HY.out]
                        rcases hkk with ⟨h1, h2⟩ | ⟨h1, h2⟩
                        · rw [h2]; exact (HLay.out.low j h1).symm
                        · rw [h2]; exact (HLay.out.high j h1 hlt).symm
                      have hR1 : RF W0 (wr.setCell ⟨W0.heap.size + 1, kk, none⟩ (.int .i64 y)) K (kk + 1) (Zc m2) F := hRF.step _ (by rw [yF])
                      have e0 : (wr.setCell ⟨W0.heap.size + 1, kk, none⟩ (.int .i64 y)).cell? ⟨W0.heap.size, j, none⟩ = some (.int .i64 y) := by rw [← HY.out] at hR1 ⊢; exact hR1.old.cell hlt
                      have e1 : (wr.setCell ⟨W0.heap.size + 1, kk, none⟩ (.int .i64 y)).cell? ⟨w4.heap.size, m2, none⟩ = some (.int .i64 (pl m2)) := by rw [hR1.below.cell (by exact hw4)]; exact c8
                      have i2 : (0 : Int) ≤ (j : Int) := Int.natCast_nonneg _
                      have i3 : (j : Int) < (K : Int) := by omega
                      have i4 : (0 : Int) ≤ (kk : Int) := Int.natCast_nonneg _
                      have i5 : (kk : Int) < ((K + 1 : Nat) : Int) := by omega
                      clear yF
                      by_cases hjj : j = j0
                      · have hyp : y = pl m2 := by rw [← HY.out, hjj]; exact HLay.out.at_
                        have HKK : Hid (kk = j ∧ j = j0) := by
                          refine ⟨?_, hjj⟩
                          rcases hkk with ⟨h1, h2⟩ | ⟨h1, h2⟩
                          · exact h2
                          · omega
                        have hkl : (kk : Int) + 1 ≤ (K : Int) := by have := HKK.out; omega
                        have e2 : ∃ v, (wr.setCell ⟨W0.heap.size + 1, kk, none⟩ (.int .i64 y)).cell? ⟨W0.heap.size + 1, kk + 1, none⟩ = some v := ⟨_, hR1.ring.cell (by omega)⟩
                        obtain ⟨v2, e2⟩ := e2
                        have e3 : (wr.setCell ⟨W0.heap.size + 1, kk, none⟩ (.int .i64 y)).frozen? ⟨W0.heap.size + 1, kk + 1, none⟩ = false := hR1.ring.frozen _
                        subst hyp
                        clear hjj hkk
                        go_wp2_with fail
                        go_quiet (fail)
                        go_wp2_with fail
                        go_roundg (K - (j + 1))
                        case measure => omega
                        case rel =>
                          have ev : Value.int .i64 (n : Int) = .int .i64 (orb F (kk + 1) : Nat) := by rw [HKK.out.1, HKK.out.2, HLay.out.mid]
                          exact ⟨j + 1, kk + 1 + 1, by omega, rfl, by go_num, by go_num, by have := HKK.out; omega, by first | exact (hR1.drewN _).step _ ev | exact (hR1.step _ ev).drewN _⟩
                      · have hne : ((y : Int) == ((pl m2 : Nat) : Int)) = false := by
                          have := HLay.out.ne j hlt hjj
                          rw [HY.out] at this
                          simp; omega
                        have HJJ : Hid (j ≠ j0) := hjj
                        clear hjj
                        go_wp2_with fail
                        go_quiet (fail)
                        go_wp2_with fail
                        go_roundg (K - (j + 1))
                        case measure => omega
                        case rel => exact ⟨j + 1, kk + 1, by omega, rfl, by go_num, by go_num, by have := HJJ.out; omega, hR1.drewN _⟩
                    · obtain rfl : kk = K + 1 := by omega
                      clear hkk
                      go_wp2_with fail
                      go_loopg [27] (K + 1) (fun g jv wi => ∃ j2 : Nat, j2 ≤ K + 1 ∧ g = K + 1 - j2 ∧ jv = .int .i64 j2 ∧ RF W0 wi K (K + 1) (Zc m2) F)
                      case atStart => exact ⟨0, Nat.zero_le _, rfl, rfl, hRF⟩
                      case round =>
                        clear hRF
                        obtain ⟨j2, hj2, rfl, rfl, hRF⟩ := hrel
                        by_cases hlt2 : j2 < K + 1
                        · obtain ⟨y, HY⟩ : ∃ y : Nat, Hid (orb F j2 = y) := ⟨_, rfl⟩
                          have hyn : y < n + 1 := by rw [← HY.out]; exact HLay.out.lt j2
                          have d0 : wr.cell? ⟨W0.heap.size + 1, j2, none⟩ = some (.int .i64 y) := by rw [hRF.ring.cell hlt2, fill_full _ _ hlt2]; simp only [ints, HY.out]
                          obtain ⟨nx, HNX⟩ : ∃ x : Nat, Hid (orb F (j2 + 1) = x) := ⟨_, rfl⟩
                          obtain ⟨x1, hx1, e1, v1⟩ : ∃ x : Nat, x < K + 1 ∧ ((j2 : Int) + 1) % ((K : Int) + 1) = x ∧ orb F x = nx := by
                            by_cases hjK2 : j2 = K
                            · subst hjK2
                              exact ⟨0, by omega, by rw [Int.emod_self]; rfl, by rw [← HNX.out, HLay.out.back]; rfl⟩
                            · exact ⟨j2 + 1, by omega, by rw [Int.emod_eq_of_lt (by omega) (by omega)]; rfl, HNX.out⟩
                          obtain ⟨x2, hx2, e2, v2⟩ : ∃ x : Nat, x < K + 1 ∧ ((j2 : Int) + ((K : Int) + 1) - 1) % ((K : Int) + 1) = x ∧ Gf y = (orb F x : Nat) := by
                            by_cases hj0 : j2 = 0
                            · subst hj0
                              refine ⟨K, by omega, ?_, ?_⟩
                              · rw [show ((0 : Nat) : Int) + ((K : Int) + 1) - 1 = (K : Int) by omega]; exact Int.emod_eq_of_lt (by omega) (by omega)
                              · have := HLay.out.prv K
                                rw [HLay.out.back] at this
                                rw [← HY.out]; exact this
                            · refine ⟨j2 - 1, by omega, ?_, ?_⟩
                              · rw [show (j2 : Int) + ((K : Int) + 1) - 1 = ((j2 - 1 : Nat) : Int) + ((K : Int) + 1) by omega, Int.add_emod_right]; exact Int.emod_eq_of_lt (by omega) (by omega)
                              · have := HLay.out.prv (j2 - 1)
                                rw [show j2 - 1 + 1 = j2 by omega, HY.out] at this
                                exact this
                          obtain ⟨pv, HPV⟩ : ∃ x : Nat, Hid (orb F x2 = x) := ⟨_, rfl⟩
                          have d1 : wr.cell? ⟨W0.heap.size + 1, x1, none⟩ = some (.int .i64 nx) := by rw [hRF.ring.cell hx1, fill_full _ _ hx1]; simp only [ints, v1]
                          have d2 : wr.cell? ⟨W0.heap.size + 1, x2, none⟩ = some (.int .i64 pv) := by rw [hRF.ring.cell hx2, fill_full _ _ hx2]; simp only [ints, HPV.out]
                          have up : ∀ {a v}, W0.cell? a = some v → wr.cell? a = some v := fun h => by rw [hRF.below.cell (World.block_lt_of_cell? _ _ h)]; exact h
                          have k6 := up c6
                          have k7 := up c7
                          have d6 : wr.cell? ⟨r6, s6 + y, none⟩ = some (.int .i64 nx) := by
                            have h1 := up (H6.out y hyn)
                            have h2 := HLay.out.nxt j2
                            rw [HY.out, HNX.out] at h2
                            rw [h2] at h1; exact h1
                          have d7 : wr.cell? ⟨r7, s7 + y, none⟩ = some (.int .i64 pv) := by
                            have h1 := up (H7.out y hyn)
                            rw [v2, HPV.out] at h1; exact h1
                          have i2 : (0 : Int) ≤ (y : Int) := Int.natCast_nonneg _
                          have i3 : (y : Int) < ((n + 1 : Nat) : Int) := by omega
                          have i4 : (0 : Int) ≤ (x1 : Int) := Int.natCast_nonneg _
                          have i5 : (x1 : Int) < (K : Int) + 1 := by omega
                          have i6 : (0 : Int) ≤ (x2 : Int) := Int.natCast_nonneg _
                          have i7 : (x2 : Int) < (K : Int) + 1 := by omega
                          clear v1 v2 up c1 c2 c6 c7 c8
                          go_wp2_with fail
                          go_roundg (K + 1 - (j2 + 1))
                          case measure => omega
                          case rel => exact ⟨j2 + 1, by omega, rfl, by go_num, hRF⟩
                        · go_wp2_with fail
                          go_roundg (Mp - (m2 + 1))
                          case measure => omega
                          case rel => exact ⟨m2 + 1, by omega, rfl, by go_num, hBw.trans (hRF.below.mono hBw.size)⟩
            · go_wp2_with fail
              go_ret
              exact ⟨rfl, HBW.trans (hBw.mono HBW.size)⟩
end Go.Proofs.Qxb6601170a
