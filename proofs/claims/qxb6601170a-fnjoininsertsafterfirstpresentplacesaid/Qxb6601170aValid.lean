/-
  SEAT b6601170a: countPresent (16), cyclesValid (11).
-/
import Derived.Test.Qxb6601170aBase
import Derived.Test.Qxb6601170aPure
namespace Go.Proofs.Qxb6601170a
open Go.RowKit

set_option maxHeartbeats 400000 in
theorem count16 (a : Option Addr) (n c : Nat) (lf : Nat → Bool) (w : World) (h : RowAt w a n (bools lf)) (hn : n ≤ 4194304) :
    Calls Try.prog 16 #[.slice a n c] w fun e w' => e = .returned (.int .i64 (count lf n)) ∧ w' = w := by
  go_enter Try.func16, Try.ntmps16
  go_wp2
  go_loopg [3, 4] n (fun g s i wr => w = wr ∧ ∃ k q : Nat, k ≤ n ∧ q ≤ k ∧ g = n - k ∧ i = .int .i64 k ∧ s = .int .i64 q ∧ Hid (q = count lf k))
  case atStart => exact ⟨rfl, 0, 0, Nat.zero_le _, Nat.zero_le _, rfl, rfl, rfl, rfl⟩
  case round =>
    obtain ⟨rfl, k, q, hk, hq, rfl, rfl, rfl, HQ⟩ := hrel
    by_cases hlt : k < n
    · obtain ⟨b, off, rfl, hc⟩ := h (by omega)
      have hck : w.cell? ⟨b, off + k, none⟩ = some (.bool (lf k)) := hc k hlt
      clear hc h
      cases hb : lf k with
      | true =>
        rw [hb] at hck
        have HB : Hid (lf k = true) := hb
        clear hb
        go_wp2
        go_roundg (n - (k + 1))
        case measure => omega
        case rel => exact ⟨rfl, k + 1, q, by omega, by omega, rfl, by go_num, rfl, by show q = _; simp only [count]; rw [HB.out, ← HQ.out]; simp⟩
      | false =>
        rw [hb] at hck
        have HB : Hid (lf k = false) := hb
        clear hb
        go_wp2
        go_roundg (n - (k + 1))
        case measure => omega
        case rel => exact ⟨rfl, k + 1, q + 1, by omega, by omega, rfl, by go_num, by go_num, by show q + 1 = _; simp only [count]; rw [HB.out, ← HQ.out]; simp⟩
    · go_wp2
      go_ret
      have : k = n := by omega
      subst this
      exact ⟨by rw [← HQ.out]; rfl, rfl⟩

/-- What cyclesValid asks. -/
def Valid (n M Mp : Nat) (Lc Lp : Nat → Nat) (Zc Zp : Nat → Nat → Int) (lf : Nat → Bool) : Prop :=
  0 < n ∧ lf 0 = false ∧ Mp = M ∧ ∀ m, m < M → Lc m = n ∧ Lp m = n ∧ Ring n (Zc m) (Zp m) lf (count lf n)

set_option maxRecDepth 100000 in
set_option maxHeartbeats 1000000 in
theorem valid11 (ac ap al : Option Addr) (n M Mp cc cp cl : Nat) (Ac Ap : Nat → Option Addr) (Lc Lp Cc Cp : Nat → Nat) (Zc Zp : Nat → Nat → Int) (lf : Nat → Bool) (w : World)
    (hC : Rows2 w ac M Ac Lc Cc Zc) (hP : Rows2 w ap Mp Ap Lp Cp Zp) (hl : RowAt w al n (bools lf)) (hn : n ≤ 4194304) (hM : M ≤ 4194304) (hMp : Mp ≤ 4194304)
    (hLc : ∀ m, m < M → Lc m ≤ 4194304) (hLp : ∀ m, m < Mp → Lp m ≤ 4194304) :
    Calls Try.prog 11 #[.slice ac M cc, .slice ap Mp cp, .slice al n cl] w (Tells w (Valid n M Mp Lc Lp Zc Zp lf)) := by
  by_cases h0 : n < 1
  · go_enter Try.func11, Try.ntmps11
    go_wp2
    go_ret
    exact Tells.no _ (fun h => by have := h.1; omega)
  have hcount := count16 al n cl lf w hl hn
  obtain ⟨bl, ol, rfl, hlc⟩ := hl (by omega)
  have hl0 : w.cell? ⟨bl, ol, none⟩ = some (.bool (lf 0)) := hlc 0 (by omega)
  have hd1 : decide ((n : Int) < 1) = false := decide_eq_false (by omega)
  clear hl
  cases hb : lf 0 with
  | true =>
    rw [hb] at hl0
    have HB : Hid (lf 0 = true) := hb
    clear hb hcount hlc
    go_enter Try.func11, Try.ntmps11
    go_wp2
    go_ret
    exact Tells.no _ (fun h => by have := h.2.1; rw [HB.out] at this; cases this)
  | false =>
  rw [hb] at hl0
  have HB : Hid (lf 0 = false) := hb
  clear hb
  by_cases hMM : Mp = M
  · subst hMM
    obtain ⟨K, HK⟩ : ∃ K : Nat, Hid (K = count lf n) := ⟨_, rfl⟩
    have hKn : K ≤ n := by rw [HK.out]; exact count_le _ _
    have hK1 : 1 ≤ K := by rw [HK.out]; exact count_pos (v := 0) (by omega) HB.out
    rw [← HK.out] at hcount
    go_enter Try.func11, Try.ntmps11
    go_wp2_with (go_at_call 16; refine hcount.mono ?_; rintro e w ⟨rfl, rfl⟩)
    clear hcount
    go_loopg [9] Mp (fun g i wr => w = wr ∧ ∃ k : Nat, k ≤ Mp ∧ g = Mp - k ∧ i = .int .i64 k ∧ Hid (∀ m, m < k → Lc m = n ∧ Lp m = n ∧ Ring n (Zc m) (Zp m) lf K))
    case atStart => exact ⟨rfl, 0, Nat.zero_le _, rfl, rfl, fun m hm => by omega⟩
    case round =>
      obtain ⟨rfl, k, hk, rfl, rfl, HR⟩ := hrel
      by_cases hlt : k < Mp
      · obtain ⟨bc, oc, rfl, hcc⟩ := hC.top (by omega)
        obtain ⟨bp, op, rfl, hcp⟩ := hP.top (by omega)
        have hck : w.cell? ⟨bc, oc + k, none⟩ = some (.slice (Ac k) (Lc k) (Cc k)) := hcc k hlt
        have hpk : w.cell? ⟨bp, op + k, none⟩ = some (.slice (Ap k) (Lp k) (Cp k)) := hcp k hlt
        have hrc := hC.rows k hlt
        have hrp := hP.rows k hlt
        have hLck := hLc k hlt
        have hLpk := hLp k hlt
        clear hcc hcp hC hP hLc hLp
        by_cases e1 : Lc k = n
        · by_cases e2 : Lp k = n
          · obtain ⟨b1, o1, hA1, hz1⟩ := hrc (by omega)
            obtain ⟨b2, o2, hA2, hz2⟩ := hrp (by omega)
            rw [hA1, e1] at hck
            rw [hA2, e2] at hpk
            have HE : Hid (Lc k = n ∧ Lp k = n) := ⟨e1, e2⟩
            rw [e1] at hz1
            rw [e2] at hz2
            clear hrc hrp hA1 hA2 e1 e2 hLck hLpk
            have HC : Hid (∀ i, i < n → w.cell? ⟨b1, o1 + i, none⟩ = some (.int .i64 (Zc k i))) := hz1
            have HP : Hid (∀ i, i < n → w.cell? ⟨b2, o2 + i, none⟩ = some (.int .i64 (Zp k i))) := hz2
            have HL : Hid (∀ i, i < n → w.cell? ⟨bl, ol + i, none⟩ = some (.bool (lf i))) := hlc
            clear hz1 hz2 hlc
            go_wp2
            clear hck hpk hl0 hd1
            -- the entries are in range
            go_loopg [12] n (fun g i wr => w = wr ∧ ∃ v : Nat, v ≤ n ∧ g = n - v ∧ i = .int .i64 v ∧ Hid (∀ q, q < v → (0 ≤ Zc k q ∧ Zc k q < n) ∧ (0 ≤ Zp k q ∧ Zp k q < n)))
            case atStart => exact ⟨rfl, 0, Nat.zero_le _, rfl, rfl, fun m hm => by omega⟩
            case round =>
              obtain ⟨rfl, v, hv, rfl, rfl, HQ⟩ := hrel
              by_cases hvn : v < n
              · have c1 := HC.out v hvn
                have c2 := HP.out v hvn
                by_cases t1 : Zc k v < 0
                · go_wp2
                  go_ret
                  exact Tells.no _ (fun h => by have := (h.2.2.2 k hlt).2.2.rf v hvn; omega)
                by_cases t2 : (n : Int) ≤ Zc k v
                · go_wp2
                  go_ret
                  exact Tells.no _ (fun h => by have := (h.2.2.2 k hlt).2.2.rf v hvn; omega)
                by_cases t3 : Zp k v < 0
                · go_wp2
                  go_ret
                  exact Tells.no _ (fun h => by have := (h.2.2.2 k hlt).2.2.rg v hvn; omega)
                by_cases t4 : (n : Int) ≤ Zp k v
                · go_wp2
                  go_ret
                  exact Tells.no _ (fun h => by have := (h.2.2.2 k hlt).2.2.rg v hvn; omega)
                go_wp2
                go_roundg (n - (v + 1))
                case measure => omega
                case rel => exact ⟨rfl, v + 1, by omega, rfl, by go_num, fun q hq => by
                  by_cases e : q = v
                  · subst e; omega
                  · exact HQ.out q (by omega)⟩
              · have hve : v = n := by omega
                have HQ' : Hid (∀ q, q < n → (0 ≤ Zc k q ∧ Zc k q < n) ∧ (0 ≤ Zp k q ∧ Zp k q < n)) := fun q hq => HQ.out q (by omega)
                clear hve HQ
                go_wp2
                clear hvn hv
                -- child and parent are each other's inverse where present
                go_loopg [13] n (fun g i wr => w = wr ∧ ∃ v : Nat, v ≤ n ∧ g = n - v ∧ i = .int .i64 v ∧ Hid (∀ q, q < v → lf q = false → lf (Zc k q).toNat = false ∧ Zp k (Zc k q).toNat = q))
                case atStart => exact ⟨rfl, 0, Nat.zero_le _, rfl, rfl, fun m hm => by omega⟩
                case round =>
                  obtain ⟨rfl, u, hu, rfl, rfl, HI⟩ := hrel
                  by_cases hun : u < n
                  · have c0 := HL.out u hun
                    have c1 := HC.out u hun
                    have hr := HQ'.out u hun
                    have c2 := HL.out (Zc k u).toNat (by omega)
                    have c3 := HP.out (Zc k u).toNat (by omega)
                    have r1 : 0 ≤ Zc k u := by omega
                    have r2 : Zc k u < n := by omega
                    clear hr
                    cases hb : lf u with
                    | true =>
                      rw [hb] at c0
                      have HB' : Hid (lf u = true) := hb
                      clear hb
                      go_wp2
                      go_roundg (n - (u + 1))
                      case measure => omega
                      case rel => exact ⟨rfl, u + 1, by omega, rfl, by go_num, fun q hq hl => by
                        by_cases e : q = u
                        · subst e; rw [HB'.out] at hl; cases hl
                        · exact HI.out q (by omega) hl⟩
                    | false =>
                      rw [hb] at c0
                      have HB' : Hid (lf u = false) := hb
                      clear hb
                      cases hb : lf (Zc k u).toNat with
                      | true =>
                        rw [hb] at c2
                        have HB2 : Hid (lf (Zc k u).toNat = true) := hb
                        clear hb
                        go_wp2
                        go_ret
                        exact Tells.no _ (fun h => by have := ((h.2.2.2 k hlt).2.2.inv u hun HB'.out).1; rw [HB2.out] at this; cases this)
                      | false =>
                        rw [hb] at c2
                        have HB2 : Hid (lf (Zc k u).toNat = false) := hb
                        clear hb
                        by_cases e : Zp k (Zc k u).toNat = u
                        · rw [e] at c3
                          have HE' : Hid (Zp k (Zc k u).toNat = u) := e
                          clear e
                          go_wp2
                          go_roundg (n - (u + 1))
                          case measure => omega
                          case rel => exact ⟨rfl, u + 1, by omega, rfl, by go_num, fun q hq hl => by
                            by_cases e : q = u
                            · subst e; exact ⟨HB2.out, HE'.out⟩
                            · exact HI.out q (by omega) hl⟩
                        · have hne : (Zp k (Zc k u).toNat != (u : Int)) = true := by simpa using e
                          have HE' : Hid (Zp k (Zc k u).toNat ≠ u) := e
                          clear e
                          go_wp2
                          go_ret
                          exact Tells.no _ (fun h => HE'.out ((h.2.2.2 k hlt).2.2.inv u hun HB'.out).2)
                  · have HI' : Hid (∀ q, q < n → lf q = false → lf (Zc k q).toNat = false ∧ Zp k (Zc k q).toNat = q) := fun q hq => HI.out q (by omega)
                    clear HI
                    have c1 : w.cell? ⟨b1, o1, none⟩ = some (.int .i64 (Zc k 0)) := HC.out 0 (by omega)
                    have i0 : (0 : Int) < n := by omega
                    go_wp2
                    clear c1 hun hu
                    -- the walk round the layer
                    have h00 := HQ'.out 0 (by omega)
                    have HIN : Hid (∀ t, orb (Zc k) t < n) := fun t => by
                      induction t with
                      | zero => show 0 < n; omega
                      | succ t ih => have := HQ'.out _ ih; simp only [orb]; omega
                    go_loopg [14, 15] K (fun g s i wr => w = wr ∧ ∃ t x : Nat, 1 ≤ t ∧ t ≤ K ∧ g = K + 1 - t ∧ s = .int .i64 t ∧ i = .int .i64 x ∧ x < n ∧ Hid (x = orb (Zc k) t) ∧ Hid (∀ i, 0 < i → i < t → orb (Zc k) i ≠ 0))
                    case atStart => exact ⟨rfl, 1, (Zc k 0).toNat, Nat.le_refl _, hK1, by omega, rfl, int_eq (by omega), by omega, rfl, fun i h1 h2 => by omega⟩
                    case round =>
                      obtain ⟨rfl, t, x, ht1, htK, rfl, rfl, rfl, hx, HX, HF⟩ := hrel
                      clear h00
                      by_cases hx0 : x = 0
                      · subst hx0
                        by_cases htE : t = K
                        · subst htE
                          go_wp2
                          go_roundg (Mp - (k + 1))
                          case measure => omega
                          case rel => exact ⟨rfl, k + 1, by omega, rfl, by go_num, fun m hm => by
                            by_cases e : m = k
                            · subst e
                              exact ⟨HE.out.1, HE.out.2, fun v hv => (HQ'.out v hv).1, fun v hv => (HQ'.out v hv).2, HI'.out, HX.out.symm, HF.out⟩
                            · exact HR.out m (by omega)⟩
                        · have hne : ((t : Int) != (K : Int)) = true := by simp; omega
                          go_wp2
                          go_ret
                          exact Tells.no _ (fun h => by
                            have := (h.2.2.2 k hlt).2.2.first t (by omega) (by rw [← HK.out]; omega)
                            exact this HX.out.symm)
                      · have hne : ((x : Int) != 0) = true := by simp; omega
                        have c1 := HC.out x hx
                        have r1 := HQ'.out x hx
                        by_cases htE : t = K
                        · subst htE
                          go_wp2
                          go_ret
                          exact Tells.no _ (fun h => by
                            have := (h.2.2.2 k hlt).2.2.back
                            rw [← HK.out, ← HX.out] at this
                            exact hx0 this)
                        · have htl : t + 1 ≤ K := by omega
                          clear htE
                          go_wp2
                          go_roundg (K + 1 - (t + 1))
                          case measure => omega
                          case rel => exact ⟨rfl, t + 1, (Zc k x).toNat, by omega, by omega, rfl, by go_num, int_eq (by omega), by omega, by show _ = (Zc k (orb (Zc k) t)).toNat; rw [← HX.out], fun i h1 h2 => by
                            by_cases e : i = t
                            · subst e; rw [← HX.out]; exact hx0
                            · exact HF.out i h1 (by omega)⟩
          · have hne2 : ((Lp k : Int) != (n : Int)) = true := by simp; omega
            have HE : Hid (Lp k ≠ n) := e2
            rw [e1] at hck
            clear e1 e2
            go_wp2
            go_ret
            exact Tells.no _ (fun h => HE.out (h.2.2.2 k hlt).2.1)
        · have hne1 : ((Lc k : Int) != (n : Int)) = true := by simp; omega
          have HE : Hid (Lc k ≠ n) := e1
          clear e1
          go_wp2
          go_ret
          exact Tells.no _ (fun h => HE.out (h.2.2.2 k hlt).1)
      · go_wp2
        go_ret
        have : k = Mp := by omega
        subst this
        exact Tells.yes _ ⟨by omega, HB.out, rfl, fun m hm => by rw [← HK.out]; exact HR.out m hm⟩
  · have hne : ((Mp : Int) != (M : Int)) = true := by simp; omega
    clear hcount hlc
    go_enter Try.func11, Try.ntmps11
    go_wp2
    go_ret
    exact Tells.no _ (fun h => hMM h.2.2.1)
end Go.Proofs.Qxb6601170a
