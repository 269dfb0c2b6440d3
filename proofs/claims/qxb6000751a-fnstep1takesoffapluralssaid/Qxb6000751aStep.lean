/-
  SEAT b6000751a: step1 (34).
-/
import Derived.Test.Qxb6000751aCut
namespace Go.Proofs.Qxb6000751a
open Go.RowKit Go.Deep
set_option linter.unusedVariables false

/-! ### The plain step 1 -/
def step1a (l : List Int) : List Int :=
  if ends l ⟨#[115, 115, 101, 115]⟩ = true then setSuf l 4 ⟨#[115, 115]⟩
  else if ends l ⟨#[105, 101, 115]⟩ = true then setSuf l 3 ⟨#[105]⟩
  else if ends l ⟨#[115, 115]⟩ = true then l
  else if ends l ⟨#[115]⟩ = true then setSuf l 1 ⟨#[]⟩ else l
def step1fix (l : List Int) : List Int :=
  if (ends l ⟨#[97, 116]⟩ || ends l ⟨#[98, 108]⟩ || ends l ⟨#[105, 122]⟩) = true then l ++ [101]
  else if (dblB (lz l) l.length && !(decide (lz l (l.length - 1) = 108)) && !(decide (lz l (l.length - 1) = 115)) && !(decide (lz l (l.length - 1) = 122))) = true then l.take (l.length - 1)
  else if (decide (turns (lz l) l.length = 1) && cvcB (lz l) l.length) = true then l ++ [101] else l
def step1b (l : List Int) : List Int :=
  if ends l ⟨#[101, 101, 100]⟩ = true then (if 0 < turns (lz l) (l.length - 3) then setSuf l 3 ⟨#[101, 101]⟩ else l)
  else if cutB l ⟨#[101, 100]⟩ = true then step1fix (l.take (l.length - 2))
  else if cutB l ⟨#[105, 110, 103]⟩ = true then step1fix (l.take (l.length - 3)) else l
def step1c (l : List Int) : List Int := if (ends l ⟨#[121]⟩ && hasV (lz l) (l.length - 1)) = true then l.take (l.length - 1) ++ [105] else l

theorem cut_lt {l : List Int} {s : ByteArray} (h : cutB l s = true) : s.size < l.length := by
  simp only [cutB, Bool.and_eq_true] at h; exact ends_lt h.1
/-- Where the word stands by now. -/
def Now (o b c : Nat) (w0 : World) (l : List Int) (w : World) : Prop := Wd w o b c l ∧ Kept o b w0 w
theorem Wd.kept {w w' : World} {o b c : Nat} {l : List Int} (h : Wd w o b c l) (k : w'.heap = w.heap) : Wd w' o b c l := by
  obtain ⟨h1, h2, h3, f, h4, h5⟩ := h
  exact ⟨by unfold SOb; rw [k]; exact h1, h2, h3, f, h4.of_block (by rw [k]), h5⟩
theorem Wd.drewN {w : World} {o b c : Nat} {l : List Int} (h : Wd w o b c l) (q : Nat) : Wd (w.drewN q) o b c l := h.kept rfl
theorem Kept.drewN {o b : Nat} {w w1 : World} (h : Kept o b w w1) (q : Nat) : Kept o b w (w1.drewN q) := ⟨h.os, h.tape, h.output, h.size, h.block⟩
theorem Wd.alloc {w : World} {o b c : Nat} {l : List Int} (h : Wd w o b c l) (x : Obj) : Wd (w.alloc x) o b c l := by
  obtain ⟨h1, h2, h3, f, h4, h5⟩ := h
  exact ⟨h1.of_block (blk_alloc_lt _ _ _ h1.lt), h2, h3, f, h4.alloc x, h5⟩

/-- An 'e' behind the word. -/
theorem src_e (X : World) : Src Try.prog 1 22 (.slice (some ⟨X.heap.size, 0, none⟩) 1 1) [(101 : Int)].length ([(101 : Int)].map (Value.int .u8)) (X.alloc (.cells #[.int .u8 101] 5)) :=
  Src.ofSlice _ Try.underlying22 ⟨X.heap.size, 0, none⟩ 1 1 [.int .u8 101] rfl (by intro j u hj; match j, hj with | 0, hj => simp at hj; subst hj; simp [Addr.add]) (by intro u hu; simp at hu; subst hu; rfl)
theorem obs_e {X w1 : World} {o b c n : Nat} {l xs : List Int} {f : Nat → Value} (hW : Wd X o b c l) (hA : App (X.alloc (.cells #[.int .u8 101] 5)) w1 b c n f xs) :
    w1.cell? ⟨o, 0, none⟩ = some (.slice (some ⟨b, 0, none⟩) l.length c) ∧ w1.frozen? ⟨o, 0, none⟩ = false := by
  have hW' := hW.alloc (.cells #[.int .u8 101] 5)
  have hb := (hA.2 (o + b + 1)).block o hW'.ob.lt (by omega) hW.ne
  have fz : (X.alloc (.cells #[.int .u8 101] 5)).frozen? ⟨o, 0, none⟩ = false := by have := hW'.ob; unfold SOb at this; simp [World.frozen?, this]
  exact ⟨by rw [World.cell?_of_block hb]; exact hW'.ob.c0, by rw [World.frozen?_of_block hb]; exact fz⟩
theorem fin_e {w X w1 : World} {o b c p : Nat} {l : List Int} {f : Nat → Value} (hW : Wd X o b c l) (hK : Kept o b w X) (hp : l.length = p + 1) (hroom : p + 1 + [(101 : Int)].length ≤ c) (hf : ∀ i, i < l.length → f i = .int .u8 (lz l i))
    (hA : App (X.alloc (.cells #[.int .u8 101] 5)) w1 b c (p + 1) f [101]) : Now o b c w (l ++ [101]) (w1.setCell ⟨o, 0, none⟩ (.slice (some ⟨b, 0, none⟩) (p + 1 + [(101 : Int)].length) c)) := by
  have := (hW.alloc (.cells #[.int .u8 101] 5)).app hf (by omega) hroom hA
  rw [← hp, List.take_length] at this
  rw [← hp]
  exact ⟨this.1, (hK.alloc _).trans this.2⟩
def dblC (z : Nat → Int) (n : Nat) : Bool := dblB z n && !(decide (z (n - 1) = 108)) && !(decide (z (n - 1) = 115)) && !(decide (z (n - 1) = 122))

/-- Behind "-ed" and "-ing": was one cut, and what is left to do. -/
def Mid (o b c : Nat) (w0 : World) (l3 : List Int) (s : Value) (w : World) : Prop :=
  ∃ r l4, s = .bool r ∧ Now o b c w0 l4 w ∧ (r = true → 0 < l4.length ∧ l4.length + 1 ≤ c) ∧ l3 = if r = true then step1fix l4 else l4

set_option maxRecDepth 100000 in
set_option maxHeartbeats 4000000 in
theorem step34 {w : World} {o b c : Nat} {l : List Int} (hW : Wd w o b c l) (hc : c ≤ 1048576) :
    Calls Try.prog 34 #[.pointer (some ⟨o, 0, none⟩)] w (SetPost o b c (step1c (step1b (step1a l))) w) := by
  have hn := Nat.le_trans hW.le hc
  obtain ⟨l2, hl2⟩ : ∃ l2, step1a l = l2 := ⟨_, rfl⟩
  rw [hl2]
  have HL2 : Hid (step1a l = l2) := hl2
  obtain ⟨l3, hl3⟩ : ∃ l3, step1b l2 = l3 := ⟨_, rfl⟩
  rw [hl3]
  have HL3 : Hid (step1b l2 = l3) := hl3
  clear hl2 hl3
  go_enter Try.func34, Try.ntmps34
  go_upto_block 0 with fail
  go_cut [] (fun wc => Now o b c w l2 wc)
  case first =>
    have H := ends37 ⟨#[115, 115, 101, 115]⟩ hW hn (by decide) (by decide)
    go_wp2_with fail
    refine H.mono ?_
    rintro e w' ⟨rfl, rfl⟩
    clear H
    cases h1 : ends l ⟨#[115, 115, 101, 115]⟩ with
    | true =>
      have H := set38 ⟨#[115, 115, 101, 115]⟩ ⟨#[115, 115]⟩ hW hn (by decide) (Nat.le_of_lt (ends_lt h1)) (by decide)
      go_wp2_with fail
      refine H.mono ?_
      rintro e w1 ⟨rfl, hW1, hK1⟩
      clear H
      go_wp2_with fail
      go_meet
      exact ⟨by rw [← HL2.out, step1a, if_pos h1]; exact hW1, hK1⟩
    | false =>
    have H := ends37 ⟨#[105, 101, 115]⟩ hW hn (by decide) (by decide)
    go_wp2_with fail
    refine H.mono ?_
    rintro e w' ⟨rfl, rfl⟩
    clear H
    cases h2 : ends l ⟨#[105, 101, 115]⟩ with
    | true =>
      have H := set38 ⟨#[105, 101, 115]⟩ ⟨#[105]⟩ hW hn (by decide) (Nat.le_of_lt (ends_lt h2)) (by decide)
      go_wp2_with fail
      refine H.mono ?_
      rintro e w1 ⟨rfl, hW1, hK1⟩
      clear H
      go_wp2_with fail
      go_meet
      exact ⟨by rw [← HL2.out, step1a, if_neg (by rw [h1]; decide), if_pos h2]; exact hW1, hK1⟩
    | false =>
    have H := ends37 ⟨#[115, 115]⟩ hW hn (by decide) (by decide)
    go_wp2_with fail
    refine H.mono ?_
    rintro e w' ⟨rfl, rfl⟩
    clear H
    cases h3 : ends l ⟨#[115, 115]⟩ with
    | true =>
      go_wp2_with fail
      go_meet
      exact ⟨by rw [← HL2.out, step1a, if_neg (by rw [h1]; decide), if_neg (by rw [h2]; decide), if_pos h3]; exact hW, Kept.refl _ _ _⟩
    | false =>
    have H := ends37 ⟨#[115]⟩ hW hn (by decide) (by decide)
    go_wp2_with fail
    refine H.mono ?_
    rintro e w' ⟨rfl, rfl⟩
    clear H
    cases h4 : ends l ⟨#[115]⟩ with
    | true =>
      have H := set38 ⟨#[115]⟩ ⟨#[]⟩ hW hn (by decide) (Nat.le_of_lt (ends_lt h4)) (by decide)
      go_wp2_with fail
      refine H.mono ?_
      rintro e w1 ⟨rfl, hW1, hK1⟩
      clear H
      go_wp2_with fail
      go_meet
      exact ⟨by rw [← HL2.out, step1a, if_neg (by rw [h1]; decide), if_neg (by rw [h2]; decide), if_neg (by rw [h3]; decide), if_pos h4]; exact hW1, hK1⟩
    | false =>
      go_wp2_with fail
      go_meet
      exact ⟨by rw [← HL2.out, step1a, if_neg (by rw [h1]; decide), if_neg (by rw [h2]; decide), if_neg (by rw [h3]; decide), if_neg (by rw [h4]; decide)]; exact hW, Kept.refl _ _ _⟩
  case rest =>
  obtain ⟨hW2, hK2⟩ := hcut
  clear hW hn
  have hn := Nat.le_trans hW2.le hc
  have H := ends37 ⟨#[101, 101, 100]⟩ hW2 hn (by decide) (by decide)
  go_wp2_with fail
  refine H.mono ?_
  rintro e w' ⟨rfl, rfl⟩
  clear H
  go_upto_if 22 with fail
  go_cut [] (fun wd => Now o b c w l3 wd)
  case first =>
    cases h1 : ends l2 ⟨#[101, 101, 100]⟩ with
    | true =>
      have hlt : 3 < l2.length := ends_lt h1
      obtain ⟨k, hk⟩ : ∃ k, l2.length = k + 3 := ⟨l2.length - 3, by omega⟩
      have H39 := stem39 (o := o) (some ⟨b, 0, none⟩) l2.length c ⟨#[101, 101, 100]⟩ wc hW2.ob hn (by decide)
      have e1 : (l2.length : Int) - ((⟨#[101, 101, 100]⟩ : ByteArray).size : Int) = (k : Int) := by show (l2.length : Int) - 3 = _; omega
      rw [e1] at H39
      have H33 := meas33 o (some ⟨b, 0, none⟩) l2.length c (lz l2) wc hW2.ob hW2.at hn k (by omega)
      have HE : Hid (l3 = if 0 < turns (lz l2) k then setSuf l2 3 ⟨#[101, 101]⟩ else l2) := by
        show _ = _
        rw [← HL3.out, step1b, if_pos h1, hk]; rfl
      clear h1 e1
      go_wp2_with fail
      refine H39.mono ?_
      rintro e w' ⟨rfl, rfl⟩
      clear H39
      go_wp2_with fail
      refine H33.mono ?_
      rintro e w' ⟨rfl, rfl⟩
      clear H33
      by_cases ht : 0 < turns (lz l2) k
      · have ht' : (0 : Int) < (turns (lz l2) k : Int) := by omega
        have H := set38 ⟨#[101, 101, 100]⟩ ⟨#[101, 101]⟩ hW2 hn (by decide) (Nat.le_of_lt hlt) (by decide)
        go_wp2_with fail
        refine H.mono ?_
        rintro e w1 ⟨rfl, hW1, hK1⟩
        clear H
        go_wp2_with fail
        go_meet
        exact ⟨by rw [HE.out, if_pos ht]; exact hW1, hK2.trans hK1⟩
      · have ht' : ¬ ((0 : Int) < (turns (lz l2) k : Int)) := by omega
        go_wp2_with fail
        go_meet
        exact ⟨by rw [HE.out, if_neg ht]; exact hW2, hK2⟩
    | false =>
    go_upto_region 10 with fail
    go_cut [35] (fun s we => Mid o b c w l3 s we)
    case first =>
      have H := cut40 ⟨#[101, 100]⟩ hW2 hn (by decide) (by decide)
      have hle := hW2.le
      go_wp2_with fail
      refine H.mono ?_
      rintro e w1 ⟨rfl, hW1, hK1⟩
      clear H
      cases h2 : cutB l2 ⟨#[101, 100]⟩ with
      | true =>
        have hlt : 2 < l2.length := cut_lt h2
        rw [if_pos h2] at hW1
        have hW1' : Wd w1 o b c (l2.take (l2.length - 2)) := hW1
        clear hW1
        go_wp2_with fail
        go_meet
        refine ⟨true, l2.take (l2.length - 2), rfl, ⟨hW1', hK2.trans hK1⟩, fun _ => ?_, ?_⟩
        · rw [List.length_take]; omega
        · rw [← HL3.out, step1b, if_neg (by rw [h1]; decide), if_pos h2]; rfl
      | false =>
      rw [if_neg (by rw [h2]; decide)] at hW1
      have H := cut40 ⟨#[105, 110, 103]⟩ hW1 hn (by decide) (by decide)
      go_wp2_with fail
      refine H.mono ?_
      rintro e w2 ⟨rfl, hW4, hK4⟩
      clear H
      cases h3 : cutB l2 ⟨#[105, 110, 103]⟩ with
      | true =>
        have hlt : 3 < l2.length := cut_lt h3
        rw [if_pos h3] at hW4
        have hW4' : Wd w2 o b c (l2.take (l2.length - 3)) := hW4
        clear hW4
        go_wp2_with fail
        go_meet
        refine ⟨true, l2.take (l2.length - 3), rfl, ⟨hW4', hK2.trans (hK1.trans hK4)⟩, fun _ => ?_, ?_⟩
        · rw [List.length_take]; omega
        · rw [← HL3.out, step1b, if_neg (by rw [h1]; decide), if_neg (by rw [h2]; decide), if_pos h3]; rfl
      | false =>
        rw [if_neg (by rw [h3]; decide)] at hW4
        go_wp2_with fail
        go_meet
        refine ⟨false, l2, rfl, ⟨hW4, hK2.trans (hK1.trans hK4)⟩, (fun h => by cases h), ?_⟩
        rw [← HL3.out, step1b, if_neg (by rw [h1]; decide), if_neg (by rw [h2]; decide), if_neg (by rw [h3]; decide)]; rfl
    case rest =>
    obtain ⟨r, l4, rfl, ⟨hW4, hK4⟩, hr, hl4⟩ := hcut
    clear hW2 hK2 hn HL2 HL3 h1
    have HL4 : Hid (l3 = if r = true then step1fix l4 else l4) := hl4
    clear hl4
    cases r with
    | false =>
      go_wp2_with fail
      go_meet
      exact ⟨by rw [HL4.out]; exact hW4, hK4⟩
    | true =>
    obtain ⟨hpos, hroom0⟩ := hr rfl
    clear hr
    have hn := Nat.le_trans hW4.le hc
    obtain ⟨p, hp⟩ : ∃ p, l4.length = p + 1 := ⟨l4.length - 1, by omega⟩
    have hroom : p + 1 + [(101 : Int)].length ≤ c := by show p + 1 + 1 ≤ c; omega
    have HF : Hid (l3 = step1fix l4) := HL4.out
    clear HL4
    have h0 := hW4.ob.c0
    rw [hp] at h0
    obtain ⟨f, hrow, hf⟩ := hW4.row
    have hpc : (p : Int) ≤ 1048576 := by omega
    have e0 : ((p + 1 : Nat) : Int) = (p : Int) + 1 := by omega
    have H := ends37 ⟨#[97, 116]⟩ hW4 hn (by decide) (by decide)
    go_wp2_with fail
    refine H.mono ?_
    rintro e w' ⟨rfl, rfl⟩
    clear H
    cases a1 : ends l4 ⟨#[97, 116]⟩ with
    | true =>
      have HE : Hid (l3 = l4 ++ [101]) := by show _ = _; rw [HF.out, step1fix, if_pos (by rw [a1]; rfl)]
      clear HF a1
      go_wp2_with (at_builtin; refine wpList_append_in rfl (.tmp 52) (.tmp 53) 22 rfl _ [101] b (p + 1) c f rfl rfl (src_e _) (hrow.alloc _) hroom ?_)
      intro w1 hA
      obtain ⟨q0, q1⟩ := obs_e hW4 hA
      go_wp2_with fail
      go_meet
      rw [HE.out]
      exact fin_e hW4 hK4 hp hroom hf hA
    | false =>
    have H := ends37 ⟨#[98, 108]⟩ hW4 hn (by decide) (by decide)
    go_wp2_with fail
    refine H.mono ?_
    rintro e w' ⟨rfl, rfl⟩
    clear H
    cases a2 : ends l4 ⟨#[98, 108]⟩ with
    | true =>
      have HE : Hid (l3 = l4 ++ [101]) := by show _ = _; rw [HF.out, step1fix, if_pos (by rw [a1, a2]; rfl)]
      clear HF a1 a2
      go_wp2_with (at_builtin; refine wpList_append_in rfl (.tmp 52) (.tmp 53) 22 rfl _ [101] b (p + 1) c f rfl rfl (src_e _) (hrow.alloc _) hroom ?_)
      intro w1 hA
      obtain ⟨q0, q1⟩ := obs_e hW4 hA
      go_wp2_with fail
      go_meet
      rw [HE.out]
      exact fin_e hW4 hK4 hp hroom hf hA
    | false =>
    have H := ends37 ⟨#[105, 122]⟩ hW4 hn (by decide) (by decide)
    go_wp2_with fail
    refine H.mono ?_
    rintro e w' ⟨rfl, rfl⟩
    clear H
    cases a3 : ends l4 ⟨#[105, 122]⟩ with
    | true =>
      have HE : Hid (l3 = l4 ++ [101]) := by show _ = _; rw [HF.out, step1fix, if_pos (by rw [a1, a2, a3]; rfl)]
      clear HF a1 a2 a3
      go_wp2_with (at_builtin; refine wpList_append_in rfl (.tmp 52) (.tmp 53) 22 rfl _ [101] b (p + 1) c f rfl rfl (src_e _) (hrow.alloc _) hroom ?_)
      intro w1 hA
      obtain ⟨q0, q1⟩ := obs_e hW4 hA
      go_wp2_with fail
      go_meet
      rw [HE.out]
      exact fin_e hW4 hK4 hp hroom hf hA
    | false =>
    have HG : Hid (l3 = if dblC (lz l4) (p + 1) = true then l4.take p else if (decide (turns (lz l4) (p + 1) = 1) && cvcB (lz l4) (p + 1)) = true then l4 ++ [101] else l4) := by
      show _ = _
      rw [HF.out, step1fix, if_neg (by rw [a1, a2, a3]; decide), hp]; rfl
    clear HF a1 a2 a3
    go_upto_region 16 with fail
    go_cut [57] (fun s we => s = .bool (dblC (lz l4) (p + 1)) ∧ ∃ q, we = wc.drewN q)
    case first =>
      have H41 := dbl41 (lz l4) hW4.ob hW4.at hn
      rw [hp, e0] at H41
      have cp : wc.cell? ⟨b, p, none⟩ = some (.int .u8 (lz l4 p)) := by rw [hrow.cell (by omega), hf p (by omega)]
      have e2 : (p : Int) + 1 - 1 = (p : Int) := by omega
      have n3 : (p : Int) < (p : Int) + 1 := by omega
      have wr1 : IntKind.i64.wrap (p : Int) = (p : Int) := by rw [IntKind.wrap_i64]; omega
      go_wp2_with fail
      refine H41.mono ?_
      rintro e w' ⟨rfl, q, rfl⟩
      clear H41
      cases d : dblB (lz l4) (p + 1) with
      | false =>
        go_wp2_with fail
        go_meet
        exact ⟨by rw [dblC, d]; rfl, q, rfl⟩
      | true =>
        by_cases b1 : lz l4 p = 108
        · go_wp2_with fail
          go_meet
          exact ⟨by rw [dblC, d]; simp [b1], q, rfl⟩
        by_cases b2 : lz l4 p = 115
        · go_wp2_with fail
          go_meet
          exact ⟨by rw [dblC, d]; simp [b2], q, rfl⟩
        by_cases b3 : lz l4 p = 122
        · go_wp2_with fail
          go_meet
          exact ⟨by rw [dblC, d]; simp [b3], q, rfl⟩
        · go_wp2_with fail
          go_meet
          exact ⟨by rw [dblC, d]; simp [b1, b2, b3], q, rfl⟩
    case rest =>
    obtain ⟨rfl, q, rfl⟩ := hcut
    have hW5 := hW4.drewN q
    have hK5 := hK4.drewN q
    have hrow5 : (wc.drewN q).rowIs b 5 c f := hrow
    cases d : dblC (lz l4) (p + 1) with
    | true =>
      have HE : Hid (l3 = l4.take p) := by show _ = _; rw [HG.out, if_pos d]
      have fz0 : wc.frozen? ⟨o, 0, none⟩ = false := by have := hW4.ob; unfold SOb at this; simp [World.frozen?, this]
      have hle := hW4.le
      have n6 : (p : Int) ≤ (c : Int) := by omega
      have e2 : (p : Int) + 1 - 1 = (p : Int) := by omega
      have fin : Now o b c w l3 ((wc.drewN q).setCell ⟨o, 0, none⟩ (.slice (some ⟨b, 0, none⟩) p c)) := by
        rw [HE.out]
        have hlen : (l4.take p).length = p := by rw [List.length_take]; omega
        refine ⟨⟨?_, hW4.ne, by omega, f, hrow5.setOther (fun e => hW4.ne e.symm) _, fun i hi => ?_⟩, hK5.setCell (.inl rfl) _⟩
        · rw [hlen]; exact hW5.ob.set _ _ _
        · rw [hf i (by omega)]
          have := lz_lt (l := l4) (xs := []) (n := p) (i := i) (by omega) (by omega)
          rw [List.append_nil] at this
          rw [this]
      clear HG HE d hf hrow hrow5
      go_wp2_with fail
      go_meet
      exact fin
    | false =>
    have HH : Hid (l3 = if (decide (turns (lz l4) (p + 1) = 1) && cvcB (lz l4) (p + 1)) = true then l4 ++ [101] else l4) := by show _ = _; rw [HG.out, if_neg (by rw [d]; decide)]
    clear HG d
    have H33 := meas33 o (some ⟨b, 0, none⟩) l4.length c (lz l4) (wc.drewN q) hW5.ob hW5.at hn l4.length (Nat.le_refl _)
    have H42 := cvc42 (lz l4) hW5.ob hW5.at hn
    rw [hp, e0] at H33 H42
    go_wp2_with fail
    refine H33.mono ?_
    rintro e w' ⟨rfl, rfl⟩
    clear H33
    by_cases ht : turns (lz l4) (p + 1) = 1
    · have tb : ((turns (lz l4) (p + 1) : Int) == 1) = true := by rw [ht]; rfl
      go_wp2_with fail
      refine H42.mono ?_
      rintro e w' ⟨rfl, rfl⟩
      clear H42
      cases v : cvcB (lz l4) (p + 1) with
      | true =>
        have HE : Hid (l3 = l4 ++ [101]) := by show _ = _; rw [HH.out, if_pos (by rw [ht, v]; rfl)]
        clear HH v ht tb
        go_wp2_with (at_builtin; refine wpList_append_in rfl (.tmp 118) (.tmp 119) 22 rfl _ [101] b (p + 1) c f rfl rfl (src_e (wc.drewN q)) (hrow5.alloc _) hroom ?_)
        intro w1 hA
        obtain ⟨q0, q1⟩ := obs_e hW5 hA
        go_wp2_with fail
        go_meet
        rw [HE.out]
        exact fin_e hW5 hK5 hp hroom hf hA
      | false =>
        have HE : Hid (l3 = l4) := by show _ = _; rw [HH.out, if_neg (by rw [v]; simp)]
        clear HH v ht tb
        go_wp2_with fail
        go_meet
        rw [HE.out]
        exact ⟨hW5, hK5⟩
    · have tb : ((turns (lz l4) (p + 1) : Int) == 1) = false := by rw [beq_eq_false_iff_ne]; omega
      have HE : Hid (l3 = l4) := by show _ = _; rw [HH.out, if_neg (by simp [ht])]
      clear HH
      go_wp2_with fail
      go_meet
      rw [HE.out]
      exact ⟨hW5, hK5⟩
  case rest =>
  obtain ⟨hW3, hK3⟩ := hcut
  clear hW2 hK2 hn HL2 HL3
  have hn := Nat.le_trans hW3.le hc
  have H := ends37 ⟨#[121]⟩ hW3 hn (by decide) (by decide)
  go_wp2_with fail
  refine H.mono ?_
  rintro e w' ⟨rfl, rfl⟩
  clear H
  cases h1 : ends l3 ⟨#[121]⟩ with
  | false =>
    have HE : Hid (step1c l3 = l3) := by show _ = _; rw [step1c, if_neg (by rw [h1]; simp)]
    clear h1
    go_wp2
    refine bodyPost_end (results_none rfl _ _ _) rfl ?_
    exact ⟨rfl, by rw [HE.out]; exact hW3, hK3⟩
  | true =>
  have hlt : 1 < l3.length := ends_lt h1
  obtain ⟨p, hp⟩ : ∃ p, l3.length = p + 1 := ⟨l3.length - 1, by omega⟩
  have H39 := stem39 (o := o) (some ⟨b, 0, none⟩) l3.length c ⟨#[121]⟩ wc hW3.ob hn (by decide)
  have e1 : (l3.length : Int) - ((⟨#[121]⟩ : ByteArray).size : Int) = (p : Int) := by show (l3.length : Int) - 1 = _; omega
  rw [e1] at H39
  have H43 := has43 (o := o) (some ⟨b, 0, none⟩) l3.length c (lz l3) wc hW3.ob hW3.at hn p (by omega)
  have HE : Hid (step1c l3 = if hasV (lz l3) p = true then l3.take p ++ [105] else l3) := by
    show _ = _
    rw [step1c, h1, hp]; rfl
  clear h1 e1
  go_wp2_with fail
  refine H39.mono ?_
  rintro e w' ⟨rfl, rfl⟩
  clear H39
  go_wp2_with fail
  refine H43.mono ?_
  rintro e w' ⟨rfl, rfl⟩
  clear H43
  cases hv : hasV (lz l3) p with
  | false =>
    go_wp2
    refine bodyPost_end (results_none rfl _ _ _) rfl ?_
    exact ⟨rfl, by rw [HE.out, hv]; exact hW3, hK3⟩
  | true =>
    have HE2 : Hid (step1c l3 = l3.take p ++ [105]) := by show _ = _; rw [HE.out, hv]; rfl
    have hle := hW3.le
    obtain ⟨f, hr, hf⟩ := hW3.row
    have h0 := hW3.ob.c0
    have cp : wc.cell? ⟨b, p, none⟩ = some (.int .u8 (lz l3 p)) := by rw [hr.cell (by omega), hf p (by omega)]
    have fp : wc.frozen? ⟨b, p, none⟩ = false := hr.frozen p
    rw [hp] at h0
    have hpc : (p : Int) ≤ 1048576 := by omega
    have e0 : ((p + 1 : Nat) : Int) = (p : Int) + 1 := by omega
    have e2 : (p : Int) + 1 - 1 = (p : Int) := by omega
    have n3 : (p : Int) < (p : Int) + 1 := by omega
    have fin : SetPost o b c (step1c l3) w (.returned (.tuple #[])) (wc.drew.setCell ⟨b, p, none⟩ (.int .u8 105)) := by
      refine ⟨rfl, ?_, hK3.drew.setCell (.inr rfl) _⟩
      rw [HE2.out]
      have hlen : (l3.take p ++ [105]).length = l3.length := by rw [List.length_append, List.length_take, List.length_singleton]; omega
      refine ⟨?_, hW3.ne, by omega, _, hr.drew.set p _, fun i hi => ?_⟩
      · rw [hlen]; exact hW3.ob.of_block (blk_setCell_other _ _ _ _ hW3.ne)
      · by_cases e : i = p
        · subst e; rw [if_pos rfl]
          have := lz_ge (l := l3) (xs := [105]) (n := i) (j := 0) (by omega)
          rw [Nat.add_zero] at this
          rw [this]; rfl
        · rw [if_neg e, hf i (by omega), lz_lt (by omega) (by omega)]
    clear HE HE2 hr hf hv hle hK3 hW3
    go_wp2_with fail
    go_region
    all_goals (go_wp2; refine bodyPost_end (results_none rfl _ _ _) rfl ?_; exact fin)
end Go.Proofs.Qxb6000751a
