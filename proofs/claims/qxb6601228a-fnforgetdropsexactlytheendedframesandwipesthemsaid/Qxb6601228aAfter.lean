/-
  SEAT b6601228a: THE LAW FnLookupAfterForgetAnswersOnlyFromBefore (5): the plain law, and the walk.
-/
import Derived.Test.Qxb6601228aForget
import Derived.Deep.DeepCutAuto
namespace Go.Proofs.Qxb6601228a
open Go.RowKit Go.Deep
set_option linter.unusedVariables false

/-! ### Plain -/
section
variable {f t u : Int} {n k : Nat} {P : Nat → List UInt8}

theorem look_len (hP : ∀ i, i < n → (P i).length = 16) : ((look f n P t).getD nought).length = 16 := by
  unfold look
  by_cases h1 : n = 0 ∨ t < f
  · rw [if_pos h1]; rfl
  · rw [if_neg h1]
    by_cases h2 : f + ((n : Int) - 1) * 60 < t ∨ (t - f) % 60 ≠ 0
    · rw [if_pos h2]; rfl
    · rw [if_neg h2]
      exact hP _ (by omega)

theorem first_after (hf0 : -9223372036854775808 ≤ f) (hf : 0 < n → f + ((n : Int) - 1) * 60 ≤ 9223372036854775807) (hk : k < n) : wrap64 (f + (k : Int) * 60) = f + (k : Int) * 60 := by
  have := hf (by omega)
  unfold wrap64; omega

/-- Behind Forget(t), at or past t: the answer is as before. -/
theorem look_past (hf0 : -9223372036854775808 ≤ f) (hf : 0 < n → f + ((n : Int) - 1) * 60 ≤ 9223372036854775807) (hk : k ≤ n) (h1 : ∀ i : Nat, i < k → f + (i : Int) * 60 < t) (h2 : k < n → ¬ f + (k : Int) * 60 < t) (h : t ≤ u) :
    look (wrap64 (f + (k : Int) * 60)) (n - k) (fun i => P (k + i)) u = look f n P u := by
  by_cases hkn : k < n
  · rw [first_after hf0 hf hkn]
    have h3 := h2 hkn
    unfold look
    by_cases c1 : u < f + (k : Int) * 60
    · rw [if_pos (.inr c1)]
      by_cases c2 : u < f
      · rw [if_pos (.inr c2)]
      · have g2 : ¬ (n = 0 ∨ u < f) := by omega
        rw [if_neg g2, if_pos]
        right
        cases k with
        | zero => exfalso; simp at c1; omega
        | succ j =>
          have := h1 j (by omega)
          push_cast at c1
          omega
    · have g1 : ¬ (n - k = 0 ∨ u < f + (k : Int) * 60) := by omega
      have g2 : ¬ (n = 0 ∨ u < f) := by omega
      rw [if_neg g1, if_neg g2]
      have e : (((n - k : Nat) : Int) - 1) * 60 = ((n : Int) - 1) * 60 - (k : Int) * 60 := by omega
      have e2 : (u - (f + (k : Int) * 60)) % 60 = (u - f) % 60 := by omega
      rw [e, e2, show f + (k : Int) * 60 + (((n : Int) - 1) * 60 - (k : Int) * 60) = f + ((n : Int) - 1) * 60 by omega]
      by_cases c2 : f + ((n : Int) - 1) * 60 < u ∨ (u - f) % 60 ≠ 0
      · rw [if_pos c2, if_pos c2]
      · rw [if_neg c2, if_neg c2]
        have e3 : k + ((u - (f + (k : Int) * 60)) / 60).toNat = ((u - f) / 60).toNat := by omega
        simp only [e3]
  · have e : k = n := by omega
    subst e
    unfold look
    rw [if_pos (.inl (by omega))]
    by_cases c1 : k = 0 ∨ u < f
    · rw [if_pos c1]
    · rw [if_neg c1, if_pos]
      left
      have := h1 (k - 1) (by omega)
      omega

/-- Before t: nothing. -/
theorem look_before (hf0 : -9223372036854775808 ≤ f) (hf : 0 < n → f + ((n : Int) - 1) * 60 ≤ 9223372036854775807) (hk : k ≤ n) (h2 : k < n → ¬ f + (k : Int) * 60 < t) (h : u < t) :
    look (wrap64 (f + (k : Int) * 60)) (n - k) (fun i => P (k + i)) u = none := by
  by_cases hkn : k < n
  · rw [first_after hf0 hf hkn]
    have h3 := h2 hkn
    unfold look
    rw [if_pos (.inr (by omega))]
  · unfold look
    rw [if_pos (.inl (by omega))]
end

/-! ### A pepper in a variable of its own -/
theorem there16 (w : World) (t : TypeId) (p : List UInt8) (hp : p.length = 16) : (w.alloc (.cells zero16 t)).there w.heap.size 0 (pc p).toArray.size := fun j hj => by
  have hj : j < 16 := by rw [List.size_toArray, pc_length, hp] at hj; exact hj
  refine ⟨?_, frozen_of_row _ _ _ zero16 t (blk_alloc_new _ _)⟩
  rw [cell_of_row _ _ _ zero16 t (0, 0) (blk_alloc_new _ _), Array.getElem?_eq_getElem (by show 0 + j < 16; omega)]; rfl
theorem range16 (w : World) (t : TypeId) (p : List UInt8) (hp : p.length = 16) : ((w.alloc (.cells zero16 t)).setCells w.heap.size 0 (pc p)).rangeAt w.heap.size 0 (pc p) :=
  World.rangeAt_setCells_same _ _ _ _ (by have := there16 w t p hp; rw [List.size_toArray] at this; exact this)
theorem below16 (w : World) (t : TypeId) (vs : List Value) : Below w.heap.size w ((w.alloc (.cells zero16 t)).setCells w.heap.size 0 vs) :=
  below_setCells ((Below.refl _ _).alloc (Nat.le_refl _) _) (Nat.le_refl _) _ _

theorem range16n (w : World) (t : TypeId) : (w.alloc (.cells zero16 t)).rangeAt w.heap.size 0 (pc nought) := World.rangeAt_of_block (blk_alloc_new _ _) 0 16
/-- One after the other. -/
theorem seqB {a b c : World} (h : Below a.heap.size a b) (k : Below b.heap.size b c) : Below a.heap.size a c :=
  h.trans ⟨k.os, k.tape, k.output, k.size, fun i hi => k.block i (Nat.lt_of_lt_of_le hi h.size)⟩

/-- A guarded load of an array, the guard being met. -/
theorem wpList_load_midG {Pr : Program} {ops : Array Oper} {rest : List Oper} {op : Oper} {a : Act} {w : World} {Q : Exit → Act → World → Prop} (hw : Region.wanted op (yielded ops a.tmps) = true) (ty : TypeId) (x : Operand) (ho : op.op = .load ty x)
    (b o : Nat) (hx : a.eval x = .pointer (some ⟨b, o, none⟩)) (cs : List Value) (d : TypeDesc) (hc : w.rangeAt b o cs)
    (hu : Pr.underlying ty = some d) (hd : d.isRow = true) (hi : (Pr.info? ty).map (·.size) = some cs.length)
    (h : wpList Pr ops Q rest (a.put op.dst (.agg cs.toArray)) w) : wpList Pr ops Q (op :: rest) a w :=
  wpList_step fun K hK => by
    rw [if_pos hw]
    exact wp_load_mid ty x ho b o hx cs d hc hu hd hi (hK _ _ h)

/-- zzClone, whatever the slice. -/
def Cloned (w : World) (n : Nat) (P : Nat → List UInt8) (e : Ending) (w' : World) : Prop := ∃ a c, e = .returned (.slice a n c) ∧ Below w.heap.size w w' ∧ PepsAt w' a n P
theorem clone8' (a : Option Addr) (n c : Nat) (P : Nat → List UInt8) (w : World) (h : PepsAt w a n P) (hP : ∀ i, i < n → (P i).length = 16) (hn : n ≤ 65536) :
    Calls Try.prog 8 #[.slice a n c] w (Cloned w n P) := by
  cases a with
  | none =>
    have h0 : n = 0 := by
      rcases Nat.eq_zero_or_pos n with h0 | h0
      · exact h0
      · obtain ⟨b, off, hx, _⟩ := h h0; cases hx
    subst h0
    refine (clone8_nil 0 c w).mono ?_
    rintro e w' ⟨rfl, rfl⟩
    exact ⟨none, 0, rfl, Below.refl _ _, fun h => absurd h (Nat.lt_irrefl _)⟩
  | some x =>
    refine (clone8 x n c P w h hP hn).mono ?_
    rintro e w' ⟨rfl, hB, _, hp⟩
    exact ⟨_, _, rfl, hB, hp.view⟩

/-- What a law leaves: true, and all that lay is as it lay. -/
def Law (w : World) (e : Ending) (w' : World) : Prop := e = .returned (.bool true) ∧ Below w.heap.size w w'

/-- ZZNewSchedule, with names. -/
def Newed (w : World) (f : Int) (n : Nat) (P : Nat → List UInt8) (e : Ending) (w' : World) : Prop :=
  ∃ o b, e = .returned (.pointer (some ⟨o, 0, none⟩)) ∧ Below w.heap.size w w' ∧ w.heap.size ≤ o ∧ w.heap.size ≤ b ∧ o ≠ b ∧ SObj w' o f (some ⟨b, 0, none⟩) n n ∧ Peps w' b 28 n n P
theorem new9' (f : Int) (a : Option Addr) (n c : Nat) (P : Nat → List UInt8) (w : World) (h : PepsAt w a n P) (hP : ∀ i, i < n → (P i).length = 16) (hn : n ≤ 65536) :
    Calls Try.prog 9 #[.int .i64 f, .slice a n c] w (Newed w f n P) := by
  refine (new9 f a n c P w h hP hn).mono ?_
  rintro e w' ⟨rfl, hB, hs, hp, ho⟩
  exact ⟨_, _, rfl, hB, by omega, by omega, by omega, ho, hp⟩
/-- Lookup, with names. -/
def Looked (w : World) (r : Option (List UInt8)) (e : Ending) (w' : World) : Prop :=
  ∃ p b, e = .returned (.tuple #[.agg (pc p).toArray, .bool b]) ∧ p.length = 16 ∧ r.getD nought = p ∧ r.isSome = b ∧ Below w.heap.size w w'
theorem look10' (o : Nat) (f t : Int) (a : Option Addr) (n c : Nat) (P : Nat → List UInt8) (w : World) (hO : SObj w o f a n c) (hA : PepsAt w a n P) (hP : ∀ i, i < n → (P i).length = 16) (hn : n ≤ 65536)
    (hf0 : -9223372036854775808 ≤ f) (hf : 0 < n → f + ((n : Int) - 1) * 60 ≤ 9223372036854775807) : Calls Try.prog 10 #[.pointer (some ⟨o, 0, none⟩), .int .i64 t] w (Looked w (look f n P t)) := by
  refine (look10 o f t a n c P w hO hA hP hn hf0 hf).mono ?_
  rintro e w' ⟨rfl, hB⟩
  exact ⟨_, _, rfl, look_len hP, rfl, rfl, hB⟩

theorem size5 : ∀ w, (sizeOf 5).run Try.prog w = .ok 1 w := fun w => by
  have h : (Try.prog.info? 5).map (·.size) = some 1 := by kernel_rfl
  cases hq : Try.prog.info? 5 with
  | none => simp [hq] at h
  | some i => simp only [hq, Option.map_some, Option.some.injEq] at h; simp [sizeOf, typeInfo, hq, h]
theorem same27 (p : List UInt8) (hp : p.length = 16) (w : World) : (binOp .eql 27 (.agg (pc p).toArray) (.agg (pc p).toArray)).run Try.prog w = .ok (.bool true) w := by
  have := run_eql_bytes (P := Try.prog) w 27 5 16 Try.underlying27 Try.underlying5 size5 p p hp hp
  rw [beq_self_eq_true] at this; exact this

set_option maxRecDepth 100000 in
set_option maxHeartbeats 1000000 in
theorem law5 (f t u : Int) (a : Option Addr) (n c : Nat) (P : Nat → List UInt8) (w : World) (h : PepsAt w a n P) (hP : ∀ i, i < n → (P i).length = 16) (hn : n ≤ maxLen)
    (hf0 : -9223372036854775808 ≤ f) (hf1 : f ≤ 9223372036854775807) : Calls Try.prog 5 #[.int .i64 f, .slice a n c, .int .i64 t, .int .i64 u] w (Law w) := by
  have hb15 := zzb15 f t u a n c w hn
  go_enter Try.func5, Try.ntmps5
  go_wp2_with fail
  refine hb15.mono ?_
  rintro e w ⟨b, rfl, rfl, hg⟩
  clear hb15
  cases b with
  | false =>
    go_wp2
    go_ret
    exact ⟨rfl, Below.refl _ _⟩
  | true =>
  clear hg
  by_cases h1 : (65536 : Int) < (n : Int)
  · go_wp2
    go_ret
    exact ⟨rfl, Below.refl _ _⟩
  have hn' : n ≤ 65536 := by omega
  go_upto_region 6 with fail
  go_cut [38] (fun s wc => w = wc ∧ ∃ b : Bool, s = .bool b ∧ (b = false → 0 < n → f + ((n : Int) - 1) * 60 ≤ 9223372036854775807))
  case first =>
    by_cases h0 : n = 0
    · subst h0
      go_wp2_with fail
      go_meet
      exact ⟨rfl, _, rfl, fun _ h => absurd h (Nat.lt_irrefl _)⟩
    · by_cases hc : 9223372036854775807 - ((n : Int) - 1) * 60 < f
      · go_wp2_with fail
        go_meet
        exact ⟨rfl, true, by simp [*], fun h => by cases h⟩
      · go_wp2_with fail
        go_meet
        exact ⟨rfl, false, by simp [*], fun _ _ => by omega⟩
  case rest =>
  obtain ⟨rfl, b, rfl, hf⟩ := hcut
  cases b with
  | true =>
    go_wp2
    go_ret
    exact ⟨rfl, Below.refl _ _⟩
  | false =>
  replace hf := hf rfl
  have C8 := clone8' a n c P w h hP hn'
  go_wp2_with fail
  refine C8.mono ?_
  rintro e w1 ⟨a1, c1, rfl, hB1, hA1⟩
  clear C8
  have C9 := new9' f a1 n c1 P w1 hA1 hP hn'
  go_wp2_with fail
  refine C9.mono ?_
  rintro e w2 ⟨o, b, rfl, hB2, ho, hb, hob, hO, hA⟩
  clear C9
  have C10 := look10' o f u (some ⟨b, 0, none⟩) n n P w2 hO hA.view hP hn' hf0 hf
  go_wp2_with fail
  refine C10.mono ?_
  rintro e w3 ⟨p1, b1, rfl, hl1, hp1, hb1, hB3⟩
  clear C10
  go_upto_region 11 with (refine wpList_store_mid (by rfl) 28 _ _ (by rfl) w3.heap.size 0 (pc p1).toArray (by rfl) (by rfl) (there16 w3 28 p1 hl1) (size28' hl1) (all_oneCell_toArray (pc_one _)) ?_)
  obtain ⟨w4, hw4⟩ : ∃ w4, (w3.alloc (.cells zero16 28)).setCells w3.heap.size 0 (pc p1) = w4 := ⟨_, rfl⟩
  have hB4 : Below w3.heap.size w3 w4 := hw4 ▸ below16 w3 28 (pc p1)
  have r4 : w4.rangeAt w3.heap.size 0 (pc p1) := hw4 ▸ range16 w3 28 p1 hl1
  unfold zero16 at hw4
  rw [hw4]
  clear hw4
  go_upto_region 12 with (first
    | (refine wpList_load_mid (by rfl) 28 _ (by rfl) w3.heap.size 0 (by rfl) (pc p1) _ r4 Try.underlying28 rfl (size28 hl1) ?_)
    | (refine wpList_store_mid (by rfl) 27 _ _ (by rfl) w4.heap.size 0 (pc p1).toArray (by rfl) (by rfl) (there16 w4 27 p1 hl1) (size27' hl1) (all_oneCell_toArray (pc_one _)) ?_))
  obtain ⟨w5, hw5⟩ : ∃ w5, (w4.alloc (.cells zero16 27)).setCells w4.heap.size 0 (pc p1) = w5 := ⟨_, rfl⟩
  have hB5 : Below w4.heap.size w4 w5 := hw5 ▸ below16 w4 27 (pc p1)
  have r5 : w5.rangeAt w4.heap.size 0 (pc p1) := hw5 ▸ range16 w4 27 p1 hl1
  unfold zero16 at hw5
  rw [hw5]
  clear hw5
  have hB25 := seqB hB3 (seqB hB4 hB5)
  have hO5 := hO.of_block (hB25.block o hO.lt)
  have hA5 := hA.of_block (hB25.block b hA.lt)
  have C14 := forget14 o b f t n P w5 hO5 hA5 hP hob hn' hf0 hf
  go_wp2_with fail
  refine C14.mono ?_
  rintro e w6 ⟨rfl, k, hk, hend, hst, ⟨a6, hO6, hA6⟩, hpz, hs6, hB6, hx6⟩
  clear C14
  have s2o := hO.lt
  have s2b := hA.lt
  have s24 : w2.heap.size ≤ w4.heap.size := (seqB hB3 hB4).size
  have s45 : w4.heap.size < w5.heap.size := rangeAt_lt r5 hl1
  have r6 : w6.rangeAt w4.heap.size 0 (pc p1) := rangeAt_block r5 (hx6 _ (by omega) (by omega))
  have C10 := look10' o (wrap64 (f + (k : Int) * 60)) u a6 (n - k) (n - k) (fun i => P (k + i)) w6 hO6 hA6 (fun i hi => hP _ (by omega)) (by omega) (by unfold wrap64; omega) (fun hx => by
    rw [first_after hf0 hf (by omega)]
    have := hf (by omega)
    omega)
  go_wp2_with fail
  refine C10.mono ?_
  rintro e w7 ⟨p2, b2, rfl, hl2, hp2, hb2, hB7⟩
  clear C10
  have r7 : w7.rangeAt w4.heap.size 0 (pc p1) := rangeAt_block r6 (hB7.block _ (rangeAt_lt r6 hl1))
  go_upto_region 14 with (refine wpList_store_mid (by rfl) 28 _ _ (by rfl) w7.heap.size 0 (pc p2).toArray (by rfl) (by rfl) (there16 w7 28 p2 hl2) (size28' hl2) (all_oneCell_toArray (pc_one _)) ?_)
  obtain ⟨w8, hw8⟩ : ∃ w8, (w7.alloc (.cells zero16 28)).setCells w7.heap.size 0 (pc p2) = w8 := ⟨_, rfl⟩
  have hB8 : Below w7.heap.size w7 w8 := hw8 ▸ below16 w7 28 (pc p2)
  have r8 : w8.rangeAt w7.heap.size 0 (pc p2) := hw8 ▸ range16 w7 28 p2 hl2
  unfold zero16 at hw8
  rw [hw8]
  clear hw8
  go_upto_region 15 with (first
    | (refine wpList_load_mid (by rfl) 28 _ (by rfl) w7.heap.size 0 (by rfl) (pc p2) _ r8 Try.underlying28 rfl (size28 hl2) ?_)
    | (refine wpList_store_mid (by rfl) 27 _ _ (by rfl) w8.heap.size 0 (pc p2).toArray (by rfl) (by rfl) (there16 w8 27 p2 hl2) (size27' hl2) (all_oneCell_toArray (pc_one _)) ?_))
  obtain ⟨w9, hw9⟩ : ∃ w9, (w8.alloc (.cells zero16 27)).setCells w8.heap.size 0 (pc p2) = w9 := ⟨_, rfl⟩
  have hB9 : Below w8.heap.size w8 w9 := hw9 ▸ below16 w8 27 (pc p2)
  have r9 : w9.rangeAt w8.heap.size 0 (pc p2) := hw9 ▸ range16 w8 27 p2 hl2
  unfold zero16 at hw9
  rw [hw9]
  clear hw9
  have hB79 := seqB hB8 hB9
  have q9 : w9.rangeAt w4.heap.size 0 (pc p1) := rangeAt_block r7 (hB79.block _ (rangeAt_lt r7 hl1))
  have hw2 := seqB hB1 hB2
  have hfin : Below w.heap.size w w9 := by
    have x1 := seqB hw2 hB25
    have x2 := x1.trans (hB6 w.heap.size (Nat.le_trans hB1.size ho) (Nat.le_trans hB1.size hb))
    exact seqB x2 (seqB hB7 hB79)
  have HST : ∀ hx : k < n, ¬ f + (k : Int) * 60 < t := fun hx => by have := hst hx; omega
  by_cases htu : t ≤ u
  · have hlk := look_past (P := P) hf0 hf hk hend HST htu
    rw [hlk] at hp2 hb2
    have e1 : p1 = p2 := hp1.symm.trans hp2
    have e2 : b1 = b2 := hb1.symm.trans hb2
    subst e1 e2
    clear hp1 hb1 hp2 hb2 hlk
    have heq := same27 p1 hl1
    cases b1
    all_goals
      go_wp2_with (first
        | (refine wpList_load_midG (by rfl) 27 _ (by rfl) w8.heap.size 0 (by rfl) (pc p1) _ r9 Try.underlying27 rfl (size27 hl1) ?_)
        | (refine wpList_load_midG (by rfl) 27 _ (by rfl) w4.heap.size 0 (by rfl) (pc p1) _ q9 Try.underlying27 rfl (size27 hl1) ?_))
      go_ret
      exact ⟨rfl, hfin⟩
  · have hlk := look_before (P := P) hf0 hf hk HST (u := u) (by omega)
    rw [hlk] at hp2 hb2
    have e1 : nought = p2 := hp2
    have e2 : false = b2 := hb2
    subst e1 e2
    clear hp1 hb1 hp2 hb2 hlk
    have heq := same27 nought rfl
    have r10 := range16n w9 27
    have s10 : (w9.alloc (.cells zero16 27)).rangeAt w8.heap.size 0 (pc nought) := World.rangeAt_alloc r9 _
    have hB10 : Below w9.heap.size w9 (w9.alloc (.cells zero16 27)) := (Below.refl _ _).alloc (Nat.le_refl _) _
    go_wp2_with (first
      | (refine wpList_load_midG (by rfl) 27 _ (by rfl) w8.heap.size 0 (by rfl) (pc nought) _ s10 Try.underlying27 rfl (size27 rfl) ?_)
      | (refine wpList_load_midG (by rfl) 27 _ (by rfl) w9.heap.size 0 (by rfl) (pc nought) _ r10 Try.underlying27 rfl (size27 rfl) ?_))
    go_ret
    exact ⟨rfl, seqB hfin hB10⟩

end Go.Proofs.Qxb6601228a
