/-
  SEAT b6000751a: setSuffix (38): an append of a string's bytes into the own row, where there is room.
-/
import Derived.Test.Qxb6000751aWord
namespace Go.Proofs.Qxb6000751a
open Go.RowKit Go.Deep
set_option linter.unusedVariables false

theorem rowIs_setCells {b : Nat} {t : TypeId} {c : Nat} : ∀ (vs : List Value) (q : Nat) (w : World) (f : Nat → Value), w.rowIs b t c f →
    ∃ g, (w.setCells b q vs).rowIs b t c g ∧ (∀ i, i < q → g i = f i) ∧ ∀ j (h : j < vs.length), g (q + j) = vs[j]
  | [], q, w, f, hr => ⟨f, hr, fun _ _ => rfl, fun j h => by cases h⟩
  | v :: vs, q, w, f, hr => by
    obtain ⟨g, h1, h2, h3⟩ := rowIs_setCells vs (q + 1) (w.setCell ⟨b, q, none⟩ v) _ (hr.set q v)
    refine ⟨g, h1, fun i hi => ?_, fun j hj => ?_⟩
    · rw [h2 i (by omega), if_neg (by omega)]
    · cases j with
      | zero => rw [Nat.add_zero, h2 q (by omega), if_pos rfl]; rfl
      | succ j =>
        have := h3 j (by simpa using hj)
        rw [show q + (j + 1) = q + 1 + j by omega, this]; rfl
theorem kept_setCells (o b : Nat) : ∀ (vs : List Value) (q : Nat) (w : World), Kept o b w (w.setCells b q vs)
  | [], q, w => Kept.refl _ _ _
  | v :: vs, q, w => ((Kept.refl o b w).setCell (.inr rfl) v).trans (kept_setCells o b vs (q + 1) _)

/-- What an append into a row with room leaves: the first n cells as they were, then the new ones. -/
def App (w w1 : World) (b c n : Nat) (f : Nat → Value) (xs : List Int) : Prop :=
  (∃ g, w1.rowIs b 5 c g ∧ (∀ i, i < n → g i = f i) ∧ ∀ j, j < xs.length → g (n + j) = .int .u8 (xs.getD j 0)) ∧ ∀ o, Kept o b w w1

theorem app_setCells {w : World} {b c n : Nat} {f : Nat → Value} (xs : List Int) (hr : w.rowIs b 5 c f) : App w (w.setCells b n (xs.map (Value.int .u8))) b c n f xs := by
  obtain ⟨g, h1, h2, h3⟩ := rowIs_setCells (xs.map (Value.int .u8)) n w f hr
  refine ⟨⟨g, h1, h2, fun j hj => ?_⟩, fun o => kept_setCells o b _ _ _⟩
  rw [h3 j (by simpa using hj)]
  simp [List.getD, hj]

theorem byteCells_nums (s : ByteArray) : byteCells s = (nums s).map (Value.int .u8) := by simp [byteCells, nums]

theorem run_append_in (w : World) (tx ty : TypeId) (x : Value) (xs : List Int) (hs : Src Try.prog 1 tx x xs.length (xs.map (Value.int .u8)) w) (b n c : Nat) (f : Nat → Value) (hr : w.rowIs b 5 c f) (hroom : n + xs.length ≤ c) :
    (Builtin.append_ #[22, tx] ty #[.slice (some ⟨b, 0, none⟩) n c, x]).run Try.prog w = .ok (.slice (some ⟨b, 0, none⟩) (n + xs.length) c) (w.setCells b n (xs.map (Value.int .u8))) := by
  obtain ⟨i, hi, hz0, hz1, hz2⟩ := info_parts Try.info5
  have := run_append_room_src (P := Try.prog) w 22 tx ty 5 i Try.underlying22 hi b 0 n c x xs.length (xs.map (Value.int .u8)) (by rw [hz1]; exact hs) hroom
    (fun j hj => by rw [hz1, Nat.zero_add, Nat.mul_one, hr.cell (by simp at hj; omega)]; rfl) (fun j hj => hr.frozen _)
  rw [hz1, Nat.zero_add, Nat.mul_one] at this
  exact this

theorem wp_append_in {o : Oper} {a : Act} {w : World} {K : Act → World → Prop} {Q : Exit → Act → World → Prop} (s x : Operand) (tx : TypeId)
    (ho : o.op = .call { callee := .builtin .append, args := #[s, x], argTypes := #[22, tx] }) (v : Value) (xs : List Int) (b n c : Nat) (f : Nat → Value)
    (hs : a.eval s = .slice (some ⟨b, 0, none⟩) n c) (hx : a.eval x = v) (hsrc : Src Try.prog 1 tx v xs.length (xs.map (Value.int .u8)) w) (hr : w.rowIs b 5 c f) (hroom : n + xs.length ≤ c)
    (h : ∀ w1, App w w1 b c n f xs → K (a.put o.dst (.slice (some ⟨b, 0, none⟩) (n + xs.length) c)) w1) : o.wp Try.prog a w K Q := by
  have hr' := run_append_in w tx o.type v xs hsrc b n c f hr hroom
  unfold Oper.wp execOp
  simp only [ho, resolve, invoke, builtin, Sem.run_bind, Sem.run_pure, Result.andThen_ok, List.map_toArray, List.map_cons, List.map_nil, hs, hx, hr']
  exact h _ (app_setCells xs hr)
/-- At a plain region's list. -/
theorem wpList_append_in {ops : Array Oper} {rest : List Oper} {o : Oper} {a : Act} {w : World} {Q : Exit → Act → World → Prop} (hgd : o.guard = none) (s x : Operand) (tx : TypeId)
    (ho : o.op = .call { callee := .builtin .append, args := #[s, x], argTypes := #[22, tx] }) (v : Value) (xs : List Int) (b n c : Nat) (f : Nat → Value)
    (hs : a.eval s = .slice (some ⟨b, 0, none⟩) n c) (hx : a.eval x = v) (hsrc : Src Try.prog 1 tx v xs.length (xs.map (Value.int .u8)) w) (hr : w.rowIs b 5 c f) (hroom : n + xs.length ≤ c)
    (h : ∀ w1, App w w1 b c n f xs → wpList Try.prog ops Q rest (a.put o.dst (.slice (some ⟨b, 0, none⟩) (n + xs.length) c)) w1) : wpList Try.prog ops Q (o :: rest) a w :=
  wpList_plain hgd fun _ hK => wp_append_in s x tx ho v xs b n c f hs hx hsrc hr hroom fun w1 h1 => hK _ _ (h w1 h1)
/-- At a step of a region that draws its order. -/
theorem step_append_in {ops : Array Oper} {o : Oper} {a : Act} {w : World} {K : Act → World → Prop} {Q : Exit → Act → World → Prop} {E : Prop} (hgd : o.guard = none) (s x : Operand) (tx : TypeId)
    (ho : o.op = .call { callee := .builtin .append, args := #[s, x], argTypes := #[22, tx] }) (v : Value) (xs : List Int) (b n c : Nat) (f : Nat → Value)
    (hs : a.eval s = .slice (some ⟨b, 0, none⟩) n c) (hx : a.eval x = v) (hsrc : Src Try.prog 1 tx v xs.length (xs.map (Value.int .u8)) w) (hr : w.rowIs b 5 c f) (hroom : n + xs.length ≤ c)
    (h : ∀ w1, App w w1 b c n f xs → K (a.put o.dst (.slice (some ⟨b, 0, none⟩) (n + xs.length) c)) w1) :
    if Region.wanted o (yielded ops a.tmps) = true then Oper.wp Try.prog o a w K Q else E := by
  have hw : Region.wanted o (yielded ops a.tmps) = true := by simp [Region.wanted, hgd]
  rw [if_pos hw]
  exact wp_append_in s x tx ho v xs b n c f hs hx hsrc hr hroom h

theorem src_str (w : World) (s : ByteArray) : Src Try.prog 1 9 (.string s) (nums s).length ((nums s).map (Value.int .u8)) w := by
  rw [← byteCells_nums, nums_length]
  exact Src.ofString w Try.underlying9 s

/-! ### The word behind an append and a store -/
theorem SOb.set {w : World} {o : Nat} {a : Option Addr} {n c : Nat} (h : SOb w o a n c) (a' : Option Addr) (n' c' : Nat) : SOb (w.setCell ⟨o, 0, none⟩ (.slice a' n' c')) o a' n' c' := by
  unfold SOb at h ⊢
  simp [World.setCell, Array.getElem?_modify, h]
theorem lz_lt {l xs : List Int} {n i : Nat} (hn : n ≤ l.length) (hi : i < n) : lz (l.take n ++ xs) i = lz l i := by
  simp only [lz, List.getD]
  rw [List.getElem?_append_left (by rw [List.length_take]; omega), List.getElem?_take_of_lt hi]
theorem lz_ge {l xs : List Int} {n j : Nat} (hn : n ≤ l.length) : lz (l.take n ++ xs) (n + j) = xs.getD j 0 := by
  simp only [lz, List.getD]
  rw [List.getElem?_append_right (by rw [List.length_take]; omega), List.length_take]
  congr 2; omega

theorem Wd.app {w w1 : World} {o b c n : Nat} {l xs : List Int} {f : Nat → Value} (h : Wd w o b c l) (hf : ∀ i, i < l.length → f i = .int .u8 (lz l i)) (hn : n ≤ l.length) (hroom : n + xs.length ≤ c) (hA : App w w1 b c n f xs) :
    Wd (w1.setCell ⟨o, 0, none⟩ (.slice (some ⟨b, 0, none⟩) (n + xs.length) c)) o b c (l.take n ++ xs) ∧ Kept o b w (w1.setCell ⟨o, 0, none⟩ (.slice (some ⟨b, 0, none⟩) (n + xs.length) c)) := by
  obtain ⟨⟨g, hg, g1, g2⟩, hk⟩ := hA
  have hlen : (l.take n ++ xs).length = n + xs.length := by rw [List.length_append, List.length_take]; omega
  have hob : SOb w1 o (some ⟨b, 0, none⟩) l.length c := h.ob.of_block ((hk (o + b + 1)).block o h.ob.lt (by omega) h.ne)
  refine ⟨⟨?_, h.ne, by omega, g, hg.setOther (fun e => h.ne e.symm) _, fun i hi => ?_⟩, (hk o).setCell (.inl rfl) _⟩
  · rw [hlen]; exact hob.set _ _ _
  · by_cases e : i < n
    · rw [g1 i e, hf i (by omega), lz_lt hn e]
    · obtain ⟨j, rfl⟩ : ∃ j, i = n + j := ⟨i - n, by omega⟩
      rw [g2 j (by omega), lz_ge hn]

def SetPost (o b c : Nat) (l : List Int) (w : World) (e : Ending) (w' : World) : Prop := e = .returned (.tuple #[]) ∧ Wd w' o b c l ∧ Kept o b w w'

set_option maxRecDepth 100000 in
set_option maxHeartbeats 1000000 in
theorem set38_at {w : World} {o b c : Nat} {l : List Int} (k m : Nat) (old new : ByteArray) (hm : old.size = m) (hW : Wd w o b c l) (hk : l.length = k + m) (hn : l.length ≤ 1048576) (ho : m ≤ 16) (h2 : new.size ≤ m) :
    Calls Try.prog 38 #[.pointer (some ⟨o, 0, none⟩), .string old, .string new] w (SetPost o b c (l.take k ++ nums new) w) := by
  obtain ⟨f, hr, hf⟩ := hW.row
  have hO := hW.ob
  have hle := hW.le
  rw [hk] at hO hle
  have hkn : k ≤ l.length := by omega
  have hroom : k + (nums new).length ≤ c := by rw [nums_length]; omega
  have fin : ∀ w1, App w.drew w1 b c k f (nums new) → SetPost o b c (l.take k ++ nums new) w (.returned (.tuple #[])) (w1.setCell ⟨o, 0, none⟩ (.slice (some ⟨b, 0, none⟩) (k + (nums new).length) c)) := fun w1 hA => by
    have := hW.drew.app hf hkn hroom hA
    exact ⟨rfl, this.1, (Kept.refl o b w).drew.trans this.2⟩
  have hrD : w.drew.rowIs b 5 c f := hr.drew
  have H := stem39 (o := o) (some ⟨b, 0, none⟩) (k + m) c old w.drew hO (by omega) (by omega)
  have h0 := hO.c0
  have hne := hW.ne
  have fz : w.frozen? ⟨o, 0, none⟩ = false := by unfold SOb at hO; simp [World.frozen?, hO]
  have hlt := hO.lt
  have e1 : ((k + m : Nat) : Int) - (old.size : Int) = (k : Int) := by omega
  rw [e1] at H
  have n6 : (k : Int) ≤ (c : Int) := by omega
  have hob : ∀ w1, App w.drew w1 b c k f (nums new) → w1.cell? ⟨o, 0, none⟩ = some (.slice (some ⟨b, 0, none⟩) (k + m) c) ∧ w1.frozen? ⟨o, 0, none⟩ = false := fun w1 hA => by
    have hb := (hA.2 (o + b + 1)).block o hlt (by omega) hne
    exact ⟨by rw [World.cell?_of_block (w := w.drew) hb]; exact h0, by rw [World.frozen?_of_block (w := w.drew) hb]; exact fz⟩
  clear hO hW hf hr
  go_enter Try.func38, Try.ntmps38
  go_wp2_with fail
  go_region_law (first
    | (refine step_append_in (by rfl) _ _ 9 (by rfl) (.string new) (nums new) b k c f (by rfl) (by rfl) (src_str _ _) hrD hroom ?_; intro w1 hA
       obtain ⟨hq0, hq1⟩ := hob w1 hA)
    | (go_simp; go_wp2_with (refine H.mono ?_; rintro e w' ⟨rfl, rfl⟩)))
  all_goals (go_wp2; refine bodyPost_end (results_none rfl _ _ _) rfl ?_; exact fin _ (by assumption))

/-- The word with its suffix of m letters replaced. -/
def setSuf (l : List Int) (m : Nat) (new : ByteArray) : List Int := l.take (l.length - m) ++ nums new
theorem set38 {w : World} {o b c : Nat} {l : List Int} (old new : ByteArray) (hW : Wd w o b c l) (hn : l.length ≤ 1048576) (ho : old.size ≤ 16) (h1 : old.size ≤ l.length) (h2 : new.size ≤ old.size) :
    Calls Try.prog 38 #[.pointer (some ⟨o, 0, none⟩), .string old, .string new] w (SetPost o b c (setSuf l old.size new) w) :=
  set38_at (l.length - old.size) old.size old new rfl hW (by omega) hn ho h2
end Go.Proofs.Qxb6000751a
