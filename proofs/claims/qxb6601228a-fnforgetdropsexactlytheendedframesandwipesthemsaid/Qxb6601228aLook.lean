/-
  SEAT b6601228a: ZZNewSchedule (9), Lookup (10).
-/
import Derived.Test.Qxb6601228aClone
import Derived.Laws.ResultCell
import Derived.Deep.Cut
namespace Go.Proofs.Qxb6601228a
open Go.RowKit Go.Deep
set_option linter.unusedVariables false

set_option maxHeartbeats 400000 in
theorem new9 (f : Int) (a : Option Addr) (n c : Nat) (P : Nat → List UInt8) (w : World) (h : PepsAt w a n P) (hP : ∀ i, i < n → (P i).length = 16) (hn : n ≤ 65536) :
    Calls Try.prog 9 #[.int .i64 f, .slice a n c] w fun e w' => e = .returned (.pointer (some ⟨w.heap.size + 1, 0, none⟩)) ∧ Below w.heap.size w w' ∧ w'.heap.size = w.heap.size + 2 ∧ Peps w' w.heap.size 28 n n P ∧ w'.heap[w.heap.size + 1]? = some (.cells #[.int .i64 f, .slice (some ⟨w.heap.size, 0, none⟩) n n] 38 (0, 0)) := by
  have hmk := make16 32 28 Try.underlying32 Try.info28 n hn
  go_enter Try.func9, Try.ntmps9
  go_wp2
  clear hmk
  go_loopg [6] n (fun g i wr => ∃ k : Nat, k ≤ n ∧ g = n - k ∧ i = .int .i64 k ∧ Below w.heap.size w wr ∧ wr.heap.size = w.heap.size + 1 ∧ Peps wr w.heap.size 28 n k P)
  case atStart => exact ⟨0, Nat.zero_le _, rfl, rfl, (Below.refl _ _).alloc (Nat.le_refl _) _, by simp, peps_made w 28 n P⟩
  case round =>
    obtain ⟨k, hk, rfl, rfl, hB, hs, hr⟩ := hrel
    by_cases hlt : k < n
    · obtain ⟨b, off, hx, hc⟩ := h (by omega)
      cases hx
      have hrg : wr.rangeAt b (off + k * 16) (pc (P k)) := rangeAt_block (hc k hlt) (hB.block b (rangeAt_lt (hc k hlt) (hP k hlt)))
      have hpk := hP k hlt
      have hth : wr.there w.heap.size (k * 16) (pc (P k)).toArray.size := hr.there (by rw [List.size_toArray, pc_length, hpk]; omega)
      have HS : Hid (wr.heap.size = w.heap.size + 1) := hs
      clear hc h hs
      go_wp2_with (first
        | (refine wpList_load_mid (by rfl) 27 _ (by rfl) b (off + k * 16) (by rfl) (pc (P k)) _ hrg Try.underlying27 rfl (size27 hpk) ?_)
        | (refine wpList_store_mid (by rfl) 28 _ _ (by rfl) w.heap.size (k * 16) (pc (P k)).toArray (by rfl) (by rfl) hth (size28' hpk) (all_oneCell_toArray (pc_one _)) ?_))
      go_roundg (n - (k + 1))
      case measure => omega
      case rel => exact ⟨k + 1, by omega, rfl, by go_num, below_setCells hB (Nat.le_refl _) _ _, by rw [setCells_size]; exact HS.out, hr.step hlt hP⟩
    · have : k = n := by omega
      subst this
      have HS : Hid (wr.heap.size = w.heap.size + 1) := hs
      clear hs
      go_wp2
      go_ret
      have e := HS.out
      refine ⟨by rw [e]; rfl, hB.alloc (by omega) _, by simp [e], hr.of_block (blk_alloc_lt _ _ _ (by omega)), ?_⟩
      rw [← e]; exact blk_alloc_new _ _

/-- A schedule's object: the first frame, and the slice of peppers. -/
def SObj (w : World) (o : Nat) (f : Int) (a : Option Addr) (n c : Nat) : Prop := w.heap[o]? = some (.cells #[.int .i64 f, .slice a n c] 38 (0, 0))
theorem SObj.c0 {w : World} {o : Nat} {f : Int} {a : Option Addr} {n c : Nat} (h : SObj w o f a n c) : w.cell? ⟨o, 0, none⟩ = some (.int .i64 f) := by
  rw [cell_of_row w o 0 _ _ _ h]; rfl
theorem SObj.c1 {w : World} {o : Nat} {f : Int} {a : Option Addr} {n c : Nat} (h : SObj w o f a n c) : w.cell? ⟨o, 1, none⟩ = some (.slice a n c) := by
  rw [cell_of_row w o 1 _ _ _ h]; rfl
theorem SObj.lt {w : World} {o : Nat} {f : Int} {a : Option Addr} {n c : Nat} (h : SObj w o f a n c) : o < w.heap.size := (Array.getElem?_eq_some_iff.1 h).1
theorem SObj.of_block {w w' : World} {o : Nat} {f : Int} {a : Option Addr} {n c : Nat} (h : SObj w o f a n c) (e : w'.heap[o]? = w.heap[o]?) : SObj w' o f a n c := e.trans h

theorem below_drew {B : Nat} {a w : World} (h : Below B a w) : Below B a w.drew := ⟨h.os, h.tape, h.output, h.size, h.block⟩
/-- What Lookup answers. -/
def look (f : Int) (n : Nat) (P : Nat → List UInt8) (t : Int) : Option (List UInt8) :=
  if n = 0 ∨ t < f then none else if f + ((n : Int) - 1) * 60 < t ∨ (t - f) % 60 ≠ 0 then none else some (P ((t - f) / 60).toNat)
def LookPost (w : World) (r : Option (List UInt8)) (e : Ending) (w' : World) : Prop := e = .returned (.tuple #[.agg (pc (r.getD nought)).toArray, .bool r.isSome]) ∧ Below w.heap.size w w'

theorem look_results (tmps : Array Value) (s : Nat) (b : Bool) (h4 : tmps.getD 4 undef = .pointer (some ⟨s, 0, none⟩)) (h5 : tmps.getD 5 undef = .bool b) (p : List UInt8) (hp : p.length = 16) (W : World) (hR : W.rangeAt s 0 (pc p)) :
    (results Try.f10 tmps).run Try.prog W = .ok (.tuple #[.agg (pc p).toArray, .bool b]) W := by
  rw [results_cell_tmp rfl, h4, h5]
  simp only [asAddr, Result.andThen]
  have hl := run_loadVar_mid (P := Try.prog) W s 0 28 (pc p) _ hR Try.underlying28 rfl (size28 hp)
  simp [hl]

theorem cell_setCells_far (w : World) (b o : Nat) (vs : List Value) (k j : Nat) (h : k ≠ b) : (w.setCells b o vs).cell? ⟨k, j, none⟩ = w.cell? ⟨k, j, none⟩ := World.cell?_of_block (setCells_other b vs o w k h)

set_option maxHeartbeats 400000 in
theorem look10 (o : Nat) (f t : Int) (a : Option Addr) (n c : Nat) (P : Nat → List UInt8) (w : World) (hO : SObj w o f a n c) (hA : PepsAt w a n P) (hP : ∀ i, i < n → (P i).length = 16) (hn : n ≤ 65536)
    (hf0 : -9223372036854775808 ≤ f) (hf : 0 < n → f + ((n : Int) - 1) * 60 ≤ 9223372036854775807) : Calls Try.prog 10 #[.pointer (some ⟨o, 0, none⟩), .int .i64 t] w (LookPost w (look f n P t)) := by
  go_enter Try.func10, Try.ntmps10
  go_upto_region 1 with fail
  obtain ⟨w1, hw1⟩ : ∃ w1, w1 = w.alloc (.cells zero16 28) := ⟨_, rfl⟩
  have hB : Below w.heap.size w w1 := hw1 ▸ (Below.refl _ _).alloc (Nat.le_refl _) _
  have hO1 : SObj w1 o f a n c := hO.of_block (hB.block o hO.lt)
  have c0 := hO1.c0
  have c1 := hO1.c1
  have hR : Peps w1 w.heap.size 28 1 1 (fun _ => nought) := ⟨⟨zero16, hw1 ▸ blk_alloc_new _ _, rfl⟩, fun i hi => by
    have : i = 0 := by omega
    subst this; exact World.rangeAt_of_block (hw1 ▸ blk_alloc_new _ _) 0 16⟩
  have hw2 : w.alloc (.cells zero16 28) = w1 := hw1.symm
  unfold zero16 at hw2
  rw [hw2]
  clear hw2 hw1
  have hth : w1.there w.heap.size 0 (pc nought).toArray.size := hR.there (by decide)
  have hN := World.rangeAt_setCells_same w1 w.heap.size 0 (pc nought) hth
  have hBN := below_setCells hB (Nat.le_refl _) 0 (pc nought)
  by_cases h0 : n = 0
  · go_wp2_with (first
        | (refine wpList_store_mid (by rfl) 28 _ _ (by rfl) w.heap.size 0 (pc nought).toArray (by rfl) (by rfl) hth (size28' rfl) (all_oneCell_toArray (pc_one _)) ?_))
    refine bodyPost_ret (look_results _ w.heap.size false rfl rfl nought rfl _ hN) rfl ⟨?_, hBN⟩
    simp [look, h0]
  · by_cases h1 : t < f
    · go_wp2_with (first
        | (refine wpList_store_mid (by rfl) 28 _ _ (by rfl) w.heap.size 0 (pc nought).toArray (by rfl) (by rfl) hth (size28' rfl) (all_oneCell_toArray (pc_one _)) ?_))
      refine bodyPost_ret (look_results _ w.heap.size false rfl rfl nought rfl _ hN) rfl ⟨?_, hBN⟩
      simp [look, h1]
    · have hlast := hf (by omega)
      clear hN hBN hth
      go_wp2_with fail
      go_quiet (fail)
      obtain ⟨w2, hw2⟩ : ∃ w2, w1.drewN nq = w2 := ⟨_, rfl⟩
      have hB2 : Below w.heap.size w w2 := hw2 ▸ below_drewN hB nq
      have hO2 : SObj w2 o f a n c := hw2 ▸ hO1
      have hR2 : Peps w2 w.heap.size 28 1 1 (fun _ => nought) := hw2 ▸ (Peps.of_block (w' := w1.drewN nq) hR rfl)
      have d0 := hO2.c0
      have d1 := hO2.c1
      have hth : w2.there w.heap.size 0 (pc nought).toArray.size := hR2.there (by decide)
      have hN := World.rangeAt_setCells_same w2 w.heap.size 0 (pc nought) hth
      have hBN := below_setCells hB2 (Nat.le_refl _) 0 (pc nought)
      rw [hw2]
      clear hw2 c0 c1 hO1 hR hB
      by_cases h2 : f + ((n : Int) - 1) * 60 < t
      · go_wp2_with (first
        | (refine wpList_store_mid (by rfl) 28 _ _ (by rfl) w.heap.size 0 (pc nought).toArray (by rfl) (by rfl) hth (size28' rfl) (all_oneCell_toArray (pc_one _)) ?_))
        refine bodyPost_ret (look_results _ w.heap.size false rfl rfl nought rfl _ hN) rfl ⟨?_, hBN⟩
        simp [look, h2]
      · by_cases h3 : (t - f) % 60 = 0
        · obtain ⟨b, off, rfl, hr⟩ := hA (by omega)
          obtain ⟨q, hq⟩ : ∃ q : Nat, (t - f) / 60 = (q : Int) := ⟨((t - f) / 60).toNat, by omega⟩
          have hqn : q < n := by omega
          have hqr : w2.rangeAt b (off + q * 16) (pc (P q)) := rangeAt_block (hr q hqn) (hB2.block b (rangeAt_lt (hr q hqn) (hP q hqn)))
          have hbs : b ≠ w.heap.size := by have := rangeAt_lt (hr q hqn) (hP q hqn); omega
          have hos : o ≠ w.heap.size := by have := hO.lt; omega
          have hu28 := Try.underlying28
          have hi28 := size28 (hP q hqn)
          have hth16 : w2.there w.heap.size 0 (pc (P q)).length := by rw [pc_length, hP q hqn]; exact hth
          have hq' : (t - f).tdiv 60 = (q : Int) := by rw [Int.tdiv_eq_ediv_of_nonneg (by omega)]; exact hq
          have i0 : 0 ≤ (q : Int) := by omega
          have i1 : (q : Int) < (n : Int) := by omega
          have wr1 : IntKind.i64.wrap (t - f) = t - f := by rw [IntKind.wrap_i64]; omega
          have wr2 : IntKind.i64.wrap (q : Int) = (q : Int) := by rw [IntKind.wrap_i64]; omega
          have j0 : 0 ≤ (t - f) / 60 := by omega
          have j1 : (t - f) / 60 < (n : Int) := by omega
          have ones := pc_one (P q)
          have hl16 : (pc (P q)).length = 16 := by rw [pc_length, hP q hqn]
          clear hth hN hBN hr
          go_wp2_with fail
          go_region_held3 (fun v => v.cell? ⟨o, 0, none⟩ = some (.int .i64 f) ∧ v.cell? ⟨o, 1, none⟩ = some (.slice (some ⟨b, off, none⟩) n c) ∧ v.rangeAt b (off + q * 16) (pc (P q)) ∧ v.there w.heap.size 0 (pc (P q)).length) ((go_split_ands; (simp only [World.rangeAt_drew, World.there_drew] at *); (repeat' constructor) <;> first
              | assumption
              | (apply World.there_setCells; assumption)
              | (refine World.rangeAt_setCells_apart (by assumption) _ _ _ (by omega))
              | (rw [cell_setCells_far _ _ _ _ _ _ (by assumption)]; first | assumption | go_keep)
              | go_keep)) (fail)
          go_wp2
          refine bodyPost_ret (look_results _ w.heap.size true rfl rfl (P q) (hP q hqn) _ (World.rangeAt_setCells_same w2.drew w.heap.size 0 (pc (P q)) (by simpa using hth16))) rfl ⟨?_, below_setCells (below_drew hB2) (Nat.le_refl _) 0 _⟩
          have hq2 : ((t - f) / 60).toNat = q := by omega
          have e1 : ¬ (n = 0 ∨ t < f) := by omega
          have e2 : ¬ (f + ((n : Int) - 1) * 60 < t ∨ (t - f) % 60 ≠ 0) := by omega
          rw [look, if_neg e1, if_neg e2, hq2]
          rfl
        · go_wp2_with (first
            | (refine wpList_store_mid (by rfl) 28 _ _ (by rfl) w.heap.size 0 (pc nought).toArray (by rfl) (by rfl) hth (size28' rfl) (all_oneCell_toArray (pc_one _)) ?_))
          refine bodyPost_ret (look_results _ w.heap.size false rfl rfl nought rfl _ hN) rfl ⟨?_, hBN⟩
          simp [look, h3]
end Go.Proofs.Qxb6601228a
