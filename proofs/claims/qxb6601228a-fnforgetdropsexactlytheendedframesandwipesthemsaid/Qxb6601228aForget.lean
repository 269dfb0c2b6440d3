/-
  SEAT b6601228a: Forget (14).
-/
import Derived.Test.Qxb6601228aLook
namespace Go.Proofs.Qxb6601228a
open Go.RowKit Go.Deep
set_option linter.unusedVariables false

def zeros (k : Nat) : List Value := List.replicate (k * 16) (.int .u8 0)
theorem zeros_length (k : Nat) : (zeros k).length = k * 16 := by simp [zeros]

theorem zero28 (w : World) : (zeroValue 28).run Try.prog w = .ok (.agg zero16) w := by
  have h := Try.info28
  cases hq : Try.prog.info? 28 with
  | none => simp [hq] at h
  | some i =>
    rw [hq] at h
    simp only [Option.map_some, Option.some.injEq, Prod.mk.injEq] at h
    simp [zeroValue, typeInfo, hq, h.1]

theorem zero16_rep : zero16 = Array.replicate 16 (.int .u8 0) := rfl
theorem zeroCells16 (k : Nat) : (Builtin.zeroCells zero16 k).toList = zeros k := by
  apply List.ext_getElem
  · simp [Builtin.zeroCells, zeros, zero16]
  · intro i h1 h2
    have h3 : i % 16 < 16 := Nat.mod_lt _ (by decide)
    simp [Builtin.zeroCells, zeros, zero16_rep, h3]

theorem clear16 (w : World) (b off k c : Nat) (ht : w.there b off (k * 16)) (ty : TypeId) :
    (Builtin.clear_ #[32] ty #[.slice (some ⟨b, off, none⟩) k c]).run Try.prog w = .ok (.tuple #[]) (w.setCells b off (zeros k)) := by
  have hst := run_storeCells_cells (P := Try.prog) b off (zeros k) 0 w (fun j hj => (ht j (by rw [zeros_length] at hj; exact hj)).1) (fun j hj => (ht j (by rw [zeros_length] at hj; exact hj)).2) (by intro v hv'; rw [List.eq_of_mem_replicate hv']; rfl)
  simp only [Nat.add_zero] at hst
  cases k with
  | zero => simp [Builtin.clear_, run_underlying Try.underlying32, zeros, World.setCells]
  | succ k =>
    have hz : (Builtin.zeroCells (Value.agg zero16).cells (k + 1)).toList = zeros (k + 1) := zeroCells16 (k + 1)
    unfold zero16 at hz
    simp [Builtin.clear_, run_underlying Try.underlying32]
    rw [hz, hst]
    rfl

/-- What Forget leaves: the first k frames gone and wiped; k the first frame that has not ended. -/
structure Forgot (w w' : World) (o b : Nat) (f t : Int) (n k : Nat) (P : Nat → List UInt8) : Prop where
  kn : k ≤ n
  ended : ∀ i : Nat, i < k → f + (i : Int) * 60 < t
  stays : k < n → ¬ f + (k : Int) * 60 < t
  obj : ∃ a, SObj w' o (wrap64 (f + (k : Int) * 60)) a (n - k) (n - k) ∧ PepsAt w' a (n - k) (fun i => P (k + i))
  blk : Peps w' b 28 n n (fun i => if i < k then nought else P i)
  size : w'.heap.size = w.heap.size
  below : ∀ B, B ≤ o → B ≤ b → Below B w w'
  other : ∀ j, j ≠ o → j ≠ b → w'.heap[j]? = w.heap[j]?
def ForgotPost (w : World) (o b : Nat) (f t : Int) (n : Nat) (P : Nat → List UInt8) (e : Ending) (w' : World) : Prop := e = .returned (.tuple #[]) ∧ ∃ k, Forgot w w' o b f t n k P

theorem setCells_zeros_range (w : World) (b off k i : Nat) (hi : i < k) (ht : w.there b off (k * 16)) : (w.setCells b off (zeros k)).rangeAt b (off + i * 16) (pc nought) := fun j v hv => by
  have h := World.rangeAt_setCells_same w b off (zeros k) (by rw [zeros_length]; exact ht)
  have hj : j < 16 := by
    have := (List.getElem?_eq_some_iff.1 hv).1
    rw [pc_length] at this; exact this
  have hv' : v = .int .u8 0 := by
    have : pc nought = List.replicate 16 (.int .u8 0) := rfl
    rw [this, List.getElem?_replicate] at hv
    simp [hj] at hv; exact hv.symm
  subst hv'
  have h2 := h (i * 16 + j) (.int .u8 0) (by rw [zeros, List.getElem?_replicate, if_pos (by omega)])
  rw [← Nat.add_assoc] at h2; exact h2

theorem forgot_end {o b n k : Nat} {f t : Int} {P : Nat → List UInt8} {w : World} (hO : SObj w o f (some ⟨b, 0, none⟩) n n) (hA : Peps w b 28 n n P) (hP : ∀ i, i < n → (P i).length = 16) (hob : o ≠ b)
    (hk : k ≤ n) (h1 : ∀ i : Nat, i < k → f + (i : Int) * 60 < t) (h2 : k < n → ¬ f + (k : Int) * 60 < t) (a : Option Addr) (ha : k < n → a = some ⟨b, k * 16, none⟩) (x : Int) (hx : x = wrap64 (f + (k : Int) * 60)) :
    ForgotPost w o b f t n P (.returned (.tuple #[])) (((w.setCells b 0 (zeros k)).setCell ⟨o, 1, none⟩ (.slice a (n - k) (n - k))).setCell ⟨o, 0, none⟩ (.int .i64 x)) := by
  have hth : w.there b 0 (k * 16) := hA.there (by omega)
  obtain ⟨C, hb1, hb2⟩ := hA.blk
  obtain ⟨C', hb3, hb4⟩ := setCells_same b (zeros k) 0 w C 28 (0, 0) hb1
  have eo : (w.setCells b 0 (zeros k)).heap[o]? = some (.cells #[.int .i64 f, .slice (some ⟨b, 0, none⟩) n n] 38 (0, 0)) := (setCells_other b (zeros k) 0 w o hob).trans hO
  have eb : (((w.setCells b 0 (zeros k)).setCell ⟨o, 1, none⟩ (.slice a (n - k) (n - k))).setCell ⟨o, 0, none⟩ (.int .i64 x)).heap[b]? = (w.setCells b 0 (zeros k)).heap[b]? := by
    rw [Below.heap_setCell _ _ _ _ (fun e => hob e.symm), Below.heap_setCell _ _ _ _ (fun e => hob e.symm)]
  have hpz : Peps (w.setCells b 0 (zeros k)) b 28 n n (fun i => if i < k then nought else P i) := by
    refine ⟨⟨C', hb3, by omega⟩, fun i hi => ?_⟩
    by_cases e : i < k
    · rw [if_pos e]
      have := setCells_zeros_range w b 0 k i e hth
      rw [Nat.zero_add] at this; exact this
    · rw [if_neg e]
      exact World.rangeAt_setCells_apart (hA.at_ i hi) _ _ _ (.inr (.inr (by rw [zeros_length]; omega)))
  have hpe := hpz.of_block eb
  refine ⟨rfl, k, hk, h1, h2, ⟨a, ?_, fun hn => ?_⟩, hpe, ?_, fun B hB1 hB2 => ?_, fun j hj1 hj2 => ?_⟩
  · subst hx
    simp [SObj, World.setCell, Array.getElem?_modify, eo]
  · refine ⟨b, k * 16, ha (by omega), fun i hi => ?_⟩
    have := hpe.at_ (k + i) (by omega)
    rw [if_neg (by omega), Nat.add_mul] at this; exact this
  · simp [World.setCell, setCells_size]
  · have h0 := below_setCells (Below.refl B w) hB2 0 (zeros k)
    exact (h0.setCell hB1 _).setCell hB1 _
  · rw [Below.heap_setCell _ _ _ _ hj1, Below.heap_setCell _ _ _ _ hj1, setCells_other b (zeros k) 0 w j hj2]

set_option maxHeartbeats 400000 in
theorem forget14 (o b : Nat) (f t : Int) (n : Nat) (P : Nat → List UInt8) (w : World) (hO : SObj w o f (some ⟨b, 0, none⟩) n n) (hA : Peps w b 28 n n P) (hP : ∀ i, i < n → (P i).length = 16) (hob : o ≠ b) (hn : n ≤ 65536)
    (hf0 : -9223372036854775808 ≤ f) (hf : 0 < n → f + ((n : Int) - 1) * 60 ≤ 9223372036854775807) : Calls Try.prog 14 #[.pointer (some ⟨o, 0, none⟩), .int .i64 t] w (ForgotPost w o b f t n P) := by
  have c0 := hO.c0
  have c1 := hO.c1
  go_enter Try.func14, Try.ntmps14
  go_wp2
  go_loopg [4] n (fun g i wr => w = wr ∧ ∃ k : Nat, k ≤ n ∧ g = n - k ∧ i = .int .i64 k ∧ ∀ j : Nat, j < k → f + (j : Int) * 60 < t)
  case atStart => exact ⟨rfl, 0, Nat.zero_le _, rfl, rfl, fun j hj => by omega⟩
  case round =>
    obtain ⟨rfl, k, hk, rfl, rfl, hj⟩ := hrel
    by_cases hlt : k < n
    · have hl := hf (by omega)
      have wr1 : wrap64 (f + (k : Int) * 60) = f + (k : Int) * 60 := by unfold wrap64; omega
      by_cases hc : f + (k : Int) * 60 < t
      · have HJ : Hid (∀ j : Nat, j < k → f + (j : Int) * 60 < t) := hj
        clear hj
        go_wp2
        go_roundg (n - (k + 1))
        case measure => omega
        case rel =>
          refine ⟨rfl, k + 1, by omega, rfl, by go_num, fun j hjk => ?_⟩
          by_cases e : j = k
          · subst e; exact hc
          · exact HJ.out j (by omega)
      · have HJ : Hid (∀ j : Nat, j < k → f + (j : Int) * 60 < t) := hj
        clear hj
        obtain ⟨wz, hwz⟩ : ∃ wz, w.setCells b 0 (zeros k) = wz := ⟨_, rfl⟩
        have hcl := clear16 w b 0 k n (hA.there (by omega))
        rw [hwz] at hcl
        have hOz : SObj wz o f (some ⟨b, 0, none⟩) n n := hwz ▸ hO.of_block (setCells_other b (zeros k) 0 w o hob)
        have d0 := hOz.c0
        have d1 := hOz.c1
        have z0 := frozen_of_row wz o 0 _ _ hOz
        have z1 := frozen_of_row wz o 1 _ _ hOz
        have hkn : ¬ n = k := by omega
        go_wp2
        refine bodyPost_end (results_none rfl _ _ _) rfl ?_
        subst hwz
        exact forgot_end hO hA hP hob hk HJ.out (fun _ => by omega) _ (fun _ => rfl) _ wr1.symm
    · have hkn : n = k := by omega
      subst hkn
      have HJ : Hid (∀ j : Nat, j < n → f + (j : Int) * 60 < t) := hj
      clear hj
      obtain ⟨wz, hwz⟩ : ∃ wz, w.setCells b 0 (zeros n) = wz := ⟨_, rfl⟩
      have hcl := clear16 w b 0 n n (hA.there (by omega))
      rw [hwz] at hcl
      have hOz : SObj wz o f (some ⟨b, 0, none⟩) n n := hwz ▸ hO.of_block (setCells_other b (zeros n) 0 w o hob)
      have d0 := hOz.c0
      have d1 := hOz.c1
      have z0 := frozen_of_row wz o 0 _ _ hOz
      have z1 := frozen_of_row wz o 1 _ _ hOz
      go_wp2
      refine bodyPost_end (results_none rfl _ _ _) rfl ?_
      subst hwz
      have hend := forgot_end (t := t) hO hA hP hob (Nat.le_refl n) HJ.out (fun h => absurd h (Nat.lt_irrefl _)) (some ⟨b, 0, none⟩) (fun h => absurd h (Nat.lt_irrefl _)) _ rfl
      rw [Nat.sub_self] at hend
      exact hend
end Go.Proofs.Qxb6601228a
