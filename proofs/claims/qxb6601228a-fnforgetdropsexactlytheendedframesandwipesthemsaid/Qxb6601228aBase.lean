/-
  SEAT b6601228a: WHAT THE WALKS SHARE: peppers ([16]byte) in memory, sixteen cells each; slices of them seen through ranges; an own block of them.
-/
import Derived.Test.Qxb6601228aProg
import Derived.WalkKit
import Derived.Deep.LoopGhost
import Derived.Deep.OwnRows
import Derived.KernelRfl
import Derived.WalkSpells
import Derived.Lib.SliceRun
import Derived.Deep.MidRow
import Derived.Stop.BytesEq
import Derived.StillTactics
import Derived.Laws.Pointers
import Derived.Deep.QuietTactic
import Derived.BigQuiet
import Derived.Deep.RegionHeld3
import Derived.Deep.WholeRow
namespace Go.Proofs.Qxb6601228a
open Go.RowKit Go.Deep
set_option linter.unusedVariables false

def zero16 : Array Value := #[.int .u8 0, .int .u8 0, .int .u8 0, .int .u8 0, .int .u8 0, .int .u8 0, .int .u8 0, .int .u8 0, .int .u8 0, .int .u8 0, .int .u8 0, .int .u8 0, .int .u8 0, .int .u8 0, .int .u8 0, .int .u8 0]
theorem Try.info27 : (Try.prog.info? 27).map (fun i => (i.zero, i.size, i.bytes)) = some (some (.agg zero16), 16, 16) := by kernel_rfl
theorem Try.info28 : (Try.prog.info? 28).map (fun i => (i.zero, i.size, i.bytes)) = some (some (.agg zero16), 16, 16) := by kernel_rfl
theorem Try.size27 : (Try.prog.info? 27).map (·.size) = some 16 := by kernel_rfl
theorem Try.size28 : (Try.prog.info? 28).map (·.size) = some 16 := by kernel_rfl

/-- A pepper's cells. -/
def pc (p : List UInt8) : List Value := p.map Extern.Stop.cell
theorem pc_length (p : List UInt8) : (pc p).length = p.length := by simp [pc]
theorem pc_one (p : List UInt8) : ∀ v ∈ pc p, v.oneCell' = true := fun v hv => by
  obtain ⟨x, _, rfl⟩ := List.mem_map.1 hv
  rfl
def nought : List UInt8 := [0, 0, 0, 0, 0, 0, 0, 0, 0, 0, 0, 0, 0, 0, 0, 0]
theorem pc_nought : (pc nought).toArray = zero16 := rfl

theorem size27 {p : List UInt8} (h : p.length = 16) : (Try.prog.info? 27).map (·.size) = some (pc p).length := by rw [pc_length, h]; exact Try.size27
theorem size28 {p : List UInt8} (h : p.length = 16) : (Try.prog.info? 28).map (·.size) = some (pc p).length := by rw [pc_length, h]; exact Try.size28
theorem size27' {p : List UInt8} (h : p.length = 16) : (Try.prog.info? 27).map (·.size) = some (pc p).toArray.size := by rw [List.size_toArray]; exact size27 h
theorem size28' {p : List UInt8} (h : p.length = 16) : (Try.prog.info? 28).map (·.size) = some (pc p).toArray.size := by rw [List.size_toArray]; exact size28 h

/-! ### setCells and blocks -/
theorem setCells_other (b : Nat) : ∀ (vs : List Value) (o : Nat) (w : World) (k : Nat), k ≠ b → (w.setCells b o vs).heap[k]? = w.heap[k]?
  | [], _, _, _, _ => rfl
  | v :: r, o, w, k, h => by
    rw [World.setCells, setCells_other b r (o + 1) _ k h]
    exact Below.heap_setCell _ _ _ _ h
theorem setCells_same (b : Nat) : ∀ (vs : List Value) (o : Nat) (w : World) (C : Array Value) (t : TypeId) (fr : Nat × Nat), w.heap[b]? = some (.cells C t fr) → ∃ C' : Array Value, (w.setCells b o vs).heap[b]? = some (.cells C' t fr) ∧ C'.size = C.size
  | [], _, _, C, _, _, h => ⟨C, h, rfl⟩
  | v :: r, o, w, C, t, fr, h => by
    have h1 : (w.setCell ⟨b, o, none⟩ v).heap[b]? = some (.cells (C.setIfInBounds o v) t fr) := by simp [World.setCell, Array.getElem?_modify, h]
    obtain ⟨C', h2, h3⟩ := setCells_same b r (o + 1) _ _ t fr h1
    exact ⟨C', h2, by rw [h3]; simp⟩
theorem setCells_size (b : Nat) : ∀ (vs : List Value) (o : Nat) (w : World), (w.setCells b o vs).heap.size = w.heap.size
  | [], _, _ => rfl
  | v :: r, o, w => by rw [World.setCells, setCells_size b r (o + 1)]; simp [World.setCell]
theorem setCells_os (b : Nat) : ∀ (vs : List Value) (o : Nat) (w : World), (w.setCells b o vs).os = w.os ∧ (w.setCells b o vs).tape = w.tape ∧ (w.setCells b o vs).output = w.output
  | [], _, _ => ⟨rfl, rfl, rfl⟩
  | v :: r, o, w => by rw [World.setCells]; exact setCells_os b r (o + 1) _
theorem below_setCells {B : Nat} {a w : World} (h : Below B a w) {b : Nat} (hb : B ≤ b) (o : Nat) (vs : List Value) : Below B a (w.setCells b o vs) :=
  h.trans ⟨(setCells_os b vs o w).1, (setCells_os b vs o w).2.1, (setCells_os b vs o w).2.2, by rw [setCells_size]; exact Nat.le_refl _, fun k hk => setCells_other b vs o w k (by omega)⟩
theorem below_drewN {B : Nat} {a w : World} (h : Below B a w) (q : Nat) : Below B a (w.drewN q) := ⟨h.os, h.tape, h.output, h.size, h.block⟩

theorem rangeAt_block {w w' : World} {b o : Nat} {cs : List Value} (h : w.rangeAt b o cs) (e : w'.heap[b]? = w.heap[b]?) : w'.rangeAt b o cs := fun j v hv => by
  rw [World.cell?_of_block (w := w) e]; exact h j v hv
theorem rangeAt_lt {w : World} {b o : Nat} {p : List UInt8} (h : w.rangeAt b o (pc p)) (hp : p.length = 16) : b < w.heap.size := by
  have : 0 < (pc p).length := by rw [pc_length]; omega
  exact World.block_lt_of_cell? _ _ (h 0 _ (List.getElem?_eq_getElem this))

/-- A slice of peppers, seen through its ranges. -/
def PepsAt (w : World) (a : Option Addr) (n : Nat) (P : Nat → List UInt8) : Prop :=
  0 < n → ∃ b off, a = some ⟨b, off, none⟩ ∧ ∀ i, i < n → w.rangeAt b (off + i * 16) (pc (P i))

theorem PepsAt.below {w w' : World} {a : Option Addr} {n : Nat} {P : Nat → List UInt8} (h : PepsAt w a n P) (hP : ∀ i, i < n → (P i).length = 16) (hb : Below w.heap.size w w') : PepsAt w' a n P := fun hn => by
  obtain ⟨b, off, e, hc⟩ := h hn
  exact ⟨b, off, e, fun i hi => rangeAt_block (hc i hi) (hb.block b (rangeAt_lt (hc i hi) (hP i hi)))⟩

/-- A block of n peppers of the call's own, the first k of them laid. -/
structure Peps (w : World) (b : Nat) (t : TypeId) (n k : Nat) (P : Nat → List UInt8) : Prop where
  blk : ∃ C : Array Value, w.heap[b]? = some (.cells C t (0, 0)) ∧ C.size = n * 16
  at_ : ∀ i, i < k → w.rangeAt b (i * 16) (pc (P i))

section
variable {w w' : World} {b n k : Nat} {t : TypeId} {P : Nat → List UInt8}

theorem Peps.lt (h : Peps w b t n k P) : b < w.heap.size := by
  obtain ⟨C, h1, _⟩ := h.blk
  exact (Array.getElem?_eq_some_iff.1 h1).1
theorem Peps.there (h : Peps w b t n k P) {o m : Nat} (hm : o + m ≤ n * 16) : w.there b o m := fun j hj => by
  obtain ⟨C, h1, h2⟩ := h.blk
  refine ⟨?_, frozen_of_row w b (o + j) C t h1⟩
  rw [cell_of_row w b (o + j) C t (0, 0) h1, Array.getElem?_eq_getElem (by omega)]; rfl
theorem Peps.of_block (h : Peps w b t n k P) (e : w'.heap[b]? = w.heap[b]?) : Peps w' b t n k P := by
  obtain ⟨C, h1, h2⟩ := h.blk
  exact ⟨⟨C, e.trans h1, h2⟩, fun i hi => rangeAt_block (h.at_ i hi) e⟩
theorem Peps.view (h : Peps w b t n n P) : PepsAt w (some ⟨b, 0, none⟩) n P := fun _ => ⟨b, 0, rfl, fun i hi => by rw [Nat.zero_add]; exact h.at_ i hi⟩
/-- One pepper more. -/
theorem Peps.step (h : Peps w b t n k P) (hk : k < n) (hP : ∀ i, i < n → (P i).length = 16) : Peps (w.setCells b (k * 16) (pc (P k))) b t n (k + 1) P := by
  obtain ⟨C, h1, h2⟩ := h.blk
  obtain ⟨C', h3, h4⟩ := setCells_same b (pc (P k)) (k * 16) w C t (0, 0) h1
  have hl : (pc (P k)).length = 16 := by rw [pc_length, hP k hk]
  refine ⟨⟨C', h3, by omega⟩, fun i hi => ?_⟩
  by_cases e : i = k
  · subst e; exact World.rangeAt_setCells_same _ _ _ _ (h.there (by rw [hl]; omega))
  · have hl' : (pc (P i)).length = 16 := by rw [pc_length, hP i (by omega)]
    exact World.rangeAt_setCells_apart (h.at_ i (by omega)) _ _ _ (.inr (.inl (by omega)))
theorem Peps.congr {Q : Nat → List UInt8} (h : Peps w b t n k P) (e : ∀ i, i < k → P i = Q i) : Peps w b t n k Q := ⟨h.blk, fun i hi => by rw [← e i hi]; exact h.at_ i hi⟩
end

/-- 'make' of n peppers. -/
theorem make16 (t e : TypeId) (ht : Try.prog.underlying t = some (.slice e)) (hinfo : (Try.prog.info? e).map (fun i => (i.zero, i.size, i.bytes)) = some (some (.agg zero16), 16, 16)) (n : Nat) (hn : n ≤ 65536) (w : World) :
    (Instr.makeSlice t (.int .i64 (n : Int)) (.int .i64 (n : Int))).run Try.prog w = .ok (.slice (some ⟨w.heap.size, 0, none⟩) n n) (w.alloc (.cells (madeCells zero16 (n * 16)) e)) := by
  obtain ⟨i, hi, hzz⟩ := Option.map_eq_some_iff.1 hinfo
  simp only [Prod.mk.injEq] at hzz
  obtain ⟨hz, hs, hb⟩ := hzz
  have hr := run_make (P := Try.prog) w t e i _ ht hi hz .i64 .i64 n n (by omega) (Int.le_refl _) (by rw [hb]; omega) (by omega)
  simp only [Int.toNat_natCast, hs] at hr
  exact hr
theorem peps_made (w : World) (t : TypeId) (n : Nat) (P : Nat → List UInt8) : Peps (w.alloc (.cells (madeCells zero16 (n * 16)) t)) w.heap.size t n 0 P :=
  ⟨⟨_, blk_alloc_new _ _, size_madeCells _ _⟩, fun i hi => by omega⟩

/-- A guard's answer (a name, so that the walk does not take the post apart). -/
def Guards (w : World) (p : Prop) (e : Ending) (w' : World) : Prop := ∃ b, e = .returned (.bool b) ∧ w' = w ∧ (b = true → p)
theorem Guards.no (w : World) (p : Prop) : Guards w p (.returned (.bool false)) w := ⟨false, rfl, rfl, fun h => by cases h⟩
theorem Guards.yes (w : World) {p : Prop} (h : p) : Guards w p (.returned (.bool true)) w := ⟨true, rfl, rfl, fun _ => h⟩
theorem int_eq {k : IntKind} {a b : Int} (h : a = b) : Value.int k a = Value.int k b := by rw [h]

end Go.Proofs.Qxb6601228a
