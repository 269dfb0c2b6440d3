/-
  SEAT b6000751a: the stemmer's word as a list of numbers in a row of its own; stemLen (39), endsWith (37), hasVowel (43).
-/
import Derived.Test.Qxb6000751aMeasure
import Derived.Deep.AppendSrc
import Derived.Laws.BytesArg
import Derived.Laws.IdiomCopy
import Derived.Deep.RegionLaw
namespace Go.Proofs.Qxb6000751a
open Go.RowKit Go.Deep
set_option linter.unusedVariables false

/-- A word's letters by the place. -/
def lz (l : List Int) : Nat → Int := fun i => l.getD i 0
/-- A string's bytes as numbers. -/
def nums (s : ByteArray) : List Int := s.data.toList.map fun b => (b.toNat : Int)
theorem nums_length (s : ByteArray) : (nums s).length = s.size := by
  simp only [nums, List.length_map, Array.length_toList]; rfl
/-- The word ends in s, and more than nothing lies before it. -/
def ends (l : List Int) (s : ByteArray) : Bool := decide (s.size < l.length) && ((strOfNums (l.drop (l.length - s.size))).toList == s.toList)

/-- All but the blocks o and b stands as it stood. -/
structure Kept (o b : Nat) (w w' : World) : Prop where
  os : w'.os = w.os
  tape : w'.tape = w.tape
  output : w'.output = w.output
  size : w.heap.size ≤ w'.heap.size
  block : ∀ i, i < w.heap.size → i ≠ o → i ≠ b → w'.heap[i]? = w.heap[i]?
theorem Kept.refl (o b : Nat) (w : World) : Kept o b w w := ⟨rfl, rfl, rfl, Nat.le_refl _, fun _ _ _ _ => rfl⟩
theorem Kept.trans {o b : Nat} {w w1 w2 : World} (h : Kept o b w w1) (k : Kept o b w1 w2) : Kept o b w w2 :=
  ⟨k.os.trans h.os, k.tape.trans h.tape, k.output.trans h.output, Nat.le_trans h.size k.size, fun i hi h1 h2 => (k.block i (Nat.lt_of_lt_of_le hi h.size) h1 h2).trans (h.block i hi h1 h2)⟩
theorem Kept.drew {o b : Nat} {w w1 : World} (h : Kept o b w w1) : Kept o b w w1.drew := ⟨h.os, h.tape, h.output, h.size, h.block⟩
theorem Kept.setCell {o b : Nat} {w w1 : World} (h : Kept o b w w1) {a : Addr} (ha : a.block = o ∨ a.block = b) (v : Value) : Kept o b w (w1.setCell a v) :=
  h.trans ⟨rfl, rfl, rfl, by simp [World.setCell], fun i hi h1 h2 => blk_setCell_other _ _ _ _ (by rcases ha with e | e <;> rw [e] <;> assumption)⟩
theorem Kept.alloc {o b : Nat} {w w1 : World} (h : Kept o b w w1) (x : Obj) : Kept o b w (w1.alloc x) :=
  h.trans ⟨rfl, rfl, rfl, by show w1.heap.size ≤ (w1.heap.push x).size; simp, fun i hi _ _ => blk_alloc_lt _ _ _ hi⟩
theorem Kept.below {o b B : Nat} {w w1 : World} (h : Kept o b w w1) (ho : B ≤ o) (hb : B ≤ b) (hB : B ≤ w.heap.size) : Below B w w1 :=
  ⟨h.os, h.tape, h.output, h.size, fun i hi => h.block i (by omega) (by omega) (by omega)⟩

/-- THE WORD: the object o holds a slice of the own row b, of capacity c, that reads l. -/
structure Wd (w : World) (o b c : Nat) (l : List Int) : Prop where
  ob : SOb w o (some ⟨b, 0, none⟩) l.length c
  ne : o ≠ b
  le : l.length ≤ c
  row : ∃ f, w.rowIs b 5 c f ∧ ∀ i, i < l.length → f i = .int .u8 (lz l i)
theorem Wd.at {w : World} {o b c : Nat} {l : List Int} (h : Wd w o b c l) : RowAt w (some ⟨b, 0, none⟩) l.length (u8s (lz l)) := by
  obtain ⟨f, hr, hf⟩ := h.row
  exact (RowAt.of_rowIs hr h.le).congr hf
theorem Wd.drew {w : World} {o b c : Nat} {l : List Int} (h : Wd w o b c l) : Wd w.drew o b c l := ⟨h.ob, h.ne, h.le, h.row⟩

section
variable {o b c : Nat} {l : List Int} {w : World}

theorem stem39 (a : Option Addr) (n c : Nat) (s : ByteArray) (w : World) (hO : SOb w o a n c) (hn : n ≤ 1048576) (hs : s.size ≤ 16) :
    Calls Try.prog 39 #[.pointer (some ⟨o, 0, none⟩), .string s] w fun e w' => e = .returned (.int .i64 ((n : Int) - (s.size : Int))) ∧ w = w' := by
  have h0 := hO.c0
  have n1 : (n : Int) ≤ 1048576 := by omega
  have s1 : (s.size : Int) ≤ 16 := by omega
  clear hO hn hs
  go_enter Try.func39, Try.ntmps39
  go_wp2
  go_ret
  exact ⟨rfl, rfl⟩

def EndsPost (l : List Int) (s : ByteArray) (w : World) (e : Ending) (w' : World) : Prop := e = .returned (.bool (ends l s)) ∧ w = w'
set_option maxHeartbeats 400000 in
theorem ends37_yes (k m c : Nat) (s : ByteArray) (xs : List Int) (hm : s.size = m) (h0 : w.cell? ⟨o, 0, none⟩ = some (.slice (some ⟨b, 0, none⟩) (k + m) c)) (hk : 0 < k) (hn : k + m ≤ 1048576) (hm16 : m ≤ 16) (hm0 : 0 < m) (hc : k + m ≤ c)
    (hcv : (convert 22 9 (.slice (some ⟨b, k, none⟩) m (c - k))).run Try.prog w = .ok (.string (strOfNums xs)) w) :
    Calls Try.prog 37 #[.pointer (some ⟨o, 0, none⟩), .string s] w fun e w' => e = .returned (.bool ((strOfNums xs).toList == s.toList)) ∧ w = w' := by
  have n1 : ((k + m : Nat) : Int) = (k : Int) + (m : Int) := by omega
  have n2 : (0 : Int) < (k : Int) := by omega
  have n3 : (k : Int) + (m : Int) - (m : Int) = (k : Int) := by omega
  have n4 : (k : Int) ≤ 1048576 := by omega
  have n5 : (m : Int) ≤ 16 := by omega
  have n6 : (k : Int) + (m : Int) ≤ (c : Int) := by omega
  have n7 : k + m - k = m := by omega
  have n8 : ¬ c = k := by omega
  clear hn hm16 hk hm0
  go_enter Try.func37, Try.ntmps37
  go_wp2
  go_ret
  exact ⟨rfl, rfl⟩

theorem drop_getD (l : List Int) (k i : Nat) : (l.drop k).getD i 0 = l.getD (k + i) 0 := by simp [List.getD, List.getElem?_drop]

theorem ends37 (s : ByteArray) (hW : Wd w o b c l) (hn : l.length ≤ 1048576) (hs : s.size ≤ 16) (hs0 : 0 < s.size) :
    Calls Try.prog 37 #[.pointer (some ⟨o, 0, none⟩), .string s] w (EndsPost l s w) := by
  have h0 := hW.ob.c0
  have hc := hW.le
  by_cases h : s.size < l.length
  · have E : ends l s = ((strOfNums (l.drop (l.length - s.size))).toList == s.toList) := by simp [ends, h]
    obtain ⟨k, hk⟩ : ∃ k, l.length = k + s.size := ⟨l.length - s.size, by omega⟩
    have hk' : l.length - s.size = k := by omega
    rw [hk'] at E
    obtain ⟨b', off, hx, hat⟩ := hW.at (by omega)
    cases hx
    rw [hk] at h0 hc hn
    refine (ends37_yes k s.size c s (l.drop k) rfl h0 (by omega) hn hs hs0 hc ?_).mono ?_
    · refine run_convert_bytes_arg (P := Try.prog) w 22 5 Try.underlying22 Try.underlying5 b k s.size (c - k) (l.drop k) (by rw [List.length_drop]; omega) (fun i hi => ?_) 9 Try.underlying9
      have := hat (k + i) (by omega)
      rw [Nat.zero_add] at this
      rw [this, drop_getD]; rfl
    · rintro e w' ⟨rfl, rfl⟩
      exact ⟨by rw [E], rfl⟩
  · have E : ends l s = false := by simp [ends, h]
    have n1 : (l.length : Int) ≤ (s.size : Int) := by omega
    have n2 : (s.size : Int) ≤ 16 := by omega
    go_enter Try.func37, Try.ntmps37
    go_wp2
    go_ret
    exact ⟨by rw [E]; rfl, rfl⟩

/-! ### hasVowel -/
def hasV (z : Nat → Int) : Nat → Bool
  | 0 => false
  | j + 1 => hasV z j || !(cons z j)
theorem hasV_hit {z : Nat → Int} {i : Nat} (h : cons z i = false) : ∀ {j : Nat}, i < j → hasV z j = true
  | 0, hj => by omega
  | j + 1, hj => by
    rw [hasV]
    by_cases e : i = j
    · subst e; rw [h]; simp
    · rw [hasV_hit h (by omega : i < j)]; rfl
theorem hasV_step {z : Nat → Int} {i : Nat} (h : cons z i = true) (k : hasV z i = false) : hasV z (i + 1) = false := by rw [hasV, h, k]; rfl

def HasPost (z : Nat → Int) (j : Nat) (w : World) (e : Ending) (w' : World) : Prop := e = .returned (.bool (hasV z j)) ∧ w = w'
set_option maxRecDepth 100000 in
set_option maxHeartbeats 400000 in
theorem has43 (a : Option Addr) (n c : Nat) (z : Nat → Int) (w : World) (hO : SOb w o a n c) (hR : RowAt w a n (u8s z)) (hn : n ≤ 1048576) (j : Nat) (hj : j ≤ n) :
    Calls Try.prog 43 #[.pointer (some ⟨o, 0, none⟩), .int .i64 j] w (HasPost z j w) := by
  have hC := cons36 o a n c z w hO hR hn
  have hjj : (j : Int) ≤ 1048576 := by omega
  clear hO hR
  go_enter Try.func43, Try.ntmps43
  go_wp2_with fail
  go_loopg [5, 7] j (fun g _ s wr => w = wr ∧ ∃ i : Nat, i ≤ j ∧ g = j - i ∧ s = .int .i64 i ∧ hasV z i = false)
  case atStart => exact ⟨rfl, 0, Nat.zero_le _, rfl, rfl, rfl⟩
  case round =>
    obtain ⟨rfl, i, hi, rfl, rfl, hv⟩ := hrel
    have HV : Hid (hasV z i = false) := hv
    clear hv
    by_cases hlt : i < j
    · have H := hC i (by omega)
      go_wp2_with fail
      refine H.mono ?_
      rintro e w' ⟨rfl, rfl⟩
      clear H
      cases hc : cons z i with
      | true =>
        go_wp2_with fail
        go_roundg (j - (i + 1))
        case measure => omega
        case rel => exact ⟨rfl, i + 1, by omega, rfl, by go_num, hasV_step hc HV.out⟩
      | false =>
        go_wp2
        go_ret
        exact ⟨by rw [hasV_hit hc hlt]; rfl, rfl⟩
    · have : j = i := by omega
      subst this
      go_wp2
      go_ret
      exact ⟨by rw [HV.out]; rfl, rfl⟩
end
end Go.Proofs.Qxb6000751a
