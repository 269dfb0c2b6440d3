/-
  SEAT b6601170a: A Cycles IN MEMORY: the object, the two tops, the rows (child of layer m: number 2m; parent of layer m: number 2m + 1), the marks; all in blocks of their own from B on. What a store, an append to a row, an append to the marks make of it.
-/
import Derived.Test.Qxb6601170aBase
import Derived.Test.Qxb6601170aPure
import Derived.Deep.AppendLies
namespace Go.Proofs.Qxb6601170a
open Go.RowKit
set_option linter.unusedVariables false

theorem owns_of_row {w : World} {b : Nat} {t : TypeId} {cap n base : Nat} {F : Nat → Value} (h : w.rowIs b t cap F) (hn : n ≤ cap) (hm : cap ≤ maxLen) (hb : base ≤ b) : w.ownsRow base t 1 (.slice (some ⟨b, 0, none⟩) n cap) n ((List.range n).map F) := by
  obtain ⟨c, h1, h2, h3⟩ := h
  refine ⟨by simp, .inr ⟨b, cap, c, rfl, hb, h1, hn, hm, by omega, ?_⟩⟩
  apply List.ext_getElem?
  intro i
  rw [List.getElem?_take, Nat.mul_one, List.getElem?_map]
  by_cases hi : i < n
  · rw [if_pos hi, Array.getElem?_toList, h3 i (by omega), List.getElem?_range hi]; rfl
  · rw [if_neg hi, List.getElem?_eq_none (by simp; omega)]; rfl

theorem row_of_owns {w : World} {g : Nat} {t : TypeId} {cap n base : Nat} {xs : List Value} (h : w.ownsRow base t 1 (.slice (some ⟨g, 0, none⟩) n cap) n xs) :
    base ≤ g ∧ n ≤ cap ∧ cap ≤ maxLen ∧ ∃ F, w.rowIs g t cap F ∧ ∀ j, j < n → xs[j]? = some (F j) := by
  obtain ⟨_, h2⟩ := h
  rcases h2 with ⟨e, _⟩ | ⟨g', cap', cur, e, hb, hh, hn, hm, hs, ht⟩
  · cases e
  · cases e
    refine ⟨hb, hn, hm, fun i => cur[i]?.getD (.bool false), ⟨cur, hh, by omega, fun i hi => ?_⟩, fun j hj => ?_⟩
    · have hi' : i < cur.size := by omega
      simp [hi']
    · rw [← ht, List.getElem?_take, if_pos (by omega), Array.getElem?_toList]
      have hj' : j < cur.size := by omega
      simp [hj']

/-- The object's three cells. -/
def fields (ac ap : Option Addr) (M cc cp bl n cl : Nat) : Nat → Value := fun i =>
  if i = 0 then .slice ac M cc else if i = 1 then .slice ap M cp else .slice (some ⟨bl, 0, none⟩) n cl

/-- The blocks that are used: the object 0, the tops 1 and 2 where there are layers, the marks 3, the rows from 4 on. -/
def used (M i : Nat) : Prop := i = 0 ∨ i = 3 ∨ (0 < M ∧ i < 4 + 2 * M)

def topC (G N C : Nat → Nat) : Nat → Value := fun m => .slice (some ⟨G (4 + 2 * m), 0, none⟩) (N (2 * m)) (C (2 * m))
def topP (G N C : Nat → Nat) : Nat → Value := fun m => .slice (some ⟨G (4 + (2 * m + 1)), 0, none⟩) (N (2 * m + 1)) (C (2 * m + 1))

structure Cyc (B : Nat) (w : World) (M n : Nat) (ac ap : Option Addr) (cc cp cl : Nat) (G C N : Nat → Nat) (Z : Nat → Nat → Int) (lf : Nat → Bool) : Prop where
  obj : w.rowIs (G 0) 63 3 (fields ac ap M cc cp (G 3) n cl)
  tc : 0 < M → ac = some ⟨G 1, 0, none⟩ ∧ w.rowIs (G 1) 24 M (topC G N C)
  tp : 0 < M → ap = some ⟨G 2, 0, none⟩ ∧ w.rowIs (G 2) 24 M (topP G N C)
  row : ∀ i, i < 2 * M → N i ≤ C i ∧ C i ≤ maxLen ∧ ∃ F, w.rowIs (G (4 + i)) 3 (C i) F ∧ ∀ j, j < N i → F j = .int .i64 (Z i j)
  left : n ≤ cl ∧ cl ≤ maxLen ∧ ∃ F, w.rowIs (G 3) 4 cl F ∧ ∀ j, j < n → F j = .bool (lf j)
  low : ∀ i, used M i → B ≤ G i
  inj : ∀ i j, used M i → used M j → G i = G j → i = j

section
variable {B M n cc cp cl : Nat} {w w' : World} {ac ap : Option Addr} {G C N : Nat → Nat} {Z : Nat → Nat → Int} {lf : Nat → Bool}

/-- It stands where its blocks stand. -/
theorem Cyc.kept (h : Cyc B w M n ac ap cc cp cl G C N Z lf) (hb : ∀ i, used M i → w'.heap[G i]? = w.heap[G i]?) : Cyc B w' M n ac ap cc cp cl G C N Z lf :=
  ⟨h.obj.of_block (hb 0 (.inl rfl)), fun hM => ⟨(h.tc hM).1, (h.tc hM).2.of_block (hb 1 (.inr (.inr ⟨hM, by omega⟩)))⟩, fun hM => ⟨(h.tp hM).1, (h.tp hM).2.of_block (hb 2 (.inr (.inr ⟨hM, by omega⟩)))⟩,
    fun i hi => by
      obtain ⟨h1, h2, F, h3, h4⟩ := h.row i hi
      exact ⟨h1, h2, F, h3.of_block (hb (4 + i) (.inr (.inr ⟨by omega, by omega⟩))), h4⟩,
    by
      obtain ⟨h1, h2, F, h3, h4⟩ := h.left
      exact ⟨h1, h2, F, h3.of_block (hb 3 (.inr (.inl rfl))), h4⟩, h.low, h.inj⟩

theorem Cyc.lt (h : Cyc B w M n ac ap cc cp cl G C N Z lf) {i : Nat} (hi : used M i) : G i < w.heap.size := by
  rcases hi with rfl | rfl | ⟨hM, hi⟩
  · exact h.obj.lt
  · obtain ⟨_, _, F, h3, _⟩ := h.left; exact h3.lt
  · by_cases h0 : i = 0
    · subst h0; exact h.obj.lt
    by_cases h1 : i = 1
    · subst h1; exact (h.tc hM).2.lt
    by_cases h2 : i = 2
    · subst h2; exact (h.tp hM).2.lt
    by_cases h3 : i = 3
    · subst h3; obtain ⟨_, _, F, h3, _⟩ := h.left; exact h3.lt
    obtain ⟨_, _, F, h3, _⟩ := h.row (i - 4) (by omega)
    rw [show 4 + (i - 4) = i by omega] at h3
    exact h3.lt

theorem Cyc.alloc (h : Cyc B w M n ac ap cc cp cl G C N Z lf) (o : Obj) : Cyc B (w.alloc o) M n ac ap cc cp cl G C N Z lf :=
  h.kept fun i hi => Below.heap_alloc _ _ _ (h.lt hi)
theorem Cyc.drew (h : Cyc B w M n ac ap cc cp cl G C N Z lf) : Cyc B w.drew M n ac ap cc cp cl G C N Z lf := h.kept fun _ _ => rfl

theorem Cyc.f0 (h : Cyc B w M n ac ap cc cp cl G C N Z lf) : w.cell? ⟨G 0, 0, none⟩ = some (.slice ac M cc) := h.obj.cell (i := 0) (by omega)
theorem Cyc.f1 (h : Cyc B w M n ac ap cc cp cl G C N Z lf) : w.cell? ⟨G 0, 1, none⟩ = some (.slice ap M cp) := h.obj.cell (i := 1) (by omega)
theorem Cyc.f2 (h : Cyc B w M n ac ap cc cp cl G C N Z lf) : w.cell? ⟨G 0, 2, none⟩ = some (.slice (some ⟨G 3, 0, none⟩) n cl) := h.obj.cell (i := 2) (by omega)
theorem Cyc.mark (h : Cyc B w M n ac ap cc cp cl G C N Z lf) {j : Nat} (hj : j < n) : w.cell? ⟨G 3, j, none⟩ = some (.bool (lf j)) := by
  obtain ⟨h1, _, F, h3, h4⟩ := h.left
  rw [h3.cell (by omega), h4 j hj]
theorem Cyc.topC (h : Cyc B w M n ac ap cc cp cl G C N Z lf) {m : Nat} (hm : m < M) : w.cell? ⟨G 1, m, none⟩ = some (.slice (some ⟨G (4 + 2 * m), 0, none⟩) (N (2 * m)) (C (2 * m))) := (h.tc (by omega)).2.cell hm
theorem Cyc.topP (h : Cyc B w M n ac ap cc cp cl G C N Z lf) {m : Nat} (hm : m < M) : w.cell? ⟨G 2, m, none⟩ = some (.slice (some ⟨G (4 + (2 * m + 1)), 0, none⟩) (N (2 * m + 1)) (C (2 * m + 1))) := (h.tp (by omega)).2.cell hm
theorem Cyc.num (h : Cyc B w M n ac ap cc cp cl G C N Z lf) {i j : Nat} (hi : i < 2 * M) (hj : j < N i) : w.cell? ⟨G (4 + i), j, none⟩ = some (.int .i64 (Z i j)) := by
  obtain ⟨h1, _, F, h3, h4⟩ := h.row i hi
  rw [h3.cell (by omega), h4 j hj]

theorem Cyc.owns (h : Cyc B w M n ac ap cc cp cl G C N Z lf) {i : Nat} (hi : i < 2 * M) : w.ownsRow B 3 1 (.slice (some ⟨G (4 + i), 0, none⟩) (N i) (C i)) (N i) ((List.range (N i)).map fun j => .int .i64 (Z i j)) := by
  obtain ⟨h1, h2, F, h3, h4⟩ := h.row i hi
  have := owns_of_row h3 h1 h2 (h.low (4 + i) (.inr (.inr ⟨by omega, by omega⟩)))
  rw [List.map_congr_left (fun j hj => h4 j (List.mem_range.1 hj))] at this
  exact this
theorem Cyc.ownsL (h : Cyc B w M n ac ap cc cp cl G C N Z lf) : w.ownsRow B 4 1 (.slice (some ⟨G 3, 0, none⟩) n cl) n ((List.range n).map fun j => .bool (lf j)) := by
  obtain ⟨h1, h2, F, h3, h4⟩ := h.left
  have := owns_of_row h3 h1 h2 (h.low 3 (.inr (.inl rfl)))
  rw [List.map_congr_left (fun j hj => h4 j (List.mem_range.1 hj))] at this
  exact this

/-- A store into row i. -/
theorem Cyc.store (h : Cyc B w M n ac ap cc cp cl G C N Z lf) {i j : Nat} (hi : i < 2 * M) (x : Int) :
    Cyc B (w.setCell ⟨G (4 + i), j, none⟩ (.int .i64 x)) M n ac ap cc cp cl G C N (upd Z i (upd (Z i) j x)) lf := by
  have ui : used M (4 + i) := .inr (.inr ⟨by omega, by omega⟩)
  have ne : ∀ q, used M q → q ≠ 4 + i → G q ≠ G (4 + i) := fun q hq e1 e2 => e1 (h.inj q _ hq ui e2)
  refine ⟨h.obj.setOther (ne 0 (.inl rfl) (by omega)) _, fun hM => ⟨(h.tc hM).1, (h.tc hM).2.setOther (ne 1 (.inr (.inr ⟨hM, by omega⟩)) (by omega)) _⟩, fun hM => ⟨(h.tp hM).1, (h.tp hM).2.setOther (ne 2 (.inr (.inr ⟨hM, by omega⟩)) (by omega)) _⟩, fun q hq => ?_, ?_, h.low, h.inj⟩
  · obtain ⟨h1, h2, F, h3, h4⟩ := h.row q hq
    by_cases e : q = i
    · subst e
      refine ⟨h1, h2, _, h3.set j _, fun a ha => ?_⟩
      show (if a = j then _ else F a) = _
      rw [upd_same]
      by_cases ea : a = j
      · subst ea; rw [if_pos rfl, upd_same]
      · rw [if_neg ea, upd_other _ _ ea, h4 a ha]
    · exact ⟨h1, h2, F, h3.setOther (ne (4 + q) (.inr (.inr ⟨by omega, by omega⟩)) (by omega)) _, fun a ha => by rw [upd_other _ _ e]; exact h4 a ha⟩
  · obtain ⟨h1, h2, F, h3, h4⟩ := h.left
    exact ⟨h1, h2, F, h3.setOther (ne 3 (.inr (.inl rfl)) (by omega)) _, h4⟩

/-- Row i, appended to: it lies at g now; not yet told to the top. -/
theorem Cyc.grown (h : Cyc B w M n ac ap cc cp cl G C N Z lf) {i g cap : Nat} (hi : i < 2 * M) (x : Int) (hs : w.heap.size ≤ w'.heap.size) (hb : ∀ k, k < w.heap.size → k ≠ G (4 + i) → w'.heap[k]? = w.heap[k]?)
    (hg : g = G (4 + i) ∨ w.heap.size ≤ g) (hgB : B ≤ g) (hown : w'.ownsRow B 3 1 (.slice (some ⟨g, 0, none⟩) (N i + 1) cap) (N i + 1) ((List.range (N i)).map (fun j => .int .i64 (Z i j)) ++ [.int .i64 x])) :
    w'.rowIs (G 0) 63 3 (fields ac ap M cc cp (G 3) n cl) ∧
    (0 < M → w'.rowIs (G 1) 24 M (Qxb6601170a.topC G N C)) ∧ (0 < M → w'.rowIs (G 2) 24 M (Qxb6601170a.topP G N C)) ∧
    (∀ q, q < 2 * M → upd N i (N i + 1) q ≤ upd C i cap q ∧ upd C i cap q ≤ maxLen ∧ ∃ F, w'.rowIs (upd G (4 + i) g (4 + q)) 3 (upd C i cap q) F ∧ ∀ j, j < upd N i (N i + 1) q → F j = .int .i64 (upd Z i (upd (Z i) (N i) x) q j)) ∧
    (n ≤ cl ∧ cl ≤ maxLen ∧ ∃ F, w'.rowIs (G 3) 4 cl F ∧ ∀ j, j < n → F j = .bool (lf j)) ∧
    (∀ q, used M q → B ≤ upd G (4 + i) g q) ∧ (∀ q r, used M q → used M r → upd G (4 + i) g q = upd G (4 + i) g r → q = r) := by
  have ui : used M (4 + i) := .inr (.inr ⟨by omega, by omega⟩)
  have ne : ∀ q, used M q → q ≠ 4 + i → G q ≠ G (4 + i) := fun q hq e1 e2 => e1 (h.inj q _ hq ui e2)
  have keep : ∀ q, used M q → q ≠ 4 + i → w'.heap[G q]? = w.heap[G q]? := fun q hq e => hb _ (h.lt hq) (ne q hq e)
  have neg : ∀ q, used M q → q ≠ 4 + i → G q ≠ g := fun q hq e1 e2 => by
    rcases hg with e | e
    · exact ne q hq e1 (e2.trans e)
    · have := h.lt hq; omega
  refine ⟨h.obj.of_block (keep 0 (.inl rfl) (by omega)), fun hM => (h.tc hM).2.of_block (keep 1 (.inr (.inr ⟨hM, by omega⟩)) (by omega)), fun hM => (h.tp hM).2.of_block (keep 2 (.inr (.inr ⟨hM, by omega⟩)) (by omega)), fun q hq => ?_, ?_, fun q hq => ?_, fun q r hq hr e => ?_⟩
  · by_cases e : q = i
    · subst e
      obtain ⟨_, r1, r2, F, r3, r4⟩ := row_of_owns hown
      rw [upd_same, upd_same, upd_same]
      refine ⟨r1, r2, F, r3, fun j hj => ?_⟩
      have := r4 j hj
      rw [upd_same]
      by_cases ej : j = N q
      · subst ej
        rw [List.getElem?_append_right (by simp)] at this
        simp at this
        rw [← this, upd_same]
      · rw [List.getElem?_append_left (by simp; omega), List.getElem?_map, List.getElem?_range (by omega)] at this
        simp at this
        rw [← this, upd_other _ _ ej]
    · obtain ⟨h1, h2, F, h3, h4⟩ := h.row q hq
      rw [upd_other _ _ e, upd_other _ _ e, upd_other _ _ (show 4 + q ≠ 4 + i by omega), upd_other _ _ e]
      exact ⟨h1, h2, F, h3.of_block (keep (4 + q) (.inr (.inr ⟨by omega, by omega⟩)) (by omega)), h4⟩
  · obtain ⟨h1, h2, F, h3, h4⟩ := h.left
    exact ⟨h1, h2, F, h3.of_block (keep 3 (.inr (.inl rfl)) (by omega)), h4⟩
  · by_cases e : q = 4 + i
    · subst e; rw [upd_same]; exact hgB
    · rw [upd_other _ _ e]; exact h.low q hq
  · by_cases e1 : q = 4 + i
    · by_cases e2 : r = 4 + i
      · omega
      · rw [e1, upd_same, upd_other _ _ e2] at e
        exact absurd e.symm (neg r hr e2)
    · by_cases e2 : r = 4 + i
      · rw [e2, upd_same, upd_other _ _ e1] at e
        exact absurd e (neg q hq e1)
      · rw [upd_other _ _ e1, upd_other _ _ e2] at e
        exact h.inj q r hq hr e

/-- 'c.child[m] = append(c.child[m], x)'. -/
theorem Cyc.appC (h : Cyc B w M n ac ap cc cp cl G C N Z lf) {m g cap : Nat} (hm : m < M) (x : Int) (hs : w.heap.size ≤ w'.heap.size) (hb : ∀ k, k < w.heap.size → k ≠ G (4 + 2 * m) → w'.heap[k]? = w.heap[k]?)
    (hg : g = G (4 + 2 * m) ∨ w.heap.size ≤ g) (hgB : B ≤ g) (hown : w'.ownsRow B 3 1 (.slice (some ⟨g, 0, none⟩) (N (2 * m) + 1) cap) (N (2 * m) + 1) ((List.range (N (2 * m))).map (fun j => .int .i64 (Z (2 * m) j)) ++ [.int .i64 x])) :
    Cyc B (w'.setCell ⟨G 1, m, none⟩ (.slice (some ⟨g, 0, none⟩) (N (2 * m) + 1) cap)) M n ac ap cc cp cl (upd G (4 + 2 * m) g) (upd C (2 * m) cap) (upd N (2 * m) (N (2 * m) + 1)) (upd Z (2 * m) (upd (Z (2 * m)) (N (2 * m)) x)) lf := by
  obtain ⟨r0, r1, r2, r3, r4, r5, r6⟩ := h.grown (i := 2 * m) (by omega) x hs hb hg hgB hown
  have hM : 0 < M := by omega
  have u1 : used M 1 := .inr (.inr ⟨hM, by omega⟩)
  have ne1 : ∀ q, used M q → q ≠ 1 → upd G (4 + 2 * m) g q ≠ G 1 := fun q hq e1 e2 => e1 (r6 q 1 hq u1 (by rw [e2, upd_other _ _ (by omega)]))
  have o1 : ∀ q, q < 4 → upd G (4 + 2 * m) g q = G q := fun q hq => upd_other _ _ (by omega)
  refine ⟨?_, fun _ => ⟨?_, ?_⟩, fun _ => ⟨?_, ?_⟩, fun q hq => ?_, ?_, r5, r6⟩
  · rw [o1 0 (by omega), o1 3 (by omega)]; exact r0.setOther (by have := ne1 0 (.inl rfl) (by omega); rw [o1 0 (by omega)] at this; exact this) _
  · rw [o1 1 (by omega)]; exact (h.tc hM).1
  · rw [o1 1 (by omega)]
    refine ((r1 hM).set m _).congr fun q hq => ?_
    show (if q = m then _ else Qxb6601170a.topC G N C q) = Qxb6601170a.topC _ _ _ q
    simp only [Qxb6601170a.topC]
    by_cases e : q = m
    · subst e; rw [if_pos rfl, upd_same, upd_same, upd_same]
    · rw [if_neg e, upd_other _ _ (by omega), upd_other _ _ (by omega), upd_other _ _ (by omega)]
  · rw [o1 2 (by omega)]; exact (h.tp hM).1
  · rw [o1 2 (by omega)]
    refine ((r2 hM).setOther (by have := ne1 2 (.inr (.inr ⟨hM, by omega⟩)) (by omega); rw [o1 2 (by omega)] at this; exact this) _).congr fun q hq => ?_
    simp only [Qxb6601170a.topP]
    rw [upd_other _ _ (by omega), upd_other _ _ (by omega), upd_other _ _ (by omega)]
  · obtain ⟨a1, a2, F, a3, a4⟩ := r3 q hq
    exact ⟨a1, a2, F, a3.setOther (ne1 (4 + q) (.inr (.inr ⟨hM, by omega⟩)) (by omega)) _, a4⟩
  · obtain ⟨a1, a2, F, a3, a4⟩ := r4
    rw [o1 3 (by omega)]
    exact ⟨a1, a2, F, a3.setOther (by have := ne1 3 (.inr (.inl rfl)) (by omega); rw [o1 3 (by omega)] at this; exact this) _, a4⟩

/-- 'c.parent[m] = append(c.parent[m], x)'. -/
theorem Cyc.appP (h : Cyc B w M n ac ap cc cp cl G C N Z lf) {m g cap : Nat} (hm : m < M) (x : Int) (hs : w.heap.size ≤ w'.heap.size) (hb : ∀ k, k < w.heap.size → k ≠ G (4 + (2 * m + 1)) → w'.heap[k]? = w.heap[k]?)
    (hg : g = G (4 + (2 * m + 1)) ∨ w.heap.size ≤ g) (hgB : B ≤ g) (hown : w'.ownsRow B 3 1 (.slice (some ⟨g, 0, none⟩) (N (2 * m + 1) + 1) cap) (N (2 * m + 1) + 1) ((List.range (N (2 * m + 1))).map (fun j => .int .i64 (Z (2 * m + 1) j)) ++ [.int .i64 x])) :
    Cyc B (w'.setCell ⟨G 2, m, none⟩ (.slice (some ⟨g, 0, none⟩) (N (2 * m + 1) + 1) cap)) M n ac ap cc cp cl (upd G (4 + (2 * m + 1)) g) (upd C (2 * m + 1) cap) (upd N (2 * m + 1) (N (2 * m + 1) + 1)) (upd Z (2 * m + 1) (upd (Z (2 * m + 1)) (N (2 * m + 1)) x)) lf := by
  obtain ⟨r0, r1, r2, r3, r4, r5, r6⟩ := h.grown (i := 2 * m + 1) (by omega) x hs hb hg hgB hown
  have hM : 0 < M := by omega
  have u2 : used M 2 := .inr (.inr ⟨hM, by omega⟩)
  have ne2 : ∀ q, used M q → q ≠ 2 → upd G (4 + (2 * m + 1)) g q ≠ G 2 := fun q hq e1 e2 => e1 (r6 q 2 hq u2 (by rw [e2, upd_other _ _ (by omega)]))
  have o1 : ∀ q, q < 4 → upd G (4 + (2 * m + 1)) g q = G q := fun q hq => upd_other _ _ (by omega)
  refine ⟨?_, fun _ => ⟨?_, ?_⟩, fun _ => ⟨?_, ?_⟩, fun q hq => ?_, ?_, r5, r6⟩
  · rw [o1 0 (by omega), o1 3 (by omega)]; exact r0.setOther (by have := ne2 0 (.inl rfl) (by omega); rw [o1 0 (by omega)] at this; exact this) _
  · rw [o1 1 (by omega)]; exact (h.tc hM).1
  · rw [o1 1 (by omega)]
    refine ((r1 hM).setOther (by have := ne2 1 (.inr (.inr ⟨hM, by omega⟩)) (by omega); rw [o1 1 (by omega)] at this; exact this) _).congr fun q hq => ?_
    simp only [Qxb6601170a.topC]
    rw [upd_other _ _ (by omega), upd_other _ _ (by omega), upd_other _ _ (by omega)]
  · rw [o1 2 (by omega)]; exact (h.tp hM).1
  · rw [o1 2 (by omega)]
    refine ((r2 hM).set m _).congr fun q hq => ?_
    show (if q = m then _ else Qxb6601170a.topP G N C q) = Qxb6601170a.topP _ _ _ q
    simp only [Qxb6601170a.topP]
    by_cases e : q = m
    · subst e; rw [if_pos rfl, upd_same, upd_same, upd_same]
    · rw [if_neg e, upd_other _ _ (by omega), upd_other _ _ (by omega), upd_other _ _ (by omega)]
  · obtain ⟨a1, a2, F, a3, a4⟩ := r3 q hq
    exact ⟨a1, a2, F, a3.setOther (ne2 (4 + q) (.inr (.inr ⟨hM, by omega⟩)) (by omega)) _, a4⟩
  · obtain ⟨a1, a2, F, a3, a4⟩ := r4
    rw [o1 3 (by omega)]
    exact ⟨a1, a2, F, a3.setOther (by have := ne2 3 (.inr (.inl rfl)) (by omega); rw [o1 3 (by omega)] at this; exact this) _, a4⟩

/-- 'c.left = append(c.left, false)'. -/
theorem Cyc.appL (h : Cyc B w M n ac ap cc cp cl G C N Z lf) {g cap : Nat} (hs : w.heap.size ≤ w'.heap.size) (hb : ∀ k, k < w.heap.size → k ≠ G 3 → w'.heap[k]? = w.heap[k]?)
    (hg : g = G 3 ∨ w.heap.size ≤ g) (hgB : B ≤ g) (hown : w'.ownsRow B 4 1 (.slice (some ⟨g, 0, none⟩) (n + 1) cap) (n + 1) ((List.range n).map (fun j => .bool (lf j)) ++ [.bool false])) :
    Cyc B (w'.setCell ⟨G 0, 2, none⟩ (.slice (some ⟨g, 0, none⟩) (n + 1) cap)) M (n + 1) ac ap cc cp cap (upd G 3 g) C N Z (insL n lf) := by
  have u3 : used M 3 := .inr (.inl rfl)
  have u0 : used M 0 := .inl rfl
  have ne : ∀ q, used M q → q ≠ 3 → G q ≠ G 3 := fun q hq e1 e2 => e1 (h.inj q _ hq u3 e2)
  have keep : ∀ q, used M q → q ≠ 3 → w'.heap[G q]? = w.heap[G q]? := fun q hq e => hb _ (h.lt hq) (ne q hq e)
  have neg : ∀ q, used M q → q ≠ 3 → G q ≠ g := fun q hq e1 e2 => by
    rcases hg with e | e
    · exact ne q hq e1 (e2.trans e)
    · have := h.lt hq; omega
  have ne0 : ∀ q, used M q → q ≠ 0 → G q ≠ G 0 := fun q hq e1 e2 => e1 (h.inj q _ hq u0 e2)
  have o1 : ∀ q, q ≠ 3 → upd G 3 g q = G q := fun q hq => upd_other _ _ hq
  obtain ⟨_, r1, r2, F, r3, r4⟩ := row_of_owns hown
  refine ⟨?_, fun hM => ⟨?_, ?_⟩, fun hM => ⟨?_, ?_⟩, fun q hq => ?_, ⟨r1, r2, F, ?_, fun j hj => ?_⟩, fun q hq => ?_, fun q r hq hr e => ?_⟩
  · rw [o1 0 (by omega), upd_same]
    refine ((h.obj.of_block (keep 0 u0 (by omega))).set 2 _).congr fun q hq => ?_
    show (if q = 2 then _ else fields ac ap M cc cp (G 3) n cl q) = fields ac ap M cc cp g (n + 1) cap q
    simp only [fields]
    by_cases e0 : q = 0
    · subst e0; simp
    by_cases e1 : q = 1
    · subst e1; simp
    have e2 : q = 2 := by omega
    subst e2; simp
  · rw [o1 1 (by omega)]; exact (h.tc hM).1
  · have u1 : used M 1 := .inr (.inr ⟨hM, by omega⟩)
    rw [o1 1 (by omega)]
    refine (((h.tc hM).2.of_block (keep 1 u1 (by omega))).setOther (ne0 1 u1 (by omega)) _).congr fun q hq => ?_
    simp only [Qxb6601170a.topC]
    rw [o1 _ (by omega)]
  · rw [o1 2 (by omega)]; exact (h.tp hM).1
  · have u2 : used M 2 := .inr (.inr ⟨hM, by omega⟩)
    rw [o1 2 (by omega)]
    refine (((h.tp hM).2.of_block (keep 2 u2 (by omega))).setOther (ne0 2 u2 (by omega)) _).congr fun q hq => ?_
    simp only [Qxb6601170a.topP]
    rw [o1 _ (by omega)]
  · obtain ⟨a1, a2, F', a3, a4⟩ := h.row q hq
    have uq : used M (4 + q) := .inr (.inr ⟨by omega, by omega⟩)
    refine ⟨a1, a2, F', ?_, a4⟩
    rw [o1 _ (by omega)]
    exact (a3.of_block (keep _ uq (by omega))).setOther (ne0 _ uq (by omega)) _
  · rw [upd_same]; exact r3.setOther (fun e => neg 0 u0 (by omega) e.symm) _
  · have := r4 j hj
    by_cases ej : j = n
    · subst ej
      rw [List.getElem?_append_right (by simp)] at this
      simp at this
      rw [← this]; simp [insL, upd]
    · rw [List.getElem?_append_left (by simp; omega), List.getElem?_map, List.getElem?_range (by omega)] at this
      simp at this
      rw [← this]; simp [insL, upd, ej]
  · by_cases e : q = 3
    · subst e; rw [upd_same]; exact hgB
    · rw [o1 q e]; exact h.low q hq
  · by_cases e1 : q = 3
    · by_cases e2 : r = 3
      · omega
      · rw [e1, upd_same, o1 r e2] at e
        exact absurd e.symm (neg r hr e2)
    · by_cases e2 : r = 3
      · rw [e2, upd_same, o1 q e1] at e
        exact absurd e (neg q hq e1)
      · rw [o1 q e1, o1 r e2] at e
        exact h.inj q r hq hr e
end

end Go.Proofs.Qxb6601170a
