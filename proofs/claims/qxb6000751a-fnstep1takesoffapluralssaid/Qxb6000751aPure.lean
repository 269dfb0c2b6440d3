/-
  SEAT b6000751a: the plain law: step 1 of w + "s" is step 1 of w.
-/
import Derived.Test.Qxb6000751aPlural
namespace Go.Proofs.Qxb6000751a
open Go.RowKit Go.Deep
set_option linter.unusedVariables false

/-! ### The plain law: the plural s goes, and nothing else happens in step 1a -/
theorem byte_inj {x : Int} {c : UInt8} (h0 : 0 ≤ x) (h1 : x < 256) (h : UInt8.ofNat x.toNat = c) : x = (c.toNat : Int) := by
  subst h
  have : (UInt8.ofNat x.toNat).toNat = x.toNat := by rw [UInt8.toNat_ofNat']; omega
  rw [this]; omega

theorem ends_at {l : List Int} {s : ByteArray} (hr : ∀ i, 0 ≤ lz l i ∧ lz l i < 256) (h : ends l s = true) : ∀ i (hi : i < s.size), lz l (l.length - s.size + i) = (s[i].toNat : Int) := by
  intro i hi
  simp only [ends, Bool.and_eq_true, decide_eq_true_eq, beq_iff_eq] at h
  obtain ⟨h1, h2⟩ := h
  rw [ByteArray.toList_eq, ByteArray.toList_eq, strOfNums_data] at h2
  have h3 := congrArg (fun x => x[i]?) h2
  simp only [List.getElem?_map, List.getElem?_drop] at h3
  have hlt : l.length - s.size + i < l.length := by omega
  rw [List.getElem?_eq_getElem hlt] at h3
  have h4 : s.data.toList[i]? = some s[i] := by
    rw [Array.getElem?_toList]
    exact Array.getElem?_eq_getElem hi
  rw [h4] at h3
  simp only [Option.map_some, Option.some.injEq] at h3
  have e : lz l (l.length - s.size + i) = l[l.length - s.size + i] := by simp [lz, List.getD, List.getElem?_eq_getElem hlt]
  rw [e]
  have := hr (l.length - s.size + i)
  rw [e] at this
  exact byte_inj this.1 this.2 h3

theorem no_end {l : List Int} {s : ByteArray} (hr : ∀ i, 0 ≤ lz l i ∧ lz l i < 256) (hlast : lz l (l.length - 1) ≠ 115) (m : Nat) (hs : s.size = m + 1) (hm : s[m].toNat = 115) : ends l s = false := by
  cases h : ends l s with
  | false => rfl
  | true =>
    have h1 := ends_at hr h m (by omega)
    have h2 := ends_lt h
    rw [show l.length - s.size + m = l.length - 1 by omega] at h1
    exact absurd (by rw [h1, hm]; rfl) hlast

theorem step1a_plain {l : List Int} (hr : ∀ i, 0 ≤ lz l i ∧ lz l i < 256) (hlast : lz l (l.length - 1) ≠ 115) : step1a l = l := by
  rw [step1a, no_end hr hlast 3 rfl rfl, no_end hr hlast 2 rfl rfl, no_end hr hlast 1 rfl rfl, no_end hr hlast 0 rfl rfl]
  rfl

theorem lz_app {l : List Int} {i : Nat} (x : Int) (h : i < l.length) : lz (l ++ [x]) i = lz l i := by
  simp only [lz, List.getD]
  rw [List.getElem?_append_left h]
theorem lz_app_range {l : List Int} (hr : ∀ i, 0 ≤ lz l i ∧ lz l i < 256) : ∀ i, 0 ≤ lz (l ++ [115]) i ∧ lz (l ++ [115]) i < 256 := by
  intro i
  by_cases h : i < l.length
  · rw [lz_app _ h]; exact hr i
  · by_cases e : i = l.length
    · subst e; simp [lz, List.getD]
    · have : lz (l ++ [115]) i = 0 := by
        simp only [lz, List.getD]
        rw [List.getElem?_eq_none (by simp; omega)]; rfl
      rw [this]; omega

def Tail (l : List Int) (s : ByteArray) : Prop := s.size ≤ l.length ∧ ∀ i (h : i < s.size), lz l (l.length - s.size + i) = (s[i].toNat : Int)

theorem step1a_s {l : List Int} (hr : ∀ i, 0 ≤ lz l i ∧ lz l i < 256) (hpos : 0 < l.length) (hlast : lz l (l.length - 1) ≠ 115) (h1 : ¬ Tail l ⟨#[115, 115, 101]⟩) (h2 : ¬ Tail l ⟨#[105, 101]⟩) : step1a (l ++ [115]) = l := by
  have hr' := lz_app_range hr
  have hlen : (l ++ [115]).length = l.length + 1 := by simp
  have e1 : ends (l ++ [115]) ⟨#[115, 115, 101, 115]⟩ = false := by
    cases h : ends (l ++ [115]) ⟨#[115, 115, 101, 115]⟩ with
    | false => rfl
    | true =>
      have hlt : 4 < (l ++ [115]).length := ends_lt h
      refine absurd ⟨show 3 ≤ l.length by omega, fun i hi => ?_⟩ h1
      have hi' : i < 3 := hi
      have hx := ends_at hr' h i (show i < 4 by omega)
      have hidx : (l ++ [115]).length - (⟨#[115, 115, 101, 115]⟩ : ByteArray).size + i = l.length - 3 + i := by show (l ++ [115]).length - 4 + i = _; omega
      rw [hidx, lz_app _ (by omega)] at hx
      show lz l (l.length - 3 + i) = _
      rw [hx]
      match i, hi' with
      | 0, _ => rfl
      | 1, _ => rfl
      | 2, _ => rfl
  have e2 : ends (l ++ [115]) ⟨#[105, 101, 115]⟩ = false := by
    cases h : ends (l ++ [115]) ⟨#[105, 101, 115]⟩ with
    | false => rfl
    | true =>
      have hlt : 3 < (l ++ [115]).length := ends_lt h
      refine absurd ⟨show 2 ≤ l.length by omega, fun i hi => ?_⟩ h2
      have hi' : i < 2 := hi
      have hx := ends_at hr' h i (show i < 3 by omega)
      have hidx : (l ++ [115]).length - (⟨#[105, 101, 115]⟩ : ByteArray).size + i = l.length - 2 + i := by show (l ++ [115]).length - 3 + i = _; omega
      rw [hidx, lz_app _ (by omega)] at hx
      show lz l (l.length - 2 + i) = _
      rw [hx]
      match i, hi' with
      | 0, _ => rfl
      | 1, _ => rfl
  have e3 : ends (l ++ [115]) ⟨#[115, 115]⟩ = false := by
    cases h : ends (l ++ [115]) ⟨#[115, 115]⟩ with
    | false => rfl
    | true =>
      have hlt : 2 < (l ++ [115]).length := ends_lt h
      have hx := ends_at hr' h 0 (show 0 < 2 by omega)
      have hidx : (l ++ [115]).length - (⟨#[115, 115]⟩ : ByteArray).size + 0 = l.length - 1 := by show (l ++ [115]).length - 2 + 0 = _; omega
      rw [hidx, lz_app _ (by omega)] at hx
      exact absurd hx hlast
  have e4 : ends (l ++ [115]) ⟨#[115]⟩ = true := by
    have hd : (l ++ [115]).drop ((l ++ [115]).length - (⟨#[115]⟩ : ByteArray).size) = [115] := by
      have : (l ++ [115]).length - (⟨#[115]⟩ : ByteArray).size = l.length := by show (l ++ [115]).length - 1 = _; omega
      rw [this]; simp
    simp only [ends, Bool.and_eq_true, decide_eq_true_eq, beq_iff_eq]
    refine ⟨show 1 < (l ++ [115]).length by omega, ?_⟩
    rw [hd, ByteArray.toList_eq, ByteArray.toList_eq]
    rfl
  rw [step1a, e1, e2, e3, e4]
  show setSuf (l ++ [115]) 1 ⟨#[]⟩ = l
  rw [setSuf, hlen]
  simp [nums]

theorem step1_s {l : List Int} (hr : ∀ i, 0 ≤ lz l i ∧ lz l i < 256) (hpos : 0 < l.length) (hlast : lz l (l.length - 1) ≠ 115) (h1 : ¬ Tail l ⟨#[115, 115, 101]⟩) (h2 : ¬ Tail l ⟨#[105, 101]⟩) : step1 (l ++ [115]) = step1 l := by
  rw [step1, step1, step1a_s hr hpos hlast h1 h2, step1a_plain hr hlast]
end Go.Proofs.Qxb6000751a
