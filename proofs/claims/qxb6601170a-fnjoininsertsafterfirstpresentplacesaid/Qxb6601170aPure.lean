/-
  SEAT b6601170a: THE PLAIN LAW OF RINGS: no Go in sight. A layer is a function f (child) with g (parent) behind it; its orbit from 0 comes back to 0 first behind K steps, K the number of those present.
-/
namespace Go.Proofs.Qxb6601170a

def upd {α : Type} (f : Nat → α) (i : Nat) (x : α) : Nat → α := fun j => if j = i then x else f j
theorem upd_same {α : Type} (f : Nat → α) (i : Nat) (x : α) : upd f i x i = x := by simp [upd]
theorem upd_other {α : Type} (f : Nat → α) {i j : Nat} (x : α) (h : j ≠ i) : upd f i x j = f j := by simp [upd, h]

/-- The orbit of 0. -/
def orb (f : Nat → Int) : Nat → Nat
  | 0 => 0
  | k + 1 => (f (orb f k)).toNat

/-- How many of the first n are present (not left). -/
def count (lf : Nat → Bool) : Nat → Nat
  | 0 => 0
  | n + 1 => count lf n + if lf n then 0 else 1

theorem count_le (lf : Nat → Bool) (n : Nat) : count lf n ≤ n := by
  induction n with
  | zero => exact Nat.le_refl _
  | succ n ih => simp only [count]; split <;> omega

theorem count_congr {lf lg : Nat → Bool} {n : Nat} (h : ∀ v, v < n → lf v = lg v) : count lf n = count lg n := by
  induction n with
  | zero => rfl
  | succ n ih => simp only [count]; rw [ih (fun v hv => h v (by omega)), h n (by omega)]

theorem count_pos {lf : Nat → Bool} {n v : Nat} (hv : v < n) (h : lf v = false) : 0 < count lf n := by
  induction n with
  | zero => omega
  | succ n ih =>
    simp only [count]
    by_cases e : v = n
    · subst e; simp [h]
    · have := ih (by omega); omega

/-- The present ones as a list. -/
def pres (lf : Nat → Bool) (n : Nat) : List Nat := (List.range n).filter fun v => !lf v

theorem pres_length (lf : Nat → Bool) (n : Nat) : (pres lf n).length = count lf n := by
  induction n with
  | zero => rfl
  | succ n ih =>
    unfold pres at ih ⊢
    rw [List.range_succ, List.filter_append, List.length_append, ih]
    simp only [count]
    cases h : lf n <;> simp [h]

theorem mem_pres {lf : Nat → Bool} {n v : Nat} : v ∈ pres lf n ↔ v < n ∧ lf v = false := by
  simp [pres]

/-- A list without doubles inside another that is no longer covers it. -/
theorem cover {l : List Nat} : ∀ {m : List Nat}, l.Nodup → (∀ x, x ∈ l → x ∈ m) → m.length ≤ l.length → ∀ x, x ∈ m → x ∈ l := by
  induction l with
  | nil =>
    intro m _ _ hl x hx
    cases m with
    | nil => exact hx
    | cons y t => simp at hl
  | cons a l ih =>
    intro m hn hs hl x hx
    by_cases e : x = a
    · subst e; exact List.mem_cons_self
    · have hn' := List.nodup_cons.1 hn
      have ha : a ∈ m := hs a List.mem_cons_self
      have := ih (m := m.erase a) hn'.2 (fun y hy => by
        have : y ≠ a := fun e => hn'.1 (e ▸ hy)
        exact (List.mem_erase_of_ne this).2 (hs y (List.mem_cons_of_mem _ hy))) (by
        rw [List.length_erase_of_mem ha]; simp at hl; omega) x ((List.mem_erase_of_ne e).2 hx)
      exact List.mem_cons_of_mem _ this

structure Ring (n : Nat) (f g : Nat → Int) (lf : Nat → Bool) (K : Nat) : Prop where
  rf : ∀ v, v < n → 0 ≤ f v ∧ f v < n
  rg : ∀ v, v < n → 0 ≤ g v ∧ g v < n
  inv : ∀ v, v < n → lf v = false → lf (f v).toNat = false ∧ g (f v).toNat = v
  back : orb f K = 0
  first : ∀ i, 0 < i → i < K → orb f i ≠ 0

section
variable {n K : Nat} {f g : Nat → Int} {lf : Nat → Bool}

/-- The orbit stays among those present. -/
theorem Ring.in_ (h : Ring n f g lf K) (hn : 0 < n) (h0 : lf 0 = false) : ∀ i, orb f i < n ∧ lf (orb f i) = false := by
  intro i
  induction i with
  | zero => exact ⟨hn, h0⟩
  | succ i ih =>
    have h1 := h.rf _ ih.1
    exact ⟨by simp only [orb]; omega, (h.inv _ ih.1 ih.2).1⟩

theorem Ring.prev (h : Ring n f g lf K) (hn : 0 < n) (h0 : lf 0 = false) (i : Nat) : g (orb f (i + 1)) = orb f i := by
  have ih := h.in_ hn h0 i
  exact (h.inv _ ih.1 ih.2).2

/-- No two of the orbit's first K are one. -/
theorem Ring.apart (h : Ring n f g lf K) (hn : 0 < n) (h0 : lf 0 = false) : ∀ i j, i < j → j < K → orb f i ≠ orb f j := by
  intro i
  induction i with
  | zero => intro j hj hk e; exact h.first j hj hk e.symm
  | succ i ih =>
    intro j hj hk e
    obtain ⟨j, rfl⟩ : ∃ q, j = q + 1 := ⟨j - 1, by omega⟩
    refine ih j (by omega) (by omega) ?_
    have e1 := h.prev hn h0 i
    have e2 := h.prev hn h0 j
    rw [e, e2] at e1
    omega

theorem Ring.inj (h : Ring n f g lf K) (hn : 0 < n) (h0 : lf 0 = false) {i j : Nat} (hi : i < K) (hj : j < K) (e : orb f i = orb f j) : i = j := by
  rcases Nat.lt_trichotomy i j with hlt | he | hgt
  · exact absurd e (h.apart hn h0 i j hlt hj)
  · exact he
  · exact absurd e.symm (h.apart hn h0 j i hgt hi)

/-- Every present one is on the orbit. -/
theorem Ring.cover (h : Ring n f g lf K) (hn : 0 < n) (h0 : lf 0 = false) (hK : K = count lf n) {a : Nat} (ha : a < n) (hl : lf a = false) : ∃ j, j < K ∧ orb f j = a := by
  have hnd : ((List.range K).map (orb f)).Nodup := by
    refine List.pairwise_iff_getElem.2 fun i j hi hj hij e => ?_
    simp at hi hj e
    exact h.apart hn h0 i j hij hj e
  have hm := Qxb6601170a.cover (l := (List.range K).map (orb f)) (m := pres lf n) hnd (fun x hx => by
    obtain ⟨i, _, rfl⟩ := List.mem_map.1 hx
    exact mem_pres.2 (h.in_ hn h0 i)) (by rw [pres_length, List.length_map, List.length_range, hK]; exact Nat.le_refl _) a (mem_pres.2 ⟨ha, hl⟩)
  obtain ⟨j, hj, e⟩ := List.mem_map.1 hm
  exact ⟨j, List.mem_range.1 hj, e⟩
end

/-- A newcomer n put in behind a. -/
def insF (n a : Nat) (f : Nat → Int) : Nat → Int := upd (upd f n (f a)) a n
def insG (n a : Nat) (f g : Nat → Int) : Nat → Int := upd (upd g n a) (f a).toNat n
def insL (n : Nat) (lf : Nat → Bool) : Nat → Bool := upd lf n false

section
variable {n K a : Nat} {f g : Nat → Int} {lf : Nat → Bool}

theorem insF_a : insF n a f a = n := upd_same _ _ _
theorem insF_n (ha : a < n) : insF n a f n = f a := by unfold insF; rw [upd_other _ _ (by omega), upd_same]
theorem insF_other {v : Nat} (hv : v ≠ n) (hva : v ≠ a) : insF n a f v = f v := by unfold insF; rw [upd_other _ _ hva, upd_other _ _ hv]
theorem insG_n (hf : (f a).toNat < n) : insG n a f g n = a := by unfold insG; rw [upd_other _ _ (by omega), upd_same]
theorem insG_next : insG n a f g (f a).toNat = n := upd_same _ _ _
theorem insG_other {v : Nat} (hv : v ≠ n) (hva : v ≠ (f a).toNat) : insG n a f g v = g v := by unfold insG; rw [upd_other _ _ hva, upd_other _ _ hv]

/-- The new orbit: as the old up to a, then n, then the rest. -/
theorem orb_ins (h : Ring n f g lf K) (hn : 0 < n) (h0 : lf 0 = false) (ha : a < n) {j : Nat} (hj : j < K) (ej : orb f j = a) :
    (∀ i, i ≤ j → orb (insF n a f) i = orb f i) ∧ (∀ d, j + 1 + d ≤ K → orb (insF n a f) (j + 2 + d) = orb f (j + 1 + d)) ∧ orb (insF n a f) (j + 1) = n := by
  have h1 : ∀ i, i ≤ j → orb (insF n a f) i = orb f i := by
    intro i
    induction i with
    | zero => intro _; rfl
    | succ i ih =>
      intro hi
      have hin := h.in_ hn h0 i
      simp only [orb]
      rw [ih (by omega), insF_other (by omega) (fun e => by have := h.inj hn h0 (i := i) (j := j) (by omega) hj (e.trans ej.symm); omega)]
  have h2 : orb (insF n a f) (j + 1) = n := by
    simp only [orb]
    rw [h1 j (Nat.le_refl _), ej, insF_a]
    omega
  refine ⟨h1, fun d => ?_, h2⟩
  induction d with
  | zero =>
    intro _
    show (insF n a f (orb (insF n a f) (j + 1))).toNat = (f (orb f j)).toNat
    rw [h2, insF_n ha, ej]
  | succ d ih =>
    intro hd
    have hin := h.in_ hn h0 (j + 1 + d)
    show (insF n a f (orb (insF n a f) (j + 2 + d))).toNat = (f (orb f (j + 1 + d))).toNat
    rw [ih (by omega), insF_other (by omega) (fun e => by have := h.inj hn h0 (i := j + 1 + d) (j := j) (by omega) hj (e.trans ej.symm); omega)]

theorem Ring.ins (h : Ring n f g lf K) (hn : 0 < n) (h0 : lf 0 = false) (hK : K = count lf n) (ha : a < n) (hl : lf a = false) : Ring (n + 1) (insF n a f) (insG n a f g) (insL n lf) (K + 1) := by
  obtain ⟨j, hj, ej⟩ := h.cover hn h0 hK ha hl
  obtain ⟨o1, o2, o3⟩ := orb_ins h hn h0 ha hj ej
  have hfa := h.rf a ha
  have hia := h.inv a ha hl
  refine ⟨fun v hv => ?_, fun v hv => ?_, fun v hv hlv => ?_, ?_, fun i hi hik => ?_⟩
  · by_cases e : v = a
    · subst e; rw [insF_a]; omega
    · by_cases e2 : v = n
      · subst e2; rw [insF_n ha]; omega
      · rw [insF_other e2 e]; have := h.rf v (by omega); omega
  · by_cases e : v = (f a).toNat
    · subst e; rw [insG_next]; omega
    · by_cases e2 : v = n
      · subst e2; rw [insG_n (by omega)]; omega
      · rw [insG_other e2 e]; have := h.rg v (by omega); omega
  · by_cases e : v = a
    · subst e
      rw [insF_a]
      have : ((n : Int)).toNat = n := by omega
      rw [this, insG_n (by omega)]
      exact ⟨upd_same _ _ _, rfl⟩
    · by_cases e2 : v = n
      · subst e2
        rw [insF_n ha, insG_next]
        exact ⟨by unfold insL; rw [upd_other _ _ (by omega)]; exact hia.1, rfl⟩
      · rw [insF_other e2 e]
        have hlv' : lf v = false := by simpa [insL, upd, e2] using hlv
        have hfv := h.rf v (by omega)
        have hiv := h.inv v (by omega) hlv'
        have hne : (f v).toNat ≠ (f a).toNat := fun e3 => by
          have h1 := hiv.2
          rw [e3, hia.2] at h1
          omega
        rw [insG_other (by omega) hne]
        exact ⟨by unfold insL; rw [upd_other _ _ (by omega)]; exact hiv.1, hiv.2⟩
  · have := o2 (K - (j + 1)) (by omega)
    rw [show j + 2 + (K - (j + 1)) = K + 1 by omega, show j + 1 + (K - (j + 1)) = K by omega] at this
    rw [this]; exact h.back
  · by_cases h1 : i ≤ j
    · rw [o1 i h1]; exact h.first i hi (by omega)
    · by_cases h2 : i = j + 1
      · rw [h2, o3]; omega
      · have := o2 (i - (j + 2)) (by omega)
        rw [show j + 2 + (i - (j + 2)) = i by omega, show j + 1 + (i - (j + 2)) = i - 1 by omega] at this
        rw [this]; exact h.first (i - 1) (by omega) (by omega)

theorem count_ins : count (insL n lf) (n + 1) = count lf n + 1 := by
  simp only [count, insL, upd_same]
  rw [count_congr (lg := lf) (fun v hv => upd_other _ _ (by omega))]
  simp
end

end Go.Proofs.Qxb6601170a
