import Derived.Test.Qxb6601170aViews
import Derived.Test.Qxb6601170aGuardB
namespace Go.Proofs.Qxb6601170a
open Go.RowKit Go.Deep
set_option linter.unusedVariables false

set_option maxHeartbeats 400000 in
theorem make26 (l r : Int) (a : Option Addr) (n c : Nat) (w : World) :
    Calls Try.prog 26 #[.int .i64 l, .slice a n c, .int .i64 r] w fun e w' => e = .returned (.agg #[.int .i64 l, .slice a n c, .int .i64 r]) ∧ Below w.heap.size w w' := by
  go_enter Try.func26, Try.ntmps26
  go_wp2
  exact bodyPost_ret (v := .agg #[.int .i64 l, .slice a n c, .int .i64 r]) (by simp [results, Try.results26, go_sem]) rfl ⟨rfl, (Below.refl _ _).alloc (Nat.le_refl _) _⟩
set_option maxHeartbeats 400000 in
theorem fields29 (l r : Int) (a : Option Addr) (n c : Nat) (w : World) :
    Calls Try.prog 29 #[.agg #[.int .i64 l, .slice a n c, .int .i64 r]] w fun e w' => e = .returned (.tuple #[.int .i64 l, .slice a n c, .int .i64 r]) ∧ Below w.heap.size w w' := by
  go_enter Try.func29, Try.ntmps29
  go_wp2
  go_quiet (fail)
  go_wp2
  go_ret3
  exact ⟨rfl, below_drewN' ((Below.refl _ _).alloc (Nat.le_refl _) _) _⟩
set_option maxHeartbeats 400000 in
theorem fields28 (p : Nat) (l r : Int) (a ac am ap : Option Addr) (n c nc cc nm cm np cp : Nat) (w : World)
    (h0 : w.cell? ⟨p, 0, none⟩ = some (.int .i64 l)) (h1 : w.cell? ⟨p, 1, none⟩ = some (.slice a n c)) (h2 : w.cell? ⟨p, 2, none⟩ = some (.int .i64 r))
    (h3 : w.cell? ⟨p, 3, none⟩ = some (.slice ac nc cc)) (h4 : w.cell? ⟨p, 4, none⟩ = some (.slice am nm cm)) (h5 : w.cell? ⟨p, 5, none⟩ = some (.slice ap np cp)) :
    Calls Try.prog 28 #[.pointer (some ⟨p, 0, none⟩)] w fun e w' => e = .returned (.tuple #[.agg #[.int .i64 l, .slice a n c, .int .i64 r], .slice ac nc cc, .slice am nm cm, .slice ap np cp]) ∧ Below w.heap.size w w' := by
  have lt : p < w.heap.size := World.block_lt_of_cell? _ _ h0
  have e : ∀ o j, (w.alloc o).cell? ⟨p, j, none⟩ = w.cell? ⟨p, j, none⟩ := fun o j => World.cell?_of_block (w := w) (Below.heap_alloc _ _ _ lt)
  have g0 : ∀ o, (w.alloc o).cell? ⟨p, 0, none⟩ = some (.int .i64 l) := fun o => (e o 0).trans h0
  have g1 : ∀ o, (w.alloc o).cell? ⟨p, 1, none⟩ = some (.slice a n c) := fun o => (e o 1).trans h1
  have g2 : ∀ o, (w.alloc o).cell? ⟨p, 2, none⟩ = some (.int .i64 r) := fun o => (e o 2).trans h2
  have g3 : ∀ o, (w.alloc o).cell? ⟨p, 3, none⟩ = some (.slice ac nc cc) := fun o => (e o 3).trans h3
  have g4 : ∀ o, (w.alloc o).cell? ⟨p, 4, none⟩ = some (.slice am nm cm) := fun o => (e o 4).trans h4
  have g5 : ∀ o, (w.alloc o).cell? ⟨p, 5, none⟩ = some (.slice ap np cp) := fun o => (e o 5).trans h5
  clear e h0 h1 h2 h3 h4 h5 lt
  go_enter Try.func28, Try.ntmps28
  go_wp2
  go_region
  go_wp2
  exact bodyPost_ret (v := .tuple #[.agg #[.int .i64 l, .slice a n c, .int .i64 r], .slice ac nc cc, .slice am nm cm, .slice ap np cp]) (by simp [results, Try.results28, go_sem]) rfl ⟨rfl, ((Below.refl _ _).alloc (Nat.le_refl _) _).drew⟩

/-- The object's six cells. -/
def six (l r : Int) (a : Option Addr) (n c bc bm bp M k : Nat) : Nat → Value := fun i =>
  if i = 0 then .int .i64 l else if i = 1 then .slice a n c else if i = 2 then .int .i64 r else if i = 3 then .slice (some ⟨bc, 0, none⟩) M M else if i = 4 then .slice (some ⟨bm, 0, none⟩) k k else .slice (some ⟨bp, 0, none⟩) k k

/-- What lies there behind the literal: H the heap's size when the call began; m rows are made. -/
structure Ren (w wr : World) (l r : Int) (a : Option Addr) (nv cv M k n bc bm bp m : Nat) (nf : Nat → Int) (fm fp top : Nat → Value) (rows : Nat → Nat → Value) : Prop where
  below : Below w.heap.size w wr
  size : wr.heap.size = w.heap.size + 6 + m
  num : wr.rowIs (w.heap.size + 1) 3 n (ints nf)
  obj : wr.rowIs (w.heap.size + 5) 65 6 (six l r a nv cv bc bm bp M k)
  mu : wr.rowIs bm 3 k fm
  ph : wr.rowIs bp 3 k fp
  ch : wr.rowIs bc 24 M top
  row : ∀ q, q < m → wr.rowIs (w.heap.size + 6 + q) 3 k (rows q)
  apart : (w.heap.size + 1 < bc ∧ bc < w.heap.size + 5) ∧ (w.heap.size + 1 < bm ∧ bm < w.heap.size + 5) ∧ (w.heap.size + 1 < bp ∧ bp < w.heap.size + 5) ∧ bc ≠ bm ∧ bc ≠ bp ∧ bm ≠ bp

/-- The numbers laid by the first loop. -/
structure Num (w wr : World) (n i : Nat) (l r : Int) (a : Option Addr) (nv cv : Nat) (o nf : Nat → Int) : Prop where
  below : Below w.heap.size w wr
  size : wr.heap.size = w.heap.size + 2
  sch : wr.heap[w.heap.size]? = some (.cells #[.int .i64 l, .slice a nv cv, .int .i64 r] 45)
  row : wr.rowIs (w.heap.size + 1) 3 n (ints nf)
  val : ∀ q, q < i → nf (o q).toNat = q

theorem num_start (w : World) (n : Nat) (l r : Int) (a : Option Addr) (nv cv : Nat) (o : Nat → Int) :
    Num w ((w.alloc (.cells #[.int .i64 l, .slice a nv cv, .int .i64 r] 45)).alloc (.cells (madeCells #[.int .i64 0] n) 3)) n 0 l r a nv cv o (fun _ => 0) := by
  have h := World.rowIs_made (w.alloc (.cells #[.int .i64 l, .slice a nv cv, .int .i64 r] 45)) (.int .i64 0) n 3
  have hs : (w.alloc (.cells #[.int .i64 l, .slice a nv cv, .int .i64 r] 45)).heap.size = w.heap.size + 1 := by simp
  rw [hs] at h
  exact ⟨((Below.refl _ _).alloc (Nat.le_refl _) _).alloc (by omega) _, by simp, by rw [Below.heap_alloc _ _ _ (by omega)]; exact blk_alloc_new _ _, h, fun q hq => by omega⟩

theorem num_step {w wr : World} {n i : Nat} {l r : Int} {a : Option Addr} {nv cv : Nat} {o nf : Nat → Int} (h : Num w wr n i l r a nv cv o nf) (x : Nat) (hx : o i = x) (hd : ∀ q, q < i → o q ≠ o i) (h0 : ∀ q, q < i → 0 ≤ o q) :
    Num w (wr.setCell ⟨w.heap.size + 1, x, none⟩ (.int .i64 i)) n (i + 1) l r a nv cv o (upd nf x i) := by
  refine ⟨h.below.setCell (by show w.heap.size ≤ w.heap.size + 1; omega) _, by simp [h.size], by rw [Below.heap_setCell _ _ _ _ (by show w.heap.size ≠ w.heap.size + 1; omega)]; exact h.sch, (h.row.set x _).congr (fun j hj => ?_), fun q hq => ?_⟩
  · simp only [ints]
    by_cases e : j = x
    · subst e; rw [if_pos rfl, upd_same]
    · rw [if_neg e, upd_other _ _ e]
  · by_cases e : q = i
    · subst e; rw [hx]; show upd nf x q x = _; rw [upd_same]
    · have := hd q (by omega)
      have := h0 q (by omega)
      rw [upd_other _ _ (by omega)]
      exact h.val q (by omega)

theorem made_1 {w wr : World} (hs : wr.heap.size = w.heap.size + 2) (z : Value) (n : Nat) (t : TypeId) (o2 o3 : Obj) : (((wr.alloc (.cells (madeCells #[z] n) t)).alloc o2).alloc o3).rowIs (w.heap.size + 2) t n (fun _ => z) := by
  have h := World.rowIs_made wr z n t
  rw [hs] at h
  exact (h.alloc _).alloc _
theorem made_2 {w wr : World} (hs : wr.heap.size = w.heap.size + 2) (z : Value) (n : Nat) (t : TypeId) (o1 o3 : Obj) : (((wr.alloc o1).alloc (.cells (madeCells #[z] n) t)).alloc o3).rowIs (w.heap.size + 3) t n (fun _ => z) := by
  have h := World.rowIs_made (wr.alloc o1) z n t
  rw [show (wr.alloc o1).heap.size = w.heap.size + 3 by simp; omega] at h
  exact h.alloc _
theorem made_3 {w wr : World} (hs : wr.heap.size = w.heap.size + 2) (z : Value) (n : Nat) (t : TypeId) (o1 o2 : Obj) : (((wr.alloc o1).alloc o2).alloc (.cells (madeCells #[z] n) t)).rowIs (w.heap.size + 4) t n (fun _ => z) := by
  have h := World.rowIs_made ((wr.alloc o1).alloc o2) z n t
  rw [show ((wr.alloc o1).alloc o2).heap.size = w.heap.size + 4 by simp; omega] at h
  exact h

theorem ren_start {w wr : World} {n i : Nat} {l r : Int} {a : Option Addr} {nv cv M k : Nat} {o nf : Nat → Int} (h : Num w wr n i l r a nv cv o nf) {o1 o2 o3 : Obj} {bc bm bp : Nat}
    (hc : (((wr.alloc o1).alloc o2).alloc o3).rowIs bc 24 M (fun _ => .slice none 0 0)) (hm : (((wr.alloc o1).alloc o2).alloc o3).rowIs bm 3 k (fun _ => .int .i64 0)) (hp : (((wr.alloc o1).alloc o2).alloc o3).rowIs bp 3 k (fun _ => .int .i64 0))
    (ha : (w.heap.size + 1 < bc ∧ bc < w.heap.size + 5) ∧ (w.heap.size + 1 < bm ∧ bm < w.heap.size + 5) ∧ (w.heap.size + 1 < bp ∧ bp < w.heap.size + 5) ∧ bc ≠ bm ∧ bc ≠ bp ∧ bm ≠ bp) :
    Ren w ((((wr.alloc o1).alloc o2).alloc o3).alloc (.cells #[.int .i64 l, .slice a nv cv, .int .i64 r, .slice (some ⟨bc, 0, none⟩) M M, .slice (some ⟨bm, 0, none⟩) k k, .slice (some ⟨bp, 0, none⟩) k k] 65)).drew l r a nv cv M k n bc bm bp 0 nf
      (fun _ => .int .i64 0) (fun _ => .int .i64 0) (fun _ => .slice none 0 0) (fun _ _ => .int .i64 0) := by
  have hs := h.size
  refine ⟨((((h.below.alloc (by omega) _).alloc (by simp; omega) _).alloc (by simp; omega) _).alloc (by simp; omega) _).drew, by simp; omega, ((((h.row.alloc _).alloc _).alloc _).alloc _).drew, ?_, (hm.alloc _).drew, (hp.alloc _).drew, (hc.alloc _).drew, fun q hq => by omega, ha⟩
  refine ⟨#[.int .i64 l, .slice a nv cv, .int .i64 r, .slice (some ⟨bc, 0, none⟩) M M, .slice (some ⟨bm, 0, none⟩) k k, .slice (some ⟨bp, 0, none⟩) k k], ?_, rfl, fun j hj => ?_⟩
  · have e : (((wr.alloc o1).alloc o2).alloc o3).heap.size = w.heap.size + 5 := by simp; omega
    rw [← e]; exact blk_alloc_new _ _
  · match j, hj with
    | 0, _ => rfl
    | 1, _ => rfl
    | 2, _ => rfl
    | 3, _ => rfl
    | 4, _ => rfl
    | 5, _ => rfl

section
variable {w wr : World} {l r : Int} {a : Option Addr} {nv cv M k n bc bm bp m : Nat} {nf : Nat → Int} {fm fp top : Nat → Value} {rows : Nat → Nat → Value}

theorem Ren.drew (h : Ren w wr l r a nv cv M k n bc bm bp m nf fm fp top rows) : Ren w wr.drew l r a nv cv M k n bc bm bp m nf fm fp top rows :=
  ⟨h.below.drew, h.size, h.num.drew, h.obj.drew, h.mu.drew, h.ph.drew, h.ch.drew, fun q hq => (h.row q hq).drew, h.apart⟩

theorem Ren.congr {fm' fp' top' : Nat → Value} {rows' : Nat → Nat → Value} (h : Ren w wr l r a nv cv M k n bc bm bp m nf fm fp top rows) (h1 : ∀ i, i < k → fm i = fm' i) (h2 : ∀ i, i < k → fp i = fp' i) (h3 : ∀ i, i < M → top i = top' i) (h4 : ∀ q, q < m → ∀ i, i < k → rows q i = rows' q i) :
    Ren w wr l r a nv cv M k n bc bm bp m nf fm' fp' top' rows' :=
  ⟨h.below, h.size, h.num, h.obj, h.mu.congr h1, h.ph.congr h2, h.ch.congr h3, fun q hq => (h.row q hq).congr (h4 q hq), h.apart⟩

theorem Ren.setMP (h : Ren w wr l r a nv cv M k n bc bm bp m nf fm fp top rows) (i : Nat) (v1 v2 : Value) :
    Ren w ((wr.setCell ⟨bm, i, none⟩ v1).setCell ⟨bp, i, none⟩ v2) l r a nv cv M k n bc bm bp m nf (fun j => if j = i then v1 else fm j) (fun j => if j = i then v2 else fp j) top rows := by
  obtain ⟨⟨c1, c2⟩, ⟨m1, m2⟩, ⟨p1, p2⟩, n1, n2, n3⟩ := h.apart
  have o : ∀ {b t n' f}, wr.rowIs b t n' f → b ≠ bm → b ≠ bp → ((wr.setCell ⟨bm, i, none⟩ v1).setCell ⟨bp, i, none⟩ v2).rowIs b t n' f := fun h e1 e2 => (h.setOther e1 _).setOther e2 _
  exact ⟨(h.below.setCell (by show w.heap.size ≤ bm; omega) _).setCell (by show w.heap.size ≤ bp; omega) _, by simp [h.size], o h.num (by omega) (by omega), o h.obj (by omega) (by omega), (h.mu.set i _).setOther n3 _, (h.ph.setOther (Ne.symm n3) _).set i _, o h.ch n1 n2, fun q hq => o (h.row q hq) (by omega) (by omega), h.apart⟩

theorem Ren.newRow (h : Ren w wr l r a nv cv M k n bc bm bp m nf fm fp top rows) :
    Ren w ((wr.alloc (.cells (madeCells #[.int .i64 0] k) 3)).setCell ⟨bc, m, none⟩ (.slice (some ⟨w.heap.size + 6 + m, 0, none⟩) k k)) l r a nv cv M k n bc bm bp (m + 1) nf fm fp (fun j => if j = m then .slice (some ⟨w.heap.size + 6 + m, 0, none⟩) k k else top j) (fun q j => if q = m then .int .i64 0 else rows q j) := by
  obtain ⟨⟨c1, c2⟩, ⟨m1, m2⟩, ⟨p1, p2⟩, n1, n2, n3⟩ := h.apart
  have hs := h.size
  have nr := World.rowIs_made wr (.int .i64 0) k 3
  rw [hs] at nr
  have o : ∀ {b t n' f}, wr.rowIs b t n' f → b ≠ bc → ((wr.alloc (.cells (madeCells #[.int .i64 0] k) 3)).setCell ⟨bc, m, none⟩ (.slice (some ⟨w.heap.size + 6 + m, 0, none⟩) k k)).rowIs b t n' f := fun h e1 => (h.alloc _).setOther e1 _
  refine ⟨(h.below.alloc (by omega) _).setCell (by show w.heap.size ≤ bc; omega) _, by simp; omega, o h.num (by omega), o h.obj (by omega), o h.mu (Ne.symm n1), o h.ph (Ne.symm n2), (h.ch.alloc _).set m _, fun q hq => ?_, h.apart⟩
  by_cases e : q = m
  · subst e
    exact (nr.setOther (by show w.heap.size + 6 + q ≠ bc; omega) _).congr (fun j _ => by simp)
  · exact (o (h.row q (by omega)) (by omega)).congr (fun j _ => by simp [e])

theorem Ren.setRow (h : Ren w wr l r a nv cv M k n bc bm bp m nf fm fp top rows) {q : Nat} (hq : q < m) (i : Nat) (v : Value) :
    Ren w (wr.setCell ⟨w.heap.size + 6 + q, i, none⟩ v) l r a nv cv M k n bc bm bp m nf fm fp top (fun s j => if s = q ∧ j = i then v else rows s j) := by
  obtain ⟨⟨c1, c2⟩, ⟨m1, m2⟩, ⟨p1, p2⟩, n1, n2, n3⟩ := h.apart
  have o : ∀ {b t n' f}, wr.rowIs b t n' f → b ≠ w.heap.size + 6 + q → (wr.setCell ⟨w.heap.size + 6 + q, i, none⟩ v).rowIs b t n' f := fun h e1 => h.setOther e1 _
  refine ⟨h.below.setCell (by show w.heap.size ≤ w.heap.size + 6 + q; omega) _, by simp [h.size], o h.num (by omega), o h.obj (by omega), o h.mu (by omega), o h.ph (by omega), o h.ch (by omega), fun s hs => ?_, h.apart⟩
  by_cases e : s = q
  · subst e
    exact ((h.row s hs).set i _).congr (fun j _ => by simp)
  · exact (o (h.row s hs) (by omega)).congr (fun j _ => by simp [e])

theorem Ren.f1 (h : Ren w wr l r a nv cv M k n bc bm bp m nf fm fp top rows) : wr.cell? ⟨w.heap.size + 5, 3, none⟩ = some (.slice (some ⟨bc, 0, none⟩) M M) := h.obj.cell (i := 3) (by omega)
theorem Ren.f2 (h : Ren w wr l r a nv cv M k n bc bm bp m nf fm fp top rows) : wr.cell? ⟨w.heap.size + 5, 4, none⟩ = some (.slice (some ⟨bm, 0, none⟩) k k) := h.obj.cell (i := 4) (by omega)
theorem Ren.f3 (h : Ren w wr l r a nv cv M k n bc bm bp m nf fm fp top rows) : wr.cell? ⟨w.heap.size + 5, 5, none⟩ = some (.slice (some ⟨bp, 0, none⟩) k k) := h.obj.cell (i := 5) (by omega)
end

/-- The child of new peer i in layer q: none, or the new number of the old child. -/
def pull (Z : Nat → Nat → Int) (o nf : Nat → Int) (q i : Nat) : Int := if Z q (o i).toNat < 0 then -1 else nf (Z q (o i).toNat).toNat

/-- The rows while row m is being filled: its first i cells are done. -/
def part (P : Nat → Nat → Int) (m i : Nat) : Nat → Nat → Value := fun q => if q = m then fill (ints (P m)) (.int .i64 0) i else ints (P q)
theorem part_zero (P : Nat → Nat → Int) (m q j : Nat) : (if q = m then .int .i64 0 else ints (P q) j) = part P m 0 q j := by
  simp only [part]
  by_cases e : q = m
  · simp [e, fill]
  · simp [e]
theorem part_succ (P : Nat → Nat → Int) (m i q j : Nat) (v : Value) (hv : v = .int .i64 (P m i)) : (if q = m ∧ j = i then v else part P m i q j) = part P m (i + 1) q j := by
  subst hv
  simp only [part]
  by_cases e : q = m
  · subst e
    simp only [if_true, true_and]
    exact fill_succ (ints (P q)) _ i j
  · simp [e]
theorem part_full (P : Nat → Nat → Int) (m k q : Nat) {j : Nat} (hj : j < k) : part P m k q j = ints (P q) j := by
  simp only [part]
  by_cases e : q = m
  · subst e; simp only [if_true]; exact fill_full _ _ hj
  · simp [e]

set_option maxRecDepth 100000 in
set_option maxHeartbeats 1000000 in
theorem renum41 (l r : Int) (av ac am ap ao : Option Addr) (nv M n np k cv cc cm cp co : Nat) (A : Nat → Option Addr) (L C : Nat → Nat) (Z : Nat → Nat → Int) (mu ph o : Nat → Int) (w : World)
    (hC : Rows2 w ac M A L C Z) (hMu : RowAt w am n (ints mu)) (hPh : RowAt w ap np (ints ph)) (hO : RowAt w ao k (ints o)) (hn : n ≤ 1048576) (hM : M ≤ 1048576) (hp : np ≤ 1048576) (hk : k ≤ 1048576) (hls : ∀ r, r < M → L r ≤ 1048576)
    (hOK : OrderOK k n np M L o Z) :
    Calls Try.prog 41 #[.agg #[.int .i64 l, .slice av nv cv, .int .i64 r], .slice ac M cc, .slice am n cm, .slice ap np cp, .slice ao k co] w fun e w' => e = .returned (.pointer (some ⟨w.heap.size + 5, 0, none⟩)) ∧
      ∃ (nf : Nat → Int) (bc bm bp : Nat), (∀ q : Nat, q < k → nf (o q).toNat = q) ∧ Ren w w' l r av nv cv M k n bc bm bp M nf (ints fun i => mu (o i).toNat) (ints fun i => ph (o i).toNat) (fun q => .slice (some ⟨w.heap.size + 6 + q, 0, none⟩) k k) (fun q => ints (pull Z o nf q)) := by
  have hmk := run_make_row' (P := Try.prog) 24 3 (.int .i64 0) 8 Try.underlying24 Try.info3 rfl .i64 .i64 n (by omega) (by omega)
  go_enter Try.func41, Try.ntmps41
  go_wp2
  clear hmk
  go_loopg [27] k (fun g i wr => ∃ (q : Nat) (nf : Nat → Int), q ≤ k ∧ g = k - q ∧ i = .int .i64 q ∧ Num w wr n q l r av nv cv o nf)
  case atStart => exact ⟨0, _, Nat.zero_le _, rfl, rfl, num_start w n l r av nv cv o⟩
  case round =>
    obtain ⟨q, nf, hq, rfl, rfl, hN⟩ := hrel
    have hb := hN.below
    by_cases hlt : q < k
    · obtain ⟨bo, oo, rfl, hco⟩ := hO (by omega)
      have hrg := hOK.rng q hlt
      obtain ⟨x, HX⟩ : ∃ x : Nat, Hid (o q = x) := ⟨(o q).toNat, by show _ = _; omega⟩
      have hxn : x < n := by have := HX.out; omega
      have c0 : wr.cell? ⟨bo, oo + q, none⟩ = some (.int .i64 x) := by rw [hb.cell (World.block_lt_of_cell? _ _ (hco q hlt)), hco q hlt]; simp only [ints]; rw [HX.out]
      obtain ⟨v, c1⟩ : ∃ v, wr.cell? ⟨w.heap.size + 1, x, none⟩ = some v := ⟨_, hN.row.cell hxn⟩
      have c2 : wr.frozen? ⟨w.heap.size + 1, x, none⟩ = false := hN.row.frozen x
      clear hco hrg
      go_wp2
      go_roundg (k - (q + 1))
      case measure => omega
      case rel => exact ⟨q + 1, _, by omega, rfl, by go_num, num_step hN x HX.out (fun s hs => hOK.dist s q hs hlt) (fun s hs => (hOK.rng s (by omega)).1)⟩
    · have hmk1 := run_make_row' (P := Try.prog) 24 3 (.int .i64 0) 8 Try.underlying24 Try.info3 rfl .i64 .i64 k (by omega) (by omega)
      have hmk2 := run_make_row' (P := Try.prog) 22 24 (.slice none 0 0) 24 Try.underlying22 Try.info24 rfl .i64 .i64 M (by omega) (by omega)
      have hsz := hN.size
      have hqk : q = k := by omega
      have HQ : Hid (q = k) := hqk
      clear hqk
      have sc : ∀ (W : World) (j : Nat), W.heap[w.heap.size]? = some (.cells #[.int .i64 l, .slice av nv cv, .int .i64 r] 45) → W.cell? ⟨w.heap.size, j, none⟩ = (#[.int .i64 l, .slice av nv cv, .int .i64 r] : Array Value)[j]? := fun W j h => by simp [World.cell?, h]
      have q1 : ∀ o, (wr.alloc o).heap[w.heap.size]? = some (.cells #[.int .i64 l, .slice av nv cv, .int .i64 r] 45) := fun o => by rw [Below.heap_alloc _ _ _ (by omega)]; exact hN.sch
      have q2 : ∀ o o', ((wr.alloc o).alloc o').heap[w.heap.size]? = some (.cells #[.int .i64 l, .slice av nv cv, .int .i64 r] 45) := fun o o' => by rw [Below.heap_alloc _ _ _ (by simp; omega)]; exact q1 o
      have q3 : ∀ o o' o'', (((wr.alloc o).alloc o').alloc o'').heap[w.heap.size]? = some (.cells #[.int .i64 l, .slice av nv cv, .int .i64 r] 45) := fun o o' o'' => by rw [Below.heap_alloc _ _ _ (by simp; omega)]; exact q2 o o'
      have a0 : wr.cell? ⟨w.heap.size, 0, none⟩ = some (.int .i64 l) := sc wr 0 hN.sch
      have a1 : wr.cell? ⟨w.heap.size, 1, none⟩ = some (.slice av nv cv) := sc wr 1 hN.sch
      have a2 : wr.cell? ⟨w.heap.size, 2, none⟩ = some (.int .i64 r) := sc wr 2 hN.sch
      have b0 : ∀ o, (wr.alloc o).cell? ⟨w.heap.size, 0, none⟩ = some (.int .i64 l) := fun o => sc _ 0 (q1 o)
      have b1 : ∀ o, (wr.alloc o).cell? ⟨w.heap.size, 1, none⟩ = some (.slice av nv cv) := fun o => sc _ 1 (q1 o)
      have b2 : ∀ o, (wr.alloc o).cell? ⟨w.heap.size, 2, none⟩ = some (.int .i64 r) := fun o => sc _ 2 (q1 o)
      have c0 : ∀ o o', ((wr.alloc o).alloc o').cell? ⟨w.heap.size, 0, none⟩ = some (.int .i64 l) := fun o o' => sc _ 0 (q2 o o')
      have c1 : ∀ o o', ((wr.alloc o).alloc o').cell? ⟨w.heap.size, 1, none⟩ = some (.slice av nv cv) := fun o o' => sc _ 1 (q2 o o')
      have c2 : ∀ o o', ((wr.alloc o).alloc o').cell? ⟨w.heap.size, 2, none⟩ = some (.int .i64 r) := fun o o' => sc _ 2 (q2 o o')
      have d0 : ∀ o o' o'', (((wr.alloc o).alloc o').alloc o'').cell? ⟨w.heap.size, 0, none⟩ = some (.int .i64 l) := fun o o' o'' => sc _ 0 (q3 o o' o'')
      have d1 : ∀ o o' o'', (((wr.alloc o).alloc o').alloc o'').cell? ⟨w.heap.size, 1, none⟩ = some (.slice av nv cv) := fun o o' o'' => sc _ 1 (q3 o o' o'')
      have d2 : ∀ o o' o'', (((wr.alloc o).alloc o').alloc o'').cell? ⟨w.heap.size, 2, none⟩ = some (.int .i64 r) := fun o o' o'' => sc _ 2 (q3 o o' o'')
      clear sc q1 q2 q3
      go_wp2
      go_cut [14] (fun s wc => s = .pointer (some ⟨w.heap.size + 5, 0, none⟩) ∧ ∃ bc bm bp, Ren w wc l r av nv cv M k n bc bm bp 0 nf (fun _ => .int .i64 0) (fun _ => .int .i64 0) (fun _ => .slice none 0 0) (fun _ _ => .int .i64 0))
      case first =>
        go_region
        all_goals (go_wp2_with fail; go_meet)
        all_goals first
          | exact ⟨rfl, _, _, _, ren_start hN (made_1 hsz _ _ _ _ _) (made_2 hsz _ _ _ _ _) (made_3 hsz _ _ _ _ _) (by omega)⟩
          | exact ⟨rfl, _, _, _, ren_start hN (made_1 hsz _ _ _ _ _) (made_3 hsz _ _ _ _ _) (made_2 hsz _ _ _ _ _) (by omega)⟩
          | exact ⟨rfl, _, _, _, ren_start hN (made_2 hsz _ _ _ _ _) (made_1 hsz _ _ _ _ _) (made_3 hsz _ _ _ _ _) (by omega)⟩
          | exact ⟨rfl, _, _, _, ren_start hN (made_2 hsz _ _ _ _ _) (made_3 hsz _ _ _ _ _) (made_1 hsz _ _ _ _ _) (by omega)⟩
          | exact ⟨rfl, _, _, _, ren_start hN (made_3 hsz _ _ _ _ _) (made_1 hsz _ _ _ _ _) (made_2 hsz _ _ _ _ _) (by omega)⟩
          | exact ⟨rfl, _, _, _, ren_start hN (made_3 hsz _ _ _ _ _) (made_2 hsz _ _ _ _ _) (made_1 hsz _ _ _ _ _) (by omega)⟩
      case rest =>
        obtain ⟨rfl, bc, bm, bp, hRen⟩ := hcut
        have HV : Hid (∀ q, q < k → nf (o q).toNat = (q : Int)) := fun q' hq' => hN.val q' (by have := HQ.out; omega)
        clear a0 a1 a2 b0 b1 b2 c0 c1 c2 d0 d1 d2 hmk2 hsz hN hb hmk1
        have HF : Hid (∀ i, i < k → ∃ x : Nat, o i = x ∧ x < n ∧ x < np ∧ ∀ m, m < M → x < L m) := fun i hi => by
          obtain ⟨z1, z2, z3, z4⟩ := hOK.rng i hi
          exact ⟨(o i).toNat, by omega, by omega, by omega, fun m hm => by have := z4 m hm; omega⟩
        go_wp2
        go_loopg [51] k (fun g i wi => ∃ q : Nat, q ≤ k ∧ g = k - q ∧ i = .int .i64 q ∧ Ren w wi l r av nv cv M k n bc bm bp 0 nf (fill (ints fun i => mu (o i).toNat) (.int .i64 0) q) (fill (ints fun i => ph (o i).toNat) (.int .i64 0) q) (fun _ => .slice none 0 0) (fun _ _ => .int .i64 0))
        case atStart => exact ⟨0, Nat.zero_le _, rfl, rfl, hRen.congr (fun i _ => fill_zero _ _ _) (fun i _ => fill_zero _ _ _) (fun _ _ => rfl) (fun _ _ _ _ => rfl)⟩
        case round =>
          clear hRen hlt hq
          obtain ⟨q', hq', rfl, rfl, hRen⟩ := hrel
          have hb := hRen.below
          by_cases hlt : q' < k
          · obtain ⟨bo, oo, rfl, hco⟩ := hO (by omega)
            obtain ⟨x, hx, hxn, hxp, hxL⟩ := HF.out q' hlt
            have HX : Hid (o q' = x) := hx
            obtain ⟨bu, ou, rfl, hcu⟩ := hMu (by omega)
            obtain ⟨bh, oh, rfl, hch⟩ := hPh (by omega)
            have c0 : wr.cell? ⟨bo, oo + q', none⟩ = some (.int .i64 x) := by rw [hb.cell (World.block_lt_of_cell? _ _ (hco q' hlt)), hco q' hlt]; simp only [ints]; rw [hx]
            have c1 : wr.cell? ⟨bu, ou + x, none⟩ = some (.int .i64 (mu x)) := by rw [hb.cell (World.block_lt_of_cell? _ _ (hcu x hxn)), hcu x hxn]; rfl
            have c2 : wr.cell? ⟨bh, oh + x, none⟩ = some (.int .i64 (ph x)) := by rw [hb.cell (World.block_lt_of_cell? _ _ (hch x hxp)), hch x hxp]; rfl
            have c3 := hRen.f2
            have c4 := hRen.f3
            obtain ⟨v1, c5⟩ : ∃ v, wr.cell? ⟨bm, q', none⟩ = some v := ⟨_, hRen.mu.cell hlt⟩
            obtain ⟨v2, c6⟩ : ∃ v, wr.cell? ⟨bp, q', none⟩ = some v := ⟨_, hRen.ph.cell hlt⟩
            have c7 : wr.frozen? ⟨bm, q', none⟩ = false := hRen.mu.frozen q'
            have c8 : wr.frozen? ⟨bp, q', none⟩ = false := hRen.ph.frozen q'
            have n1 : bm ≠ bp := hRen.apart.2.2.2.2.2
            have n2 : bp ≠ bm := Ne.symm n1
            have i0 : (0 : Int) ≤ (q' : Int) := Int.natCast_nonneg _
            have i1 : (q' : Int) < (k : Int) := by omega
            have i2 : (0 : Int) ≤ (x : Int) := Int.natCast_nonneg _
            have i3 : (x : Int) < (n : Int) := by omega
            have i4 : (x : Int) < (np : Int) := by omega
            clear hco hcu hch hx hxL hO hMu hPh
            go_wp2
            go_region
            go_wp2
            go_roundg (k - (q' + 1))
            case measure => omega
            case rel =>
              have ex : (o q').toNat = x := by have := HX.out; omega
              exact ⟨q' + 1, by omega, rfl, by go_num, (hRen.setMP q' _ _).drew.congr (fun i _ => by rw [← fill_succ]; simp only [ints, ex]) (fun i _ => by rw [← fill_succ]; simp only [ints, ex]) (fun _ _ => rfl) (fun _ _ _ _ => rfl)⟩
          · have hRen2 : Ren w wr l r av nv cv M k n bc bm bp 0 nf (ints fun i => mu (o i).toNat) (ints fun i => ph (o i).toNat) (fill (fun q => .slice (some ⟨w.heap.size + 6 + q, 0, none⟩) k k) (.slice none 0 0) 0) (fun q => ints (pull Z o nf q)) :=
              hRen.congr (fun i hi => by rw [fill_full _ _ (by omega)]) (fun i hi => by rw [fill_full _ _ (by omega)]) (fun i _ => fill_zero _ _ _) (fun q hq => by omega)
            clear hRen hb hMu hPh
            go_wp2
            go_loopg [79] M (fun g i wi => ∃ m : Nat, m ≤ M ∧ g = M - m ∧ i = .int .i64 m ∧ Ren w wi l r av nv cv M k n bc bm bp m nf (ints fun i => mu (o i).toNat) (ints fun i => ph (o i).toNat) (fill (fun q => .slice (some ⟨w.heap.size + 6 + q, 0, none⟩) k k) (.slice none 0 0) m) (fun q => ints (pull Z o nf q)))
            case atStart => exact ⟨0, Nat.zero_le _, rfl, rfl, hRen2⟩
            case round =>
              clear hRen2 hlt hq'
              obtain ⟨m, hm, rfl, rfl, hRen⟩ := hrel
              by_cases hmM : m < M
              · have hb := hRen.below
                obtain ⟨bb, ob, rfl, hcc⟩ := hC.top (by omega)
                have c0 : wr.cell? ⟨bb, ob + m, none⟩ = some (.slice (A m) (L m) (C m)) := by rw [hb.cell (World.block_lt_of_cell? _ _ (hcc m hmM))]; exact hcc m hmM
                have hmk1 := run_make_row' (P := Try.prog) 24 3 (.int .i64 0) 8 Try.underlying24 Try.info3 rfl .i64 .i64 k (by omega) (by omega)
                have hsz := hRen.size
                have c1 := hRen.f1
                have c1a : ∀ o, (wr.alloc o).cell? ⟨w.heap.size + 5, 3, none⟩ = some (.slice (some ⟨bc, 0, none⟩) M M) := fun o => (hRen.obj.alloc o).cell (i := 3) (by omega)
                obtain ⟨v1, c2⟩ : ∃ v, ∀ o, (wr.alloc o).cell? ⟨bc, m, none⟩ = some v := ⟨_, fun o => (hRen.ch.alloc o).cell hmM⟩
                have c3 : ∀ o, (wr.alloc o).frozen? ⟨bc, m, none⟩ = false := fun o => (hRen.ch.alloc o).frozen m
                have i0 : (0 : Int) ≤ (m : Int) := Int.natCast_nonneg _
                have i1 : (m : Int) < (M : Int) := by omega
                obtain ⟨Am, hAm⟩ : ∃ Am, A m = Am := ⟨_, rfl⟩
                have hrow : RowAt w Am (L m) (ints (Z m)) := by rw [← hAm]; exact hC.rows m hmM
                rw [hAm] at c0
                have hlm := hls m hmM
                have HXL : Hid (∀ i, i < k → ∃ x : Nat, o i = x ∧ x < L m) := fun i hi => by obtain ⟨x, e1, _, _, e2⟩ := HF.out i hi; exact ⟨x, e1, e2 m hmM⟩
                have HCL : Hid (∀ i, i < k → 0 ≤ Z m (o i).toNat → ∃ g, g < k ∧ o g = Z m (o i).toNat) := fun i hi h0 => hOK.clos i hi m hmM h0
                clear hcc hAm
                go_wp2
                go_region
                have hR3 : Ren w ((wr.alloc (.cells (madeCells #[.int .i64 0] k) 3)).setCell ⟨bc, m, none⟩ (.slice (some ⟨w.heap.size + 6 + m, 0, none⟩) k k)).drew l r av nv cv M k n bc bm bp (m + 1) nf (ints fun i => mu (o i).toNat) (ints fun i => ph (o i).toNat) (fill (fun q => .slice (some ⟨w.heap.size + 6 + q, 0, none⟩) k k) (.slice none 0 0) (m + 1)) (part (pull Z o nf) m 0) :=
                  hRen.newRow.drew.congr (fun _ _ => rfl) (fun _ _ => rfl) (fun i _ => fill_succ _ _ m i) (fun q _ j _ => part_zero _ m q j)
                clear c0 c1 c1a c2 c3 hmk1 hsz hRen hb
                go_wp2
                go_loopg [95] k (fun g i wi => ∃ q : Nat, q ≤ k ∧ g = k - q ∧ i = .int .i64 q ∧ Ren w wi l r av nv cv M k n bc bm bp (m + 1) nf (ints fun i => mu (o i).toNat) (ints fun i => ph (o i).toNat) (fill (fun q => .slice (some ⟨w.heap.size + 6 + q, 0, none⟩) k k) (.slice none 0 0) (m + 1)) (part (pull Z o nf) m q))
                case atStart => exact ⟨0, Nat.zero_le _, rfl, rfl, hR3⟩
                case round =>
                  clear hR3
                  obtain ⟨i, hi, rfl, rfl, hRen⟩ := hrel
                  by_cases hik : i < k
                  · have hb := hRen.below
                    obtain ⟨bo, oo, rfl, hco⟩ := hO (by omega)
                    obtain ⟨x, hx, hxL⟩ := HXL.out i hik
                    have HX : Hid (o i = x) := hx
                    have hxt : (o i).toNat = x := by omega
                    have hclos := HCL.out i hik
                    rw [hxt] at hclos
                    have c0 : wr.cell? ⟨bo, oo + i, none⟩ = some (.int .i64 x) := by rw [hb.cell (World.block_lt_of_cell? _ _ (hco i hik)), hco i hik]; simp only [ints]; rw [hx]
                    obtain ⟨br, or', rfl, hcr⟩ := hrow (by omega)
                    have hbr : br < w.heap.size := World.block_lt_of_cell? _ _ (hcr x hxL)
                    have c1 := hRen.f1
                    have c2 : wr.cell? ⟨bc, m, none⟩ = some (.slice (some ⟨w.heap.size + 6 + m, 0, none⟩) k k) := by rw [hRen.ch.cell hmM, fill_full _ _ (by omega)]
                    obtain ⟨v0, c3⟩ : ∃ v, wr.cell? ⟨w.heap.size + 6 + m, i, none⟩ = some v := ⟨_, (hRen.row m (by omega)).cell hik⟩
                    have c4 : wr.frozen? ⟨w.heap.size + 6 + m, i, none⟩ = false := (hRen.row m (by omega)).frozen i
                    have hR1 := hRen.setRow (q := m) (by omega) i (.int .i64 (-1))
                    have d0 : (wr.setCell ⟨w.heap.size + 6 + m, i, none⟩ (.int .i64 (-1))).cell? ⟨br, or' + x, none⟩ = some (.int .i64 (Z m x)) := by rw [hR1.below.cell (by exact hbr)]; exact hcr x hxL
                    have d1 := hR1.f1
                    have d2 : (wr.setCell ⟨w.heap.size + 6 + m, i, none⟩ (.int .i64 (-1))).cell? ⟨bc, m, none⟩ = some (.slice (some ⟨w.heap.size + 6 + m, 0, none⟩) k k) := by rw [hR1.ch.cell hmM, fill_full _ _ (by omega)]
                    obtain ⟨v1, d3⟩ : ∃ v, (wr.setCell ⟨w.heap.size + 6 + m, i, none⟩ (.int .i64 (-1))).cell? ⟨w.heap.size + 6 + m, i, none⟩ = some v := ⟨_, (hR1.row m (by omega)).cell hik⟩
                    have d4 : (wr.setCell ⟨w.heap.size + 6 + m, i, none⟩ (.int .i64 (-1))).frozen? ⟨w.heap.size + 6 + m, i, none⟩ = false := (hR1.row m (by omega)).frozen i
                    have i2 : (0 : Int) ≤ (x : Int) := Int.natCast_nonneg _
                    have i3 : (x : Int) < (L m : Int) := by omega
                    have j2 : (0 : Int) ≤ (i : Int) := Int.natCast_nonneg _
                    have j3 : (i : Int) < (k : Int) := by omega
                    have HXT : Hid ((o i).toNat = x) := hxt
                    clear hco hcr hx hxt hO
                    by_cases t1 : Z m x < 0
                    · have HZ1 : Hid (Z m x < 0) := t1
                      go_wp2
                      go_roundg (k - (i + 1))
                      case measure => omega
                      case rel => exact ⟨i + 1, by omega, rfl, by go_num, hR1.congr (fun _ _ => rfl) (fun _ _ => rfl) (fun _ _ => rfl) (fun q _ j _ => part_succ _ m i q j _ (by simp only [pull]; rw [HXT.out, if_pos HZ1.out]))⟩
                    · obtain ⟨g, hg, eg⟩ := hclos (by omega)
                      obtain ⟨y, HY⟩ : ∃ y : Nat, Hid (Z m x = y) := ⟨(Z m x).toNat, by show _ = _; omega⟩
                      have HYT : Hid ((Z m x).toNat = y) := by have := HY.out; show _ = _; omega
                      have hyn : y < n := by obtain ⟨x', e1, e2, _⟩ := HF.out g hg; have := HY.out; omega
                      rw [HY.out] at d0
                      have d5 : (wr.setCell ⟨w.heap.size + 6 + m, i, none⟩ (.int .i64 (-1))).cell? ⟨w.heap.size + 1, y, none⟩ = some (.int .i64 (nf y)) := hR1.num.cell hyn
                      have k2 : (0 : Int) ≤ (y : Int) := Int.natCast_nonneg _
                      have k3 : (y : Int) < (n : Int) := by omega
                      have HT1 : Hid (¬ Z m x < 0) := t1
                      clear t1 hg eg
                      go_wp2
                      go_region
                      go_wp2
                      go_roundg (k - (i + 1))
                      case measure => omega
                      case rel =>
                        have hR2 := hR1.setRow (q := m) (by omega) i (.int .i64 (nf y))
                        refine ⟨i + 1, by omega, rfl, by go_num, hR2.drew.congr (fun _ _ => rfl) (fun _ _ => rfl) (fun _ _ => rfl) (fun q _ j _ => ?_)⟩
                        rw [← part_succ _ m i q j (.int .i64 (nf y)) (by simp only [pull]; rw [HXT.out, if_neg (by have := HT1.out; omega), HYT.out])]
                        by_cases e : q = m ∧ j = i
                        · rw [if_pos e, if_pos e]
                        · rw [if_neg e, if_neg e, if_neg e]
                  · have hie : i = k := by omega
                    have HI : Hid (i = k) := hie
                    clear hie
                    go_wp2
                    go_roundg (M - (m + 1))
                    case measure => omega
                    case rel => exact ⟨m + 1, by omega, rfl, by go_num, hRen.congr (fun _ _ => rfl) (fun _ _ => rfl) (fun _ _ => rfl) (fun q _ j hj => part_full _ m i q (by have := HI.out; omega))⟩
              · have hme : m = M := by omega
                subst hme
                go_wp2
                go_ret
                exact ⟨rfl, nf, bc, bm, bp, HV.out, hRen.congr (fun _ _ => rfl) (fun _ _ => rfl) (fun i hi => fill_full _ _ hi) (fun _ _ _ _ => rfl)⟩
end Go.Proofs.Qxb6601170a
