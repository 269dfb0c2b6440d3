/-
  SEAT b6601228a: ZZPeppers (13), ZZFirst (18), zzHolds (11).
-/
import Derived.Test.Qxb6601228aAfter
namespace Go.Proofs.Qxb6601228a
open Go.RowKit Go.Deep
set_option linter.unusedVariables false

theorem differ27 (p : List UInt8) (hp : p.length = 16) (w : World) : (binOp .neq 27 (.agg (pc p).toArray) (.agg (pc p).toArray)).run Try.prog w = .ok (.bool false) w := by
  have h1 := run_equalIn_bytes (P := Try.prog) w 9998 27 5 16 Try.underlying27 Try.underlying5 size5 p p hp hp
  rw [beq_self_eq_true] at h1
  have h2 : (Op.equalIn 10000 27 (.agg (pc p).toArray) (.agg (pc p).toArray)).run Try.prog w = .ok true w := h1
  simp only [binOp]
  simp [Op.equal, Op.maxDepth, h2]

/-- A load of an array in a region that only reads. -/
theorem quiet_load_mid {Pr : Program} {C : World → Prop} {o : Oper} {a : Act} {K : Act → Prop} (ty : TypeId) (x : Operand) (ho : o.op = .load ty x) (b off : Nat) (hx : a.eval x = .pointer (some ⟨b, off, none⟩)) (cs : List Value) (d : TypeDesc)
    (hC : ∀ w, C w → w.rangeAt b off cs) (hu : Pr.underlying ty = some d) (hd : d.isRow = true) (hi : (Pr.info? ty).map (·.size) = some cs.length) (hk : K (a.put o.dst (.agg cs.toArray))) : o.quiet Pr a C K :=
  ⟨_, fun w hw => by
    have h : (execOp a.eval o).run Pr w = .ok (.value (.agg cs.toArray)) w := by
      unfold execOp
      simp only [ho, hx, Instr.loadAt, Instr.sureAddr, Sem.run_bind, Sem.run_pure, Result.andThen_ok, run_loadVar_mid w b off ty cs d (hC w hw) hu hd hi]
    unfold Oper.quietAt
    rw [h]
    exact ⟨rfl, rfl⟩, hk⟩

theorem peps13 (o : Nat) (f : Int) (a : Option Addr) (n c : Nat) (w : World) (hO : SObj w o f a n c) : Calls Try.prog 13 #[.pointer (some ⟨o, 0, none⟩)] w fun e w' => e = .returned (.slice a n c) ∧ w = w' := by
  have c1 := hO.c1
  go_enter Try.func13, Try.ntmps13
  go_wp2
  go_ret
  exact ⟨rfl, rfl⟩
theorem first18 (o : Nat) (f : Int) (a : Option Addr) (n c : Nat) (w : World) (hO : SObj w o f a n c) : Calls Try.prog 18 #[.pointer (some ⟨o, 0, none⟩)] w fun e w' => e = .returned (.int .i64 f) ∧ w = w' := by
  have c0 := hO.c0
  go_enter Try.func18, Try.ntmps18
  go_wp2
  go_ret
  exact ⟨rfl, rfl⟩

set_option maxHeartbeats 1000000 in
theorem holds11 (o : Nat) (f : Int) (a a2 : Option Addr) (n c c2 : Nat) (P : Nat → List UInt8) (w : World) (hO : SObj w o f a n c) (hA : PepsAt w a n P) (h2 : PepsAt w a2 n P) (hP : ∀ i, i < n → (P i).length = 16) (hn : n ≤ 65536) :
    Calls Try.prog 11 #[.pointer (some ⟨o, 0, none⟩), .int .i64 f, .slice a2 n c2] w (Law w) := by
  have C13 := peps13 o f a n c w hO
  go_enter Try.func11, Try.ntmps11
  go_wp2_with fail
  refine C13.mono ?_
  rintro e w0 ⟨rfl, rfl⟩
  clear C13
  go_wp2_with fail
  go_loopg [8] n (fun g i wr => ∃ k : Nat, k ≤ n ∧ g = n - k ∧ i = .int .i64 k ∧ Below w.heap.size w wr)
  case atStart => exact ⟨0, Nat.zero_le _, rfl, rfl, Below.refl _ _⟩
  case round =>
    obtain ⟨k, hk, rfl, rfl, hB⟩ := hrel
    by_cases hlt : k < n
    · obtain ⟨b, off, rfl, hc⟩ := hA (by omega)
      obtain ⟨b2, off2, rfl, hc2⟩ := h2 (by omega)
      have hpk := hP k hlt
      have q1 : wr.rangeAt b (off + k * 16) (pc (P k)) := rangeAt_block (hc k hlt) (hB.block b (rangeAt_lt (hc k hlt) hpk))
      have q2 : wr.rangeAt b2 (off2 + k * 16) (pc (P k)) := rangeAt_block (hc2 k hlt) (hB.block b2 (rangeAt_lt (hc2 k hlt) hpk))
      clear hc hc2
      go_upto_region 8 with (first
        | (refine wpList_load_mid (by rfl) 28 _ (by rfl) b (off + k * 16) (by rfl) (pc (P k)) _ q1 Try.underlying28 rfl (size28 hpk) ?_)
        | (refine wpList_store_mid (by rfl) 27 _ _ (by rfl) wr.heap.size 0 (pc (P k)).toArray (by rfl) (by rfl) (there16 wr 27 (P k) hpk) (size27' hpk) (all_oneCell_toArray (pc_one _)) ?_))
      obtain ⟨w4, hw4⟩ : ∃ w4, (wr.alloc (.cells zero16 27)).setCells wr.heap.size 0 (pc (P k)) = w4 := ⟨_, rfl⟩
      have hB4 : Below wr.heap.size wr w4 := hw4 ▸ below16 wr 27 (pc (P k))
      have r4 : w4.rangeAt wr.heap.size 0 (pc (P k)) := hw4 ▸ range16 wr 27 (P k) hpk
      have q4 : w4.rangeAt b2 (off2 + k * 16) (pc (P k)) := rangeAt_block q2 (hB4.block b2 (rangeAt_lt q2 hpk))
      unfold zero16 at hw4
      rw [hw4]
      clear hw4
      have hne := differ27 (P k) hpk
      have hu27 := Try.underlying27
      have hi27 := size27 hpk
      have i0 : 0 ≤ (k : Int) := by omega
      have i1 : (k : Int) < (n : Int) := by omega
      refine wp_region_quiet_lit (by kernel_rfl) (by kernel_rfl) ?_
      refine BigFrame.wpQuiet_want (by rfl) (fun K hK => quiet_load_mid 27 _ (by rfl) wr.heap.size 0 (by rfl) (pc (P k)) _ (fun w' hw' => by obtain ⟨m, rfl⟩ := hw'; exact r4) Try.underlying27 rfl (size27 hpk) (hK _ ?_))
      quiet_step (fail)
      quiet_step (fail)
      quiet_step (fail)
      refine BigFrame.wpQuiet_want (by rfl) (fun K hK => quiet_load_mid 27 _ (by rfl) b2 (off2 + k * 16) (by rfl) (pc (P k)) _ (fun w' hw' => by obtain ⟨m, rfl⟩ := hw'; exact q4) Try.underlying27 rfl (size27 hpk) (hK _ ?_))
      quiet_step (fail)
      refine wpQuiet_nil ?_
      intro w5 hw5
      obtain ⟨nq, rfl⟩ := hw5
      go_wp2_with fail
      go_roundg (n - (k + 1))
      case measure => omega
      case rel => exact ⟨k + 1, by omega, rfl, by go_num, below_drewN (seqB hB hB4) nq⟩
    · have C18 := first18 o f a n c wr (hO.of_block (hB.block o hO.lt))
      go_wp2_with fail
      refine C18.mono ?_
      rintro e w0 ⟨rfl, rfl⟩
      clear C18
      go_wp2
      go_ret
      exact ⟨rfl, hB⟩
end Go.Proofs.Qxb6601228a
