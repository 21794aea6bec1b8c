/-
   Walks written by program (wip/gen).
-/
import Derived.Test.Qxb6600121aTabs
namespace Go.Proofs.Qxb6600121a
open Go Go.Proofs
set_option linter.unusedVariables false
set_option linter.unusedSimpArgs false

set_option maxRecDepth 10000 in
theorem newSolver0 (w : World) (n : Int) (ru bh us ex va pa op so wa cl ne : Option Addr × Nat × Nat) :
    CallsS Try.prog 35 #[.int .i64 n, (.slice ru.1 ru.2.1 ru.2.2), (.slice bh.1 bh.2.1 bh.2.2), (.slice us.1 us.2.1 us.2.2), (.slice ex.1 ex.2.1 ex.2.2), (.slice va.1 va.2.1 va.2.2), (.slice pa.1 pa.2.1 pa.2.2), (.slice op.1 op.2.1 op.2.2), (.slice so.1 so.2.1 so.2.2), (.slice wa.1 wa.2.1 wa.2.2), (.slice cl.1 cl.2.1 cl.2.2), (.slice ne.1 ne.2.1 ne.2.2)] w (fun r w' => r = .pointer (some ⟨w.heap.size + 1, 0, none⟩) ∧ Fr (fun _ => False) w w' ∧ w'.heap.size = w.heap.size + 2 ∧
      Blk w'.heap w.heap.size 65 [.int .i64 n, (.slice ru.1 ru.2.1 ru.2.2)] ∧ Blk w'.heap (w.heap.size + 1) 61 [.pointer (some ⟨w.heap.size, 0, none⟩), (.slice bh.1 bh.2.1 bh.2.2), (.slice us.1 us.2.1 us.2.2), (.slice ex.1 ex.2.1 ex.2.2), (.slice va.1 va.2.1 va.2.2), (.slice pa.1 pa.2.1 pa.2.2), (.slice op.1 op.2.1 op.2.2), (.slice so.1 so.2.1 so.2.2), .slice none 0 0, .int .i64 0, (.slice wa.1 wa.2.1 wa.2.2), (.slice cl.1 cl.2.1 cl.2.2), (.slice ne.1 ne.2.1 ne.2.2), .slice none 0 0]) := by
  refine W_fun [24] Try.func35 rfl Try.ntmps35 Try.results35 (Nat.le_of_ble_eq_true rfl) ?_
  refine W_seq (by kernel_rfl) ?_
  -- R0
  refine W_reg (l := [⟨some 24, Op.assign (Operand.const (Value.pointer none)), 25, none⟩]) (by kernel_rfl) (by kernel_rfl) ?_
  refine TL_q rfl (QV_assign rfl) ?_
  refine TL_nil ?_
  refine W_seq (by kernel_rfl) ?_
  -- R1
  refine W_reg (l := [⟨some 25, Op.move (Operand.tmp 0), 3, none⟩, ⟨some 26, Op.move (Operand.tmp 1), 53, none⟩, ⟨some 27, Op.build 65 #[(0, Operand.tmp 25), (1, Operand.tmp 26)], 65, none⟩, ⟨some 28, Op.box 65 (Operand.tmp 27), 59, none⟩, ⟨some 29, Op.move (Operand.tmp 2), 34, none⟩, ⟨some 30, Op.move (Operand.tmp 3), 34, none⟩, ⟨some 31, Op.move (Operand.tmp 4), 34, none⟩, ⟨some 32, Op.move (Operand.tmp 5), 47, none⟩, ⟨some 33, Op.move (Operand.tmp 6), 27, none⟩, ⟨some 34, Op.move (Operand.tmp 7), 27, none⟩, ⟨some 35, Op.move (Operand.tmp 8), 27, none⟩, ⟨some 36, Op.move (Operand.tmp 9), 27, none⟩, ⟨some 37, Op.move (Operand.tmp 10), 37, none⟩, ⟨some 38, Op.move (Operand.tmp 11), 27, none⟩, ⟨some 39, Op.build 61 #[(0, Operand.tmp 28), (1, Operand.tmp 29), (2, Operand.tmp 30), (3, Operand.tmp 31), (4, Operand.tmp 32), (5, Operand.tmp 33), (6, Operand.tmp 34), (7, Operand.tmp 35), (10, Operand.tmp 36), (11, Operand.tmp 37), (12, Operand.tmp 38)], 61, none⟩, ⟨some 40, Op.box 61 (Operand.tmp 39), 25, none⟩, ⟨some 24, Op.assign (Operand.tmp 40), 25, none⟩]) (by kernel_rfl) (by kernel_rfl) ?_
  refine TL_q rfl (QV_move rfl) ?_
  refine TL_q rfl (QV_move rfl) ?_
  refine TL_q rfl (QV_build (v := .agg #[.int .i64 n, (.slice ru.1 ru.2.1 ru.2.2)]) rfl (fun w => by kernel_rfl)) ?_
  refine TL_e (EV_box rfl rfl fun w2 hw2 => ?_)
  have hb2 : Blk w2.heap w.heap.size 65 [.int .i64 n, (.slice ru.1 ru.2.1 ru.2.2)] := hw2.blk
  refine TL_q rfl (QV_move rfl) ?_
  refine TL_q rfl (QV_move rfl) ?_
  refine TL_q rfl (QV_move rfl) ?_
  refine TL_q rfl (QV_move rfl) ?_
  refine TL_q rfl (QV_move rfl) ?_
  refine TL_q rfl (QV_move rfl) ?_
  refine TL_q rfl (QV_move rfl) ?_
  refine TL_q rfl (QV_move rfl) ?_
  refine TL_q rfl (QV_move rfl) ?_
  refine TL_q rfl (QV_move rfl) ?_
  refine TL_q rfl (QV_build (v := .agg #[.pointer (some ⟨w.heap.size, 0, none⟩), (.slice bh.1 bh.2.1 bh.2.2), (.slice us.1 us.2.1 us.2.2), (.slice ex.1 ex.2.1 ex.2.2), (.slice va.1 va.2.1 va.2.2), (.slice pa.1 pa.2.1 pa.2.2), (.slice op.1 op.2.1 op.2.2), (.slice so.1 so.2.1 so.2.2), .slice none 0 0, .int .i64 0, (.slice wa.1 wa.2.1 wa.2.2), (.slice cl.1 cl.2.1 cl.2.2), (.slice ne.1 ne.2.1 ne.2.2), .slice none 0 0]) rfl (fun w => by kernel_rfl)) ?_
  refine TL_e (EV_box rfl rfl fun w3 hw3 => ?_)
  refine TL_q rfl (QV_assign rfl) ?_
  refine TL_nil ?_
  refine W_ret (by kernel_rfl) ?_
  have hz2 := hw2.size
  have hz3 := hw3.size
  have hb3 : Blk w3.heap w2.heap.size 61 [.pointer (some ⟨w.heap.size, 0, none⟩), (.slice bh.1 bh.2.1 bh.2.2), (.slice us.1 us.2.1 us.2.2), (.slice ex.1 ex.2.1 ex.2.2), (.slice va.1 va.2.1 va.2.2), (.slice pa.1 pa.2.1 pa.2.2), (.slice op.1 op.2.1 op.2.2), (.slice so.1 so.2.1 so.2.2), .slice none 0 0, .int .i64 0, (.slice wa.1 wa.2.1 wa.2.2), (.slice cl.1 cl.2.1 cl.2.2), (.slice ne.1 ne.2.1 ne.2.2), .slice none 0 0] := hw3.blk
  rw [hz2] at hb3
  refine ⟨_, rfl, by rw [hz2], ((Fr.refl _ w).newb hw2).newb hw3, by omega, hb2.fr hw3.fr (fun h => h), hb3⟩

end Go.Proofs.Qxb6600121a
