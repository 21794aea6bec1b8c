/-
   Walks written by program (wip/gen).
-/
import Derived.Test.Qxb6600121aLaw11
import Derived.Test.Qxb6600121aSolQ
namespace Go.Proofs.Qxb6600121a
open Go Go.Proofs
set_option linter.unusedVariables false
set_option linter.unusedSimpArgs false

theorem same_of {n : Nat} {t1 t2 : List Bool} (l1 : t1.length = n) (l2 : t2.length = n) (h : ∀ x, x < n → t1.getD x false = t2.getD x false) : t1 = t2 := by
  apply List.ext_getElem (by omega)
  intro i h1 h2
  have := h i (by omega)
  rw [List.getD_eq_getElem?_getD, List.getD_eq_getElem?_getD, List.getElem?_eq_getElem h1, List.getElem?_eq_getElem h2] at this
  exact this
set_option maxRecDepth 10000 in
theorem sameBools (w : World) (n b1 b2 : Nat) (t1 t2 : List Bool) (h1 : Blk w.heap b1 4 (bools t1)) (h2 : Blk w.heap b2 4 (bools t2)) (l1 : t1.length = n) (l2 : t2.length = n) (hn : n ≤ 65536) :
    CallsS Try.prog 38 #[.slice (some ⟨b1, 0, none⟩) n n, .slice (some ⟨b2, 0, none⟩) n n] w (fun r w' => w' = w ∧ ∃ b, r = .bool b ∧ (b = true ↔ t1 = t2)) := by
  refine W_fun [4] Try.func38 rfl Try.ntmps38 Try.results38 (Nat.le_of_ble_eq_true rfl) ?_
  refine W_seq (by kernel_rfl) ?_
  -- R0
  refine W_reg (l := [⟨some 4, Op.assign (Operand.const (Value.bool false)), 4, none⟩]) (by kernel_rfl) (by kernel_rfl) ?_
  refine TL_q rfl (QV_assign rfl) ?_
  refine TL_nil ?_
  refine W_seq (by kernel_rfl) ?_
  refine W_seq (by kernel_rfl) ?_
  -- R1
  refine W_reg (l := [⟨some 6, Op.move (Operand.tmp 0), 37, none⟩, ⟨some 7, Op.call { callee := Callee.builtin Builtin.len, args := #[Operand.tmp 6], argTypes := #[37] }, 3, none⟩, ⟨some 8, Op.move (Operand.tmp 1), 37, none⟩, ⟨some 9, Op.call { callee := Callee.builtin Builtin.len, args := #[Operand.tmp 8], argTypes := #[37] }, 3, none⟩, ⟨some 10, Op.binOp BinOp.neq 3 (Operand.tmp 7) (Operand.tmp 9) 3, 4, none⟩]) (by kernel_rfl) (by kernel_rfl) ?_
  refine TL_q rfl (QV_move rfl) ?_
  refine TL_q rfl (QV_len rfl el37) ?_
  refine TL_q rfl (QV_move rfl) ?_
  refine TL_q rfl (QV_len rfl el37) ?_
  refine TL_q rfl (QV_neq rfl rfl) ?_
  refine TL_nil ?_
  refine W_cond (c := Operand.tmp 10) (by kernel_rfl) rfl (fun hc10 => ?_) (fun hc10 => ?_)
  ·
    exact absurd rfl (of_decide_eq_true hc10)
  ·
    refine W_skip (by kernel_rfl) ?_
    refine W_seq (by kernel_rfl) ?_
    refine W_seq (by kernel_rfl) ?_
    -- R3
    refine W_reg (l := [⟨some 5, Op.assign (Operand.const (Value.int IntKind.i64 0)), 3, none⟩]) (by kernel_rfl) (by kernel_rfl) ?_
    refine TL_q rfl (QV_assign rfl) ?_
    refine TL_nil ?_
    refine W_block 0 (by kernel_rfl) ?_
    refine W_loop (fun (i : Nat) w1 => i ≤ n ∧ w = w1 ∧ ∀ x, x < i → t1.getD x false = t2.getD x false) (fun i => [(0, .slice (some ⟨b1, 0, none⟩) n n), (1, .slice (some ⟨b2, 0, none⟩) n n), (5, .int .i64 (i : Int))]) (fun i => n - i) 0 (by kernel_rfl) ?_ ?_ ?_
    · exact ⟨Nat.zero_le _, rfl, fun x hx => absurd hx (Nat.not_lt_zero _)⟩
    · exact ⟨rfl, rfl, rfl, trivial⟩
    rintro i w1 ⟨hi, rfl, heq⟩
    refine W_seq (by kernel_rfl) ?_
    refine W_seq (by kernel_rfl) ?_
    -- R4
    refine W_reg (l := [⟨some 11, Op.move (Operand.tmp 5), 3, none⟩, ⟨some 12, Op.move (Operand.tmp 0), 37, none⟩, ⟨some 13, Op.call { callee := Callee.builtin Builtin.len, args := #[Operand.tmp 12], argTypes := #[37] }, 3, none⟩, ⟨some 14, Op.binOp BinOp.lss 3 (Operand.tmp 11) (Operand.tmp 13) 3, 4, none⟩]) (by kernel_rfl) (by kernel_rfl) ?_
    refine TL_q rfl (QV_move rfl) ?_
    refine TL_q rfl (QV_move rfl) ?_
    refine TL_q rfl (QV_len rfl el37) ?_
    refine TL_q rfl (QV_lss rfl rfl) ?_
    refine TL_nil ?_
    refine W_cond (c := Operand.tmp 14) (by kernel_rfl) rfl (fun hc14 => ?_) (fun hc14 => ?_)
    ·
      have hlt : i < n := by have := of_decide_eq_true hc14; omega
      refine W_skip (by kernel_rfl) ?_
      refine W_seq (by kernel_rfl) ?_
      refine W_block 1 (by kernel_rfl) ?_
      refine W_seq (by kernel_rfl) ?_
      -- R6
      refine W_regQ (l := [⟨some 17, Op.move (Operand.tmp 0), 37, none⟩, ⟨some 18, Op.move (Operand.tmp 5), 3, none⟩, ⟨some 19, Op.indexAddr 37 (Operand.tmp 17) (Operand.tmp 18), 0, none⟩, ⟨some 20, Op.load 4 (Operand.tmp 19), 4, none⟩, ⟨some 21, Op.move (Operand.tmp 1), 37, none⟩, ⟨some 22, Op.move (Operand.tmp 5), 3, none⟩, ⟨some 23, Op.indexAddr 37 (Operand.tmp 21) (Operand.tmp 22), 0, none⟩, ⟨some 24, Op.load 4 (Operand.tmp 23), 4, none⟩, ⟨some 25, Op.binOp BinOp.neq 4 (Operand.tmp 20) (Operand.tmp 24) 4, 4, none⟩]) mix (by kernel_rfl) (by kernel_rfl) (by kernel_rfl) ?_
      refine TQ_q rfl (QV_move rfl) ?_
      refine TQ_q rfl (QV_move rfl) ?_
      refine TQ_q rfl (QV_idx1 rfl rfl el37 sz4 (hlt)) ?_
      refine TQ_q rfl (QV_load rfl one4 (h1.cB (by rw [l1]; exact hlt))) ?_
      refine TQ_q rfl (QV_move rfl) ?_
      refine TQ_q rfl (QV_move rfl) ?_
      refine TQ_q rfl (QV_idx1 rfl rfl el37 sz4 (hlt)) ?_
      refine TQ_q rfl (QV_load rfl one4 (h2.cB (by rw [l2]; exact hlt))) ?_
      refine TQ_q rfl (QV_neqB rfl rfl und4) ?_
      refine TQ_nil ?_
      refine W_cond (c := Operand.tmp 25) (by kernel_rfl) rfl (fun hc25 => ?_) (fun hc25 => ?_)
      ·
        have hR : ¬ t1 = t2 := fun e => by rw [e] at hc25; simp at hc25
        refine W_seq (by kernel_rfl) ?_
        -- R7
        refine W_reg (l := [⟨some 4, Op.assign (Operand.const (Value.bool false)), 4, none⟩]) (by kernel_rfl) (by kernel_rfl) ?_
        refine TL_q rfl (QV_assign rfl) ?_
        refine TL_nil ?_
        refine W_ret (by kernel_rfl) ?_
        first | exact ⟨_, rfl, rfl, false, rfl, fun e => (by cases e), fun e => absurd e hR⟩ | exact ⟨_, rfl, rfl, true, rfl, fun _ => hR, fun _ => rfl⟩
      ·
        have hsm : t1.getD i false = t2.getD i false := by simpa using hc25
        refine W_skip (by kernel_rfl) ?_
        -- R5
        refine W_reg (l := [⟨some 15, Op.move (Operand.tmp 5), 3, none⟩, ⟨some 16, Op.binOp BinOp.add 3 (Operand.tmp 15) (Operand.const (Value.int IntKind.i64 1)) 3, 3, none⟩, ⟨some 5, Op.assign (Operand.tmp 16), 3, none⟩]) (by kernel_rfl) (by kernel_rfl) ?_
        refine TL_q rfl (QV_move rfl) ?_
        refine TL_q rfl (QV_add (r := ((i + 1 : Nat) : Int)) rfl rfl (by omega) (by omega) (by omega)) ?_
        refine TL_q rfl (QV_assign rfl) ?_
        refine TL_nil ?_
        exact ⟨i + 1, ⟨by omega, rfl, all_succ heq hsm⟩, ⟨rfl, rfl, rfl, trivial⟩, by omega⟩
    ·
      have hie : i = n := by have := of_decide_eq_false hc14; omega
      subst hie
      have hR := same_of l1 l2 heq
      refine W_exit 0 (by kernel_rfl) ?_
      show T Try.prog 26 (C Try.f38 [1, 1, 1]) _ _ _
      refine W_seq (by kernel_rfl) ?_
      -- R8
      refine W_reg (l := [⟨some 4, Op.assign (Operand.const (Value.bool true)), 4, none⟩]) (by kernel_rfl) (by kernel_rfl) ?_
      refine TL_q rfl (QV_assign rfl) ?_
      refine TL_nil ?_
      refine W_ret (by kernel_rfl) ?_
      first | exact ⟨_, rfl, rfl, false, rfl, fun e => (by cases e), fun e => absurd e hR⟩ | exact ⟨_, rfl, rfl, true, rfl, fun _ => hR, fun _ => rfl⟩

end Go.Proofs.Qxb6600121a
