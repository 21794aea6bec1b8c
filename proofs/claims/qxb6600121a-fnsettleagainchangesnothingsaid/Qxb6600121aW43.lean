/-
   Walks written by program (wip/gen).
-/
import Derived.Test.Qxb6600121aSolM
namespace Go.Proofs.Qxb6600121a
open Go Go.Proofs
set_option linter.unusedVariables false
set_option linter.unusedSimpArgs false

theorem SMF.castS {w0 w : World} {L : Lay} {n : Nat} {D : List Rl} {S S' : SS} {Prot : Nat → Prop} {lv qv : Value} (h : SMF w0 w L n D S Prot lv qv) (e : S = S') : SMF w0 w L n D S' Prot lv qv := e ▸ h
theorem Stat.ruleH {h : Array Obj} {L : Lay} {n : Nat} {D : List Rl} (hs : Stat h L n D) {r : Nat} (hr : r < D.length) : cel h L.s (0 + r * 3) = some (.int .i64 (((D.getD r rl0).head : Nat) : Int)) := by rw [Nat.zero_add]; exact (hs.rule hr).1
set_option maxRecDepth 10000 in
theorem decideWalk (w : World) (L : Lay) (n : Nat) (D : List Rl) (S : SS) (Prot : Nat → Prop) (lv qv : Value) (h : SMF w w L n D S Prot lv qv) (a : Nat) (ha : a < n) (t : Int) (hq : S.queue.length ≤ 1000000000000) :
    CallsS Try.prog 43 #[.pointer (some ⟨L.s + 9, 0, none⟩), .int .i64 (a : Int), .int .i8 t] w (fun r w' => r = .tuple #[] ∧ ∃ qv', SMF w w' L n D (decideF S a t) Prot lv qv') := by
  refine W_fun [] Try.func43 rfl Try.ntmps43 Try.results43 (Nat.le_of_ble_eq_true rfl) ?_
  refine W_seq (by kernel_rfl) ?_
  -- R0
  refine W_reg (l := [⟨some 6, Op.move (Operand.tmp 0), 25, none⟩, ⟨some 7, Op.nilCheck (Operand.tmp 6), 0, none⟩, ⟨some 8, Op.fieldAddr 61 (Operand.tmp 7) 4, 0, none⟩, ⟨some 9, Op.load 47 (Operand.tmp 8), 47, none⟩, ⟨some 10, Op.move (Operand.tmp 1), 3, none⟩, ⟨some 11, Op.indexAddr 47 (Operand.tmp 9) (Operand.tmp 10), 0, none⟩, ⟨some 12, Op.load 45 (Operand.tmp 11), 45, none⟩, ⟨some 13, Op.binOp BinOp.eql 45 (Operand.tmp 12) (Operand.const (Value.int IntKind.i8 1)) 45, 4, none⟩]) (by kernel_rfl) (by kernel_rfl) ?_
  refine TL_q rfl (QV_move rfl) ?_
  refine TL_q rfl (QV_nil rfl) ?_
  refine TL_q rfl (QV_field rfl fld61_4) ?_
  refine TL_q rfl (QV_load rfl one47 (h.m.c.c4)) ?_
  refine TL_q rfl (QV_move rfl) ?_
  refine TL_q rfl (QV_idx1 rfl rfl el47 sz45 (ha)) ?_
  refine TL_q rfl (QV_load rfl one45 (h.m.c.bval.c8 (by rw [h.m.c.nval]; exact ha))) ?_
  refine TL_q rfl (QV_eql rfl rfl) ?_
  refine TL_nil ?_
  refine W_cond (c := Operand.tmp 13) (by kernel_rfl) rfl (fun hc13 => ?_) (fun hc13 => ?_)
  ·
    refine W_seq (by kernel_rfl) ?_
    -- R1
    refine W_reg (l := [⟨some 14, Op.move (Operand.tmp 0), 25, none⟩, ⟨some 15, Op.nilCheck (Operand.tmp 14), 0, none⟩, ⟨some 16, Op.fieldAddr 61 (Operand.tmp 15) 4, 0, none⟩, ⟨some 17, Op.load 47 (Operand.tmp 16), 47, none⟩, ⟨some 18, Op.move (Operand.tmp 1), 3, none⟩, ⟨some 19, Op.move (Operand.tmp 2), 45, none⟩, ⟨some 20, Op.indexAddr 47 (Operand.tmp 17) (Operand.tmp 18), 0, none⟩, ⟨none, Op.store 45 (Operand.tmp 20) (Operand.tmp 19), 0, none⟩]) (by kernel_rfl) (by kernel_rfl) ?_
    refine TL_q rfl (QV_move rfl) ?_
    refine TL_q rfl (QV_nil rfl) ?_
    refine TL_q rfl (QV_field rfl fld61_4) ?_
    refine TL_q rfl (QV_load rfl one47 (h.m.c.c4)) ?_
    refine TL_q rfl (QV_move rfl) ?_
    refine TL_q rfl (QV_move rfl) ?_
    refine TL_q rfl (QV_idx1 rfl rfl el47 sz45 (ha)) ?_
    refine TL_e (EV_store rfl rfl rfl sz45 h.m.c.bval (by rw [i8s_len, h.m.c.nval]; exact ha) fun w1 u1 => ?_)
    have h1 := h.setVal u1
    refine TL_nil ?_
    -- R2
    refine W_reg (l := [⟨some 21, Op.move (Operand.tmp 0), 25, none⟩, ⟨some 22, Op.move (Operand.tmp 0), 25, none⟩, ⟨some 23, Op.nilCheck (Operand.tmp 22), 0, none⟩, ⟨some 24, Op.fieldAddr 61 (Operand.tmp 23) 13, 0, none⟩, ⟨some 25, Op.load 27 (Operand.tmp 24), 27, none⟩, ⟨some 26, Op.move (Operand.tmp 1), 3, none⟩, ⟨some 27, Op.buildSlice 27 1 #[(0, Operand.tmp 26)], 27, none⟩, ⟨some 28, Op.call { callee := Callee.builtin Builtin.append, args := #[Operand.tmp 25, Operand.tmp 27], argTypes := #[27, 27] }, 27, none⟩, ⟨some 29, Op.nilCheck (Operand.tmp 21), 0, none⟩, ⟨some 30, Op.fieldAddr 61 (Operand.tmp 29) 13, 0, none⟩, ⟨none, Op.store 27 (Operand.tmp 30) (Operand.tmp 28), 0, none⟩]) (by kernel_rfl) (by kernel_rfl) ?_
    refine TL_q rfl (QV_move rfl) ?_
    refine TL_q rfl (QV_move rfl) ?_
    refine TL_q rfl (QV_nil rfl) ?_
    refine TL_q rfl (QV_field rfl fld61_13) ?_
    refine TL_q rfl (QV_load rfl one27 (h1.m.c.c13)) ?_
    refine TL_q rfl (QV_move rfl) ?_
    refine TL_e (EV_lit1 rfl rfl rfl el27 in3 rfl fun w2 h2 => ?_)
    refine TL_e (EV_append rfl rfl rfl el27 in3 rfl (by decide) (h1.m.rq.fr h2.fr (fun _ _ h => h)) rfl (news1 h2.blk) (one1 rfl) (by show (S.queue.length + 1) * 8 ≤ 140737488355328; omega) (by show S.queue.length + 1 ≤ 140737488355328; omega) fun v3 w3 hrow h23 hat => ?_)
    obtain ⟨a', c', rfl, -⟩ := hrow.form
    refine TL_q rfl (QV_nil rfl) ?_
    refine TL_q rfl (QV_field rfl fld61_13) ?_
    refine TL_e (EV_store rfl rfl rfl sz27 ((h1.m.c.sol.fr h2.fr (fun h => h)).fr h23 (fun e => by have := (h1.m.oq _ e).1; omega)) (by simp [solCells]) fun w4 u4 => ?_)
    have h4 := h1.pushQ h2 hrow h23 hat u4
    refine TL_nil ?_
    first
      | exact ⟨_, rfl, rfl, _, by rw [decideF, if_pos (of_decide_eq_true hc13)]; exact h4⟩
      | exact ⟨_, rfl, rfl, _, by rw [decideF, if_neg (of_decide_eq_false hc13)]; exact h⟩
  ·
    refine W_skip (by kernel_rfl) ?_
    first
      | exact ⟨_, rfl, rfl, _, by rw [decideF, if_pos (of_decide_eq_true hc13)]; exact h4⟩
      | exact ⟨_, rfl, rfl, _, by rw [decideF, if_neg (of_decide_eq_false hc13)]; exact h⟩

end Go.Proofs.Qxb6600121a
