/-
   Walks written by program (wip/gen).
-/
import Derived.Test.Qxb6600121aW43
namespace Go.Proofs.Qxb6600121a
open Go Go.Proofs
set_option linter.unusedVariables false
set_option linter.unusedSimpArgs false

set_option maxRecDepth 10000 in
set_option maxHeartbeats 1000000 in
theorem meetWalk (w : World) (L : Lay) (n : Nat) (D : List Rl) (S : SS) (Prot : Nat → Prop) (lv qv : Value) (h : SMF w w L n D S Prot lv qv) (hok : Okay n D) (r part : Nat) (hr : r < D.length) (met : Bool) (hq : S.queue.length ≤ 1000000000000) (hlo : S.lost.length ≤ 1000000000000)
    (hb1 : -1000000000000 ≤ S.wait.getD r 0 ∧ S.wait.getD r 0 ≤ 1000000000000) (hb2 : -1000000000000 ≤ S.opn.getD (D.getD r rl0).head 0 ∧ S.opn.getD (D.getD r rl0).head 0 ≤ 1000000000000) :
    CallsS Try.prog 45 #[.pointer (some ⟨L.s + 9, 0, none⟩), .int .i64 (r : Int), .int .i64 (part : Int), .bool met] w (fun r' w' => r' = .tuple #[] ∧ ∃ lv' qv', SMF w w' L n D (meetF D part S r met) Prot lv' qv') := by
  have hh : (D.getD r rl0).head < n := (hok _ (getD_mem rl0 hr)).1
  refine W_fun [] Try.func45 rfl Try.ntmps45 Try.results45 (Nat.le_of_ble_eq_true rfl) ?_
  refine W_seq (by kernel_rfl) ?_
  -- R0
  refine W_reg (l := [⟨some 9, Op.move (Operand.tmp 0), 25, none⟩, ⟨some 10, Op.nilCheck (Operand.tmp 9), 0, none⟩, ⟨some 11, Op.fieldAddr 61 (Operand.tmp 10) 0, 0, none⟩, ⟨some 12, Op.load 59 (Operand.tmp 11), 59, none⟩, ⟨some 13, Op.nilCheck (Operand.tmp 12), 0, none⟩, ⟨some 14, Op.fieldAddr 65 (Operand.tmp 13) 1, 0, none⟩, ⟨some 15, Op.load 53 (Operand.tmp 14), 53, none⟩, ⟨some 16, Op.move (Operand.tmp 1), 3, none⟩, ⟨some 17, Op.indexAddr 53 (Operand.tmp 15) (Operand.tmp 16), 0, none⟩, ⟨some 18, Op.fieldAddr 54 (Operand.tmp 17) 0, 0, none⟩, ⟨some 19, Op.load 3 (Operand.tmp 18), 3, none⟩, ⟨some 8, Op.assign (Operand.tmp 19), 3, none⟩]) (by kernel_rfl) (by kernel_rfl) ?_
  refine TL_q rfl (QV_move rfl) ?_
  refine TL_q rfl (QV_nil rfl) ?_
  refine TL_q rfl (QV_field0 rfl fld61_0) ?_
  refine TL_q rfl (QV_load rfl one59 (h.m.c.c0)) ?_
  refine TL_q rfl (QV_nil rfl) ?_
  refine TL_q rfl (QV_field rfl fld65_1) ?_
  refine TL_q rfl (QV_load rfl one53 (h.m.c.stat.r1)) ?_
  refine TL_q rfl (QV_move rfl) ?_
  refine TL_q rfl (QV_idx rfl rfl el53 sz54 (hr)) ?_
  refine TL_q rfl (QV_field0 rfl fld54_0) ?_
  refine TL_q rfl (QV_load rfl one3 (h.m.c.stat.ruleH hr)) ?_
  refine TL_q rfl (QV_assign rfl) ?_
  refine TL_nil ?_
  refine W_seq (by kernel_rfl) ?_
  refine W_seq (by kernel_rfl) ?_
  -- R1
  refine W_reg (l := [⟨some 20, Op.move (Operand.tmp 0), 25, none⟩, ⟨some 21, Op.nilCheck (Operand.tmp 20), 0, none⟩, ⟨some 22, Op.fieldAddr 61 (Operand.tmp 21) 5, 0, none⟩, ⟨some 23, Op.load 27 (Operand.tmp 22), 27, none⟩, ⟨some 24, Op.move (Operand.tmp 8), 3, none⟩, ⟨some 25, Op.indexAddr 27 (Operand.tmp 23) (Operand.tmp 24), 0, none⟩, ⟨some 26, Op.load 3 (Operand.tmp 25), 3, none⟩, ⟨some 27, Op.move (Operand.tmp 2), 3, none⟩, ⟨some 28, Op.binOp BinOp.neq 3 (Operand.tmp 26) (Operand.tmp 27) 3, 4, none⟩, ⟨some 29, Op.move (Operand.tmp 28), 4, none⟩, ⟨some 30, Op.move (Operand.tmp 0), 25, some (9, false)⟩, ⟨some 31, Op.nilCheck (Operand.tmp 30), 0, some (9, false)⟩, ⟨some 32, Op.fieldAddr 61 (Operand.tmp 31) 11, 0, some (9, false)⟩, ⟨some 33, Op.load 37 (Operand.tmp 32), 37, some (9, false)⟩, ⟨some 34, Op.move (Operand.tmp 1), 3, some (9, false)⟩, ⟨some 35, Op.indexAddr 37 (Operand.tmp 33) (Operand.tmp 34), 0, some (9, false)⟩, ⟨some 36, Op.load 4 (Operand.tmp 35), 4, some (9, false)⟩, ⟨some 37, Op.pick (Operand.tmp 29) (Operand.const (Value.bool true)) (Operand.tmp 36), 4, none⟩]) (by kernel_rfl) (by kernel_rfl) ?_
  refine TL_q rfl (QV_move rfl) ?_
  refine TL_q rfl (QV_nil rfl) ?_
  refine TL_q rfl (QV_field rfl fld61_5) ?_
  refine TL_q rfl (QV_load rfl one27 (h.m.c.c5)) ?_
  refine TL_q rfl (QV_move rfl) ?_
  refine TL_q rfl (QV_idx1 rfl rfl el27 sz3 (hh)) ?_
  refine TL_q rfl (QV_load rfl one3 (h.m.c.bpart.cI (by rw [h.m.c.npart]; exact hh))) ?_
  refine TL_q rfl (QV_move rfl) ?_
  refine TL_q rfl (QV_neq rfl rfl) ?_
  refine TL_q rfl (QV_move rfl) ?_
  refine TL_cases (t := 29) rfl (fun hb29 => ?_) (fun hb29 => ?_)
  ·
    have em : S = meetF D part S r met := by rw [meetF, if_pos (.inl (of_decide_eq_true hb29))]
    refine TL_gs rfl rfl rfl rfl ?_
    refine TL_gs rfl rfl rfl rfl ?_
    refine TL_gs rfl rfl rfl rfl ?_
    refine TL_gs rfl rfl rfl rfl ?_
    refine TL_gs rfl rfl rfl rfl ?_
    refine TL_gs rfl rfl rfl rfl ?_
    refine TL_gs rfl rfl rfl rfl ?_
    refine TL_q rfl (QV_pickT rfl rfl) ?_
    refine TL_nil ?_
    refine W_condT (c := Operand.tmp 37) (by kernel_rfl) rfl ?_
    refine W_ret (by kernel_rfl) ?_
    first
      | exact ⟨_, rfl, rfl, _, _, (g7.after g9).castS em9⟩
      | exact ⟨_, rfl, rfl, _, _, g7.castS em7⟩
      | exact ⟨_, rfl, rfl, _, _, h.castS em⟩
  ·
    have e29 : S.part.getD (D.getD r rl0).head 0 = (part : Int) := Decidable.byContradiction (of_decide_eq_false hb29)
    refine TL_gq rfl rfl rfl rfl (QV_move rfl) ?_
    refine TL_gq rfl rfl rfl rfl (QV_nil rfl) ?_
    refine TL_gq rfl rfl rfl rfl (QV_field rfl fld61_11) ?_
    refine TL_gq rfl rfl rfl rfl (QV_load rfl one37 (h.m.c.c11)) ?_
    refine TL_gq rfl rfl rfl rfl (QV_move rfl) ?_
    refine TL_gq rfl rfl rfl rfl (QV_idx1 rfl rfl el37 sz4 (hr)) ?_
    refine TL_gq rfl rfl rfl rfl (QV_load rfl one4 (h.m.c.bclosed.cB (by rw [h.m.c.nclosed]; exact hr))) ?_
    refine TL_q rfl (QV_pickF rfl rfl) ?_
    refine TL_nil ?_
    refine W_cond (c := Operand.tmp 37) (by kernel_rfl) rfl (fun hc37 => ?_) (fun hc37 => ?_)
    ·
      have em : S = meetF D part S r met := by rw [meetF, if_pos (.inr hc37)]
      refine W_ret (by kernel_rfl) ?_
      first
        | exact ⟨_, rfl, rfl, _, _, (g7.after g9).castS em9⟩
        | exact ⟨_, rfl, rfl, _, _, g7.castS em7⟩
        | exact ⟨_, rfl, rfl, _, _, h.castS em⟩
    ·
      have ne : ¬ (S.part.getD (D.getD r rl0).head 0 ≠ (part : Int) ∨ S.closed.getD r false = true) := fun e => e.elim (fun e => e e29) (fun e => by rw [hc37] at e; cases e)
      refine W_skip (by kernel_rfl) ?_
      refine W_seq (by kernel_rfl) ?_
      refine W_seq (by kernel_rfl) ?_
      -- R2
      refine W_reg (l := [⟨some 38, Op.move (Operand.tmp 3), 4, none⟩, ⟨some 39, Op.unOp UnOp.not 4 (Operand.tmp 38), 4, none⟩]) (by kernel_rfl) (by kernel_rfl) ?_
      refine TL_q rfl (QV_move rfl) ?_
      refine TL_q rfl (QV_not rfl) ?_
      refine TL_nil ?_
      refine W_cond (c := Operand.tmp 39) (by kernel_rfl) rfl (fun hc39 => ?_) (fun hc39 => ?_)
      ·
        have hmt : met = false := by simpa using hc39
        refine W_seq (by kernel_rfl) ?_
        -- R3
        refine W_reg (l := [⟨some 40, Op.move (Operand.tmp 0), 25, none⟩, ⟨some 41, Op.nilCheck (Operand.tmp 40), 0, none⟩, ⟨some 42, Op.fieldAddr 61 (Operand.tmp 41) 11, 0, none⟩, ⟨some 43, Op.load 37 (Operand.tmp 42), 37, none⟩, ⟨some 44, Op.move (Operand.tmp 1), 3, none⟩, ⟨some 45, Op.indexAddr 37 (Operand.tmp 43) (Operand.tmp 44), 0, none⟩, ⟨none, Op.store 4 (Operand.tmp 45) (Operand.const (Value.bool true)), 0, none⟩]) (by kernel_rfl) (by kernel_rfl) ?_
        refine TL_q rfl (QV_move rfl) ?_
        refine TL_q rfl (QV_nil rfl) ?_
        refine TL_q rfl (QV_field rfl fld61_11) ?_
        refine TL_q rfl (QV_load rfl one37 (h.m.c.c11)) ?_
        refine TL_q rfl (QV_move rfl) ?_
        refine TL_q rfl (QV_idx1 rfl rfl el37 sz4 (hr)) ?_
        refine TL_e (EV_store rfl rfl rfl sz4 h.m.c.bclosed (by rw [bools_len, h.m.c.nclosed]; exact hr) fun w1 u1 => ?_)
        have h1 : SMF w w1 L n D (closeF S r) Prot lv qv := h.setClosed u1
        refine TL_nil ?_
        refine W_seq (by kernel_rfl) ?_
        refine W_seq (by kernel_rfl) ?_
        -- R4
        refine W_reg (l := [⟨some 46, Op.move (Operand.tmp 0), 25, none⟩, ⟨some 47, Op.nilCheck (Operand.tmp 46), 0, none⟩, ⟨some 48, Op.fieldAddr 61 (Operand.tmp 47) 7, 0, none⟩, ⟨some 49, Op.load 27 (Operand.tmp 48), 27, none⟩, ⟨some 50, Op.move (Operand.tmp 8), 3, none⟩, ⟨some 51, Op.indexAddr 27 (Operand.tmp 49) (Operand.tmp 50), 0, none⟩, ⟨some 52, Op.load 3 (Operand.tmp 51), 3, none⟩, ⟨some 53, Op.move (Operand.tmp 1), 3, none⟩, ⟨some 54, Op.binOp BinOp.eql 3 (Operand.tmp 52) (Operand.tmp 53) 3, 4, none⟩]) (by kernel_rfl) (by kernel_rfl) ?_
        refine TL_q rfl (QV_move rfl) ?_
        refine TL_q rfl (QV_nil rfl) ?_
        refine TL_q rfl (QV_field rfl fld61_7) ?_
        refine TL_q rfl (QV_load rfl one27 (h1.m.c.c7)) ?_
        refine TL_q rfl (QV_move rfl) ?_
        refine TL_q rfl (QV_idx1 rfl rfl el27 sz3 (hh)) ?_
        refine TL_q rfl (QV_load rfl one3 (h1.m.c.bsource.cI (by rw [h1.m.c.nsource]; exact hh))) ?_
        refine TL_q rfl (QV_move rfl) ?_
        refine TL_q rfl (QV_eql rfl rfl) ?_
        refine TL_nil ?_
        refine W_cond (c := Operand.tmp 54) (by kernel_rfl) rfl (fun hc54 => ?_) (fun hc54 => ?_)
        ·
          refine W_seq (by kernel_rfl) ?_
          -- R5
          refine W_reg (l := [⟨some 55, Op.move (Operand.tmp 0), 25, none⟩, ⟨some 56, Op.nilCheck (Operand.tmp 55), 0, none⟩, ⟨some 57, Op.fieldAddr 61 (Operand.tmp 56) 7, 0, none⟩, ⟨some 58, Op.load 27 (Operand.tmp 57), 27, none⟩, ⟨some 59, Op.move (Operand.tmp 8), 3, none⟩, ⟨some 60, Op.indexAddr 27 (Operand.tmp 58) (Operand.tmp 59), 0, none⟩, ⟨none, Op.store 3 (Operand.tmp 60) (Operand.const (Value.int IntKind.i64 (-1))), 0, none⟩]) (by kernel_rfl) (by kernel_rfl) ?_
          refine TL_q rfl (QV_move rfl) ?_
          refine TL_q rfl (QV_nil rfl) ?_
          refine TL_q rfl (QV_field rfl fld61_7) ?_
          refine TL_q rfl (QV_load rfl one27 (h1.m.c.c7)) ?_
          refine TL_q rfl (QV_move rfl) ?_
          refine TL_q rfl (QV_idx1 rfl rfl el27 sz3 (hh)) ?_
          refine TL_e (EV_store rfl rfl rfl sz3 h1.m.c.bsource (by rw [ints_len, h1.m.c.nsource]; exact hh) fun w2 u2 => ?_)
          have h2 := h1.setSource u2
          refine TL_nil ?_
          -- R6
          refine W_reg (l := [⟨some 61, Op.move (Operand.tmp 0), 25, none⟩, ⟨some 62, Op.move (Operand.tmp 0), 25, none⟩, ⟨some 63, Op.nilCheck (Operand.tmp 62), 0, none⟩, ⟨some 64, Op.fieldAddr 61 (Operand.tmp 63) 8, 0, none⟩, ⟨some 65, Op.load 27 (Operand.tmp 64), 27, none⟩, ⟨some 66, Op.move (Operand.tmp 8), 3, none⟩, ⟨some 67, Op.buildSlice 27 1 #[(0, Operand.tmp 66)], 27, none⟩, ⟨some 68, Op.call { callee := Callee.builtin Builtin.append, args := #[Operand.tmp 65, Operand.tmp 67], argTypes := #[27, 27] }, 27, none⟩, ⟨some 69, Op.nilCheck (Operand.tmp 61), 0, none⟩, ⟨some 70, Op.fieldAddr 61 (Operand.tmp 69) 8, 0, none⟩, ⟨none, Op.store 27 (Operand.tmp 70) (Operand.tmp 68), 0, none⟩]) (by kernel_rfl) (by kernel_rfl) ?_
          refine TL_q rfl (QV_move rfl) ?_
          refine TL_q rfl (QV_move rfl) ?_
          refine TL_q rfl (QV_nil rfl) ?_
          refine TL_q rfl (QV_field rfl fld61_8) ?_
          refine TL_q rfl (QV_load rfl one27 (h2.m.c.c8)) ?_
          refine TL_q rfl (QV_move rfl) ?_
          refine TL_e (EV_lit1 rfl rfl rfl el27 in3 rfl fun w3 k3 => ?_)
          refine TL_e (EV_append rfl rfl rfl el27 in3 rfl (by decide) (h2.m.rl.fr k3.fr (fun _ _ h => h)) rfl (news1 k3.blk) (one1 rfl) (by show (S.lost.length + 1) * 8 ≤ 140737488355328; omega) (by show S.lost.length + 1 ≤ 140737488355328; omega) fun v4 w4 hrow h34 hat => ?_)
          obtain ⟨a', c', rfl, -⟩ := hrow.form
          refine TL_q rfl (QV_nil rfl) ?_
          refine TL_q rfl (QV_field rfl fld61_8) ?_
          refine TL_e (EV_store rfl rfl rfl sz27 ((h2.m.c.sol.fr k3.fr (fun h => h)).fr h34 (fun e => by have := (h2.m.ol _ e).1; omega)) (by simp [solCells]) fun w5 u5 => ?_)
          have e5 : loseIf (closeF S r) (D.getD r rl0).head r = loseF (closeF S r) (D.getD r rl0).head := by rw [loseIf, if_pos (of_decide_eq_true hc54)]
          have g := (h2.pushL k3 hrow h34 hat u5).castS (S' := loseIf (closeF S r) (D.getD r rl0).head r) (by rw [e5]; rfl)
          refine TL_nil ?_
          refine W_seq (by kernel_rfl) ?_
          refine W_seq (by kernel_rfl) ?_
          -- R7
          have eo : (loseIf (closeF S r) (D.getD r rl0).head r).opn = S.opn := by rw [loseIf]; split <;> rfl
          have eq2 : (loseIf (closeF S r) (D.getD r rl0).head r).queue = S.queue := by rw [loseIf]; split <;> rfl
          have hbo : -1000000000000 ≤ (loseIf (closeF S r) (D.getD r rl0).head r).opn.getD (D.getD r rl0).head 0 ∧ (loseIf (closeF S r) (D.getD r rl0).head r).opn.getD (D.getD r rl0).head 0 ≤ 1000000000000 := by rw [eo]; exact hb2
          refine W_reg (l := [⟨some 71, Op.move (Operand.tmp 0), 25, none⟩, ⟨some 72, Op.nilCheck (Operand.tmp 71), 0, none⟩, ⟨some 73, Op.fieldAddr 61 (Operand.tmp 72) 6, 0, none⟩, ⟨some 74, Op.load 27 (Operand.tmp 73), 27, none⟩, ⟨some 75, Op.move (Operand.tmp 8), 3, none⟩, ⟨some 76, Op.indexAddr 27 (Operand.tmp 74) (Operand.tmp 75), 0, none⟩, ⟨some 77, Op.load 3 (Operand.tmp 76), 3, none⟩, ⟨some 78, Op.binOp BinOp.sub 3 (Operand.tmp 77) (Operand.const (Value.int IntKind.i64 1)) 3, 3, none⟩, ⟨some 79, Op.indexAddr 27 (Operand.tmp 74) (Operand.tmp 75), 0, none⟩, ⟨none, Op.store 3 (Operand.tmp 79) (Operand.tmp 78), 0, none⟩]) (by kernel_rfl) (by kernel_rfl) ?_
          refine TL_q rfl (QV_move rfl) ?_
          refine TL_q rfl (QV_nil rfl) ?_
          refine TL_q rfl (QV_field rfl fld61_6) ?_
          refine TL_q rfl (QV_load rfl one27 (g.m.c.c6)) ?_
          refine TL_q rfl (QV_move rfl) ?_
          refine TL_q rfl (QV_idx1 rfl rfl el27 sz3 (hh)) ?_
          refine TL_q rfl (QV_load rfl one3 (g.m.c.bopn.cI (by rw [g.m.c.nopn]; exact hh))) ?_
          refine TL_q rfl (QV_sub (r := ((loseIf (closeF S r) (D.getD r rl0).head r).opn.getD (D.getD r rl0).head 0 - 1 : Int)) rfl rfl (by omega) (by omega) (by omega)) ?_
          refine TL_q rfl (QV_idx1 rfl rfl el27 sz3 (hh)) ?_
          refine TL_e (EV_store rfl rfl rfl sz3 g.m.c.bopn (by rw [ints_len, g.m.c.nopn]; exact hh) fun w7 u7 => ?_)
          have g7 : SMF w w7 L n D (decO (loseIf (closeF S r) (D.getD r rl0).head r) (D.getD r rl0).head) Prot _ _ := g.setOpn u7
          refine TL_nil ?_
          refine W_seq (by kernel_rfl) ?_
          -- R8
          refine W_reg (l := [⟨some 80, Op.move (Operand.tmp 0), 25, none⟩, ⟨some 81, Op.nilCheck (Operand.tmp 80), 0, none⟩, ⟨some 82, Op.fieldAddr 61 (Operand.tmp 81) 6, 0, none⟩, ⟨some 83, Op.load 27 (Operand.tmp 82), 27, none⟩, ⟨some 84, Op.move (Operand.tmp 8), 3, none⟩, ⟨some 85, Op.indexAddr 27 (Operand.tmp 83) (Operand.tmp 84), 0, none⟩, ⟨some 86, Op.load 3 (Operand.tmp 85), 3, none⟩, ⟨some 87, Op.binOp BinOp.eql 3 (Operand.tmp 86) (Operand.const (Value.int IntKind.i64 0)) 3, 4, none⟩]) (by kernel_rfl) (by kernel_rfl) ?_
          refine TL_q rfl (QV_move rfl) ?_
          refine TL_q rfl (QV_nil rfl) ?_
          refine TL_q rfl (QV_field rfl fld61_6) ?_
          refine TL_q rfl (QV_load rfl one27 (g7.m.c.c6)) ?_
          refine TL_q rfl (QV_move rfl) ?_
          refine TL_q rfl (QV_idx1 rfl rfl el27 sz3 (hh)) ?_
          refine TL_q rfl (QV_load rfl one3 (g7.m.c.bopn.cI (by rw [g7.m.c.nopn]; exact hh))) ?_
          refine TL_q rfl (QV_eql rfl rfl) ?_
          refine TL_nil ?_
          refine W_cond (c := Operand.tmp 87) (by kernel_rfl) rfl (fun hc87 => ?_) (fun hc87 => ?_)
          ·
            have e87 := of_decide_eq_true hc87
            have em9 : decideF (decO (loseIf (closeF S r) (D.getD r rl0).head r) (D.getD r rl0).head) (D.getD r rl0).head 0 = meetF D part S r met := by rw [meetF, if_neg ne, if_pos hmt, refIf, if_pos e87]
            -- R9
            refine W_reg (l := [⟨some 88, Op.move (Operand.tmp 0), 25, none⟩, ⟨some 89, Op.move (Operand.tmp 8), 3, none⟩, ⟨some 90, Op.call { callee := Callee.value (Operand.func 43), args := #[Operand.tmp 88, Operand.tmp 89, Operand.const (Value.int IntKind.i8 0)], argTypes := #[25, 3, 45] }, 0, none⟩]) (by kernel_rfl) (by kernel_rfl) ?_
            refine TL_q rfl (QV_move rfl) ?_
            refine TL_q rfl (QV_move rfl) ?_
            refine TL_e (EV_callD rfl rfl rfl call43 (decideWalk w7 L n D _ Prot _ _ g7.self (D.getD r rl0).head hh 0 (by show (loseIf (closeF S r) (D.getD r rl0).head r).queue.length ≤ _; rw [eq2]; exact hq)) fun r9 w9 hr9 => ?_)
            obtain ⟨rfl, qv9, g9⟩ := hr9
            refine TL_nil ?_
            refine W_ret (by kernel_rfl) ?_
            first
              | exact ⟨_, rfl, rfl, _, _, (g7.after g9).castS em9⟩
              | exact ⟨_, rfl, rfl, _, _, g7.castS em7⟩
              | exact ⟨_, rfl, rfl, _, _, h.castS em⟩
          ·
            have e87 := of_decide_eq_false hc87
            have em7 : decO (loseIf (closeF S r) (D.getD r rl0).head r) (D.getD r rl0).head = meetF D part S r met := by rw [meetF, if_neg ne, if_pos hmt, refIf, if_neg e87]
            refine W_skip (by kernel_rfl) ?_
            refine W_ret (by kernel_rfl) ?_
            first
              | exact ⟨_, rfl, rfl, _, _, (g7.after g9).castS em9⟩
              | exact ⟨_, rfl, rfl, _, _, g7.castS em7⟩
              | exact ⟨_, rfl, rfl, _, _, h.castS em⟩
        ·
          have e5 : loseIf (closeF S r) (D.getD r rl0).head r = closeF S r := by rw [loseIf, if_neg (of_decide_eq_false hc54)]
          have g : SMF w w1 L n D (loseIf (closeF S r) (D.getD r rl0).head r) Prot lv qv := by rw [e5]; exact h1
          refine W_skip (by kernel_rfl) ?_
          refine W_seq (by kernel_rfl) ?_
          refine W_seq (by kernel_rfl) ?_
          -- R7
          have eo : (loseIf (closeF S r) (D.getD r rl0).head r).opn = S.opn := by rw [loseIf]; split <;> rfl
          have eq2 : (loseIf (closeF S r) (D.getD r rl0).head r).queue = S.queue := by rw [loseIf]; split <;> rfl
          have hbo : -1000000000000 ≤ (loseIf (closeF S r) (D.getD r rl0).head r).opn.getD (D.getD r rl0).head 0 ∧ (loseIf (closeF S r) (D.getD r rl0).head r).opn.getD (D.getD r rl0).head 0 ≤ 1000000000000 := by rw [eo]; exact hb2
          refine W_reg (l := [⟨some 71, Op.move (Operand.tmp 0), 25, none⟩, ⟨some 72, Op.nilCheck (Operand.tmp 71), 0, none⟩, ⟨some 73, Op.fieldAddr 61 (Operand.tmp 72) 6, 0, none⟩, ⟨some 74, Op.load 27 (Operand.tmp 73), 27, none⟩, ⟨some 75, Op.move (Operand.tmp 8), 3, none⟩, ⟨some 76, Op.indexAddr 27 (Operand.tmp 74) (Operand.tmp 75), 0, none⟩, ⟨some 77, Op.load 3 (Operand.tmp 76), 3, none⟩, ⟨some 78, Op.binOp BinOp.sub 3 (Operand.tmp 77) (Operand.const (Value.int IntKind.i64 1)) 3, 3, none⟩, ⟨some 79, Op.indexAddr 27 (Operand.tmp 74) (Operand.tmp 75), 0, none⟩, ⟨none, Op.store 3 (Operand.tmp 79) (Operand.tmp 78), 0, none⟩]) (by kernel_rfl) (by kernel_rfl) ?_
          refine TL_q rfl (QV_move rfl) ?_
          refine TL_q rfl (QV_nil rfl) ?_
          refine TL_q rfl (QV_field rfl fld61_6) ?_
          refine TL_q rfl (QV_load rfl one27 (g.m.c.c6)) ?_
          refine TL_q rfl (QV_move rfl) ?_
          refine TL_q rfl (QV_idx1 rfl rfl el27 sz3 (hh)) ?_
          refine TL_q rfl (QV_load rfl one3 (g.m.c.bopn.cI (by rw [g.m.c.nopn]; exact hh))) ?_
          refine TL_q rfl (QV_sub (r := ((loseIf (closeF S r) (D.getD r rl0).head r).opn.getD (D.getD r rl0).head 0 - 1 : Int)) rfl rfl (by omega) (by omega) (by omega)) ?_
          refine TL_q rfl (QV_idx1 rfl rfl el27 sz3 (hh)) ?_
          refine TL_e (EV_store rfl rfl rfl sz3 g.m.c.bopn (by rw [ints_len, g.m.c.nopn]; exact hh) fun w7 u7 => ?_)
          have g7 : SMF w w7 L n D (decO (loseIf (closeF S r) (D.getD r rl0).head r) (D.getD r rl0).head) Prot _ _ := g.setOpn u7
          refine TL_nil ?_
          refine W_seq (by kernel_rfl) ?_
          -- R8
          refine W_reg (l := [⟨some 80, Op.move (Operand.tmp 0), 25, none⟩, ⟨some 81, Op.nilCheck (Operand.tmp 80), 0, none⟩, ⟨some 82, Op.fieldAddr 61 (Operand.tmp 81) 6, 0, none⟩, ⟨some 83, Op.load 27 (Operand.tmp 82), 27, none⟩, ⟨some 84, Op.move (Operand.tmp 8), 3, none⟩, ⟨some 85, Op.indexAddr 27 (Operand.tmp 83) (Operand.tmp 84), 0, none⟩, ⟨some 86, Op.load 3 (Operand.tmp 85), 3, none⟩, ⟨some 87, Op.binOp BinOp.eql 3 (Operand.tmp 86) (Operand.const (Value.int IntKind.i64 0)) 3, 4, none⟩]) (by kernel_rfl) (by kernel_rfl) ?_
          refine TL_q rfl (QV_move rfl) ?_
          refine TL_q rfl (QV_nil rfl) ?_
          refine TL_q rfl (QV_field rfl fld61_6) ?_
          refine TL_q rfl (QV_load rfl one27 (g7.m.c.c6)) ?_
          refine TL_q rfl (QV_move rfl) ?_
          refine TL_q rfl (QV_idx1 rfl rfl el27 sz3 (hh)) ?_
          refine TL_q rfl (QV_load rfl one3 (g7.m.c.bopn.cI (by rw [g7.m.c.nopn]; exact hh))) ?_
          refine TL_q rfl (QV_eql rfl rfl) ?_
          refine TL_nil ?_
          refine W_cond (c := Operand.tmp 87) (by kernel_rfl) rfl (fun hc87 => ?_) (fun hc87 => ?_)
          ·
            have e87 := of_decide_eq_true hc87
            have em9 : decideF (decO (loseIf (closeF S r) (D.getD r rl0).head r) (D.getD r rl0).head) (D.getD r rl0).head 0 = meetF D part S r met := by rw [meetF, if_neg ne, if_pos hmt, refIf, if_pos e87]
            -- R9
            refine W_reg (l := [⟨some 88, Op.move (Operand.tmp 0), 25, none⟩, ⟨some 89, Op.move (Operand.tmp 8), 3, none⟩, ⟨some 90, Op.call { callee := Callee.value (Operand.func 43), args := #[Operand.tmp 88, Operand.tmp 89, Operand.const (Value.int IntKind.i8 0)], argTypes := #[25, 3, 45] }, 0, none⟩]) (by kernel_rfl) (by kernel_rfl) ?_
            refine TL_q rfl (QV_move rfl) ?_
            refine TL_q rfl (QV_move rfl) ?_
            refine TL_e (EV_callD rfl rfl rfl call43 (decideWalk w7 L n D _ Prot _ _ g7.self (D.getD r rl0).head hh 0 (by show (loseIf (closeF S r) (D.getD r rl0).head r).queue.length ≤ _; rw [eq2]; exact hq)) fun r9 w9 hr9 => ?_)
            obtain ⟨rfl, qv9, g9⟩ := hr9
            refine TL_nil ?_
            refine W_ret (by kernel_rfl) ?_
            first
              | exact ⟨_, rfl, rfl, _, _, (g7.after g9).castS em9⟩
              | exact ⟨_, rfl, rfl, _, _, g7.castS em7⟩
              | exact ⟨_, rfl, rfl, _, _, h.castS em⟩
          ·
            have e87 := of_decide_eq_false hc87
            have em7 : decO (loseIf (closeF S r) (D.getD r rl0).head r) (D.getD r rl0).head = meetF D part S r met := by rw [meetF, if_neg ne, if_pos hmt, refIf, if_neg e87]
            refine W_skip (by kernel_rfl) ?_
            refine W_ret (by kernel_rfl) ?_
            first
              | exact ⟨_, rfl, rfl, _, _, (g7.after g9).castS em9⟩
              | exact ⟨_, rfl, rfl, _, _, g7.castS em7⟩
              | exact ⟨_, rfl, rfl, _, _, h.castS em⟩
      ·
        have hmt : ¬ met = false := by simpa using hc39
        refine W_skip (by kernel_rfl) ?_
        refine W_seq (by kernel_rfl) ?_
        -- R10
        refine W_reg (l := [⟨some 91, Op.move (Operand.tmp 0), 25, none⟩, ⟨some 92, Op.nilCheck (Operand.tmp 91), 0, none⟩, ⟨some 93, Op.fieldAddr 61 (Operand.tmp 92) 10, 0, none⟩, ⟨some 94, Op.load 27 (Operand.tmp 93), 27, none⟩, ⟨some 95, Op.move (Operand.tmp 1), 3, none⟩, ⟨some 96, Op.indexAddr 27 (Operand.tmp 94) (Operand.tmp 95), 0, none⟩, ⟨some 97, Op.load 3 (Operand.tmp 96), 3, none⟩, ⟨some 98, Op.binOp BinOp.sub 3 (Operand.tmp 97) (Operand.const (Value.int IntKind.i64 1)) 3, 3, none⟩, ⟨some 99, Op.indexAddr 27 (Operand.tmp 94) (Operand.tmp 95), 0, none⟩, ⟨none, Op.store 3 (Operand.tmp 99) (Operand.tmp 98), 0, none⟩]) (by kernel_rfl) (by kernel_rfl) ?_
        refine TL_q rfl (QV_move rfl) ?_
        refine TL_q rfl (QV_nil rfl) ?_
        refine TL_q rfl (QV_field rfl fld61_10) ?_
        refine TL_q rfl (QV_load rfl one27 (h.m.c.c10)) ?_
        refine TL_q rfl (QV_move rfl) ?_
        refine TL_q rfl (QV_idx1 rfl rfl el27 sz3 (hr)) ?_
        refine TL_q rfl (QV_load rfl one3 (h.m.c.bwait.cI (by rw [h.m.c.nwait]; exact hr))) ?_
        refine TL_q rfl (QV_sub (r := (S.wait.getD r 0 - 1 : Int)) rfl rfl (by omega) (by omega) (by omega)) ?_
        refine TL_q rfl (QV_idx1 rfl rfl el27 sz3 (hr)) ?_
        refine TL_e (EV_store rfl rfl rfl sz3 h.m.c.bwait (by rw [ints_len, h.m.c.nwait]; exact hr) fun w1 u1 => ?_)
        have h1 : SMF w w1 L n D (decW S r) Prot lv qv := h.setWait u1
        refine TL_nil ?_
        refine W_seq (by kernel_rfl) ?_
        -- R11
        refine W_reg (l := [⟨some 100, Op.move (Operand.tmp 0), 25, none⟩, ⟨some 101, Op.nilCheck (Operand.tmp 100), 0, none⟩, ⟨some 102, Op.fieldAddr 61 (Operand.tmp 101) 10, 0, none⟩, ⟨some 103, Op.load 27 (Operand.tmp 102), 27, none⟩, ⟨some 104, Op.move (Operand.tmp 1), 3, none⟩, ⟨some 105, Op.indexAddr 27 (Operand.tmp 103) (Operand.tmp 104), 0, none⟩, ⟨some 106, Op.load 3 (Operand.tmp 105), 3, none⟩, ⟨some 107, Op.binOp BinOp.eql 3 (Operand.tmp 106) (Operand.const (Value.int IntKind.i64 0)) 3, 4, none⟩]) (by kernel_rfl) (by kernel_rfl) ?_
        refine TL_q rfl (QV_move rfl) ?_
        refine TL_q rfl (QV_nil rfl) ?_
        refine TL_q rfl (QV_field rfl fld61_10) ?_
        refine TL_q rfl (QV_load rfl one27 (h1.m.c.c10)) ?_
        refine TL_q rfl (QV_move rfl) ?_
        refine TL_q rfl (QV_idx1 rfl rfl el27 sz3 (hr)) ?_
        refine TL_q rfl (QV_load rfl one3 (h1.m.c.bwait.cI (by rw [h1.m.c.nwait]; exact hr))) ?_
        refine TL_q rfl (QV_eql rfl rfl) ?_
        refine TL_nil ?_
        refine W_cond (c := Operand.tmp 107) (by kernel_rfl) rfl (fun hc107 => ?_) (fun hc107 => ?_)
        ·
          have e107 := of_decide_eq_true hc107
          have em9 : decideF (decW S r) (D.getD r rl0).head 2 = meetF D part S r met := by rw [meetF, if_neg ne, if_neg hmt, prvIf, if_pos e107]
          -- R12
          refine W_reg (l := [⟨some 108, Op.move (Operand.tmp 0), 25, none⟩, ⟨some 109, Op.move (Operand.tmp 8), 3, none⟩, ⟨some 110, Op.call { callee := Callee.value (Operand.func 43), args := #[Operand.tmp 108, Operand.tmp 109, Operand.const (Value.int IntKind.i8 2)], argTypes := #[25, 3, 45] }, 0, none⟩]) (by kernel_rfl) (by kernel_rfl) ?_
          refine TL_q rfl (QV_move rfl) ?_
          refine TL_q rfl (QV_move rfl) ?_
          refine TL_e (EV_callD rfl rfl rfl call43 (decideWalk w1 L n D _ Prot _ _ h1.self (D.getD r rl0).head hh 2 hq) fun r9 w9 hr9 => ?_)
          obtain ⟨rfl, qv9, g9⟩ := hr9
          refine TL_nil ?_
          first
            | exact ⟨_, rfl, rfl, _, _, (h1.after g9).castS em9⟩
            | exact ⟨_, rfl, rfl, _, _, h1.castS em1⟩
        ·
          have e107 := of_decide_eq_false hc107
          have em1 : decW S r = meetF D part S r met := by rw [meetF, if_neg ne, if_neg hmt, prvIf, if_neg e107]
          refine W_skip (by kernel_rfl) ?_
          first
            | exact ⟨_, rfl, rfl, _, _, (h1.after g9).castS em9⟩
            | exact ⟨_, rfl, rfl, _, _, h1.castS em1⟩

end Go.Proofs.Qxb6600121a
