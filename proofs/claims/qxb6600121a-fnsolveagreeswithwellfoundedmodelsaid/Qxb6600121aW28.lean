/-
   Walks written by program (wip/gen).
-/
import Derived.Test.Qxb6600121aW39
namespace Go.Proofs.Qxb6600121a
open Go Go.Proofs
set_option linter.unusedVariables false
set_option linter.unusedSimpArgs false

set_option maxRecDepth 10000 in
theorem truthOf (w : World) (L : Lay) (n : Nat) (D : List Rl) (S : SS) (Prot : Nat → Prop) (lv qv : Value) (h : SMF w w L n D S Prot lv qv) (a : Nat) (ha : a < n) :
    CallsS Try.prog 26 #[.pointer (some ⟨L.s + 9, 0, none⟩), .int .i64 (a : Int)] w (fun v w' => w' = w ∧ v = .int .i8 (S.val.getD a 0)) := by
  refine W_fun [4] Try.func26 rfl Try.ntmps26 Try.results26 (Nat.le_of_ble_eq_true rfl) ?_
  refine W_seq (by kernel_rfl) ?_
  -- R0
  refine W_reg (l := [⟨some 4, Op.assign (Operand.const (Value.int IntKind.i8 0)), 45, none⟩]) (by kernel_rfl) (by kernel_rfl) ?_
  refine TL_q rfl (QV_assign rfl) ?_
  refine TL_nil ?_
  refine W_seq (by kernel_rfl) ?_
  -- R1
  refine W_reg (l := [⟨some 5, Op.move (Operand.tmp 0), 25, none⟩, ⟨some 6, Op.nilCheck (Operand.tmp 5), 0, none⟩, ⟨some 7, Op.fieldAddr 61 (Operand.tmp 6) 4, 0, none⟩, ⟨some 8, Op.load 47 (Operand.tmp 7), 47, none⟩, ⟨some 9, Op.move (Operand.tmp 1), 3, none⟩, ⟨some 10, Op.indexAddr 47 (Operand.tmp 8) (Operand.tmp 9), 0, none⟩, ⟨some 11, Op.load 45 (Operand.tmp 10), 45, none⟩, ⟨some 4, Op.assign (Operand.tmp 11), 45, none⟩]) (by kernel_rfl) (by kernel_rfl) ?_
  refine TL_q rfl (QV_move rfl) ?_
  refine TL_q rfl (QV_nil rfl) ?_
  refine TL_q rfl (QV_field rfl fld61_4) ?_
  refine TL_q rfl (QV_load rfl one47 (h.m.c.c4)) ?_
  refine TL_q rfl (QV_move rfl) ?_
  refine TL_q rfl (QV_idx1 rfl rfl el47 sz45 (ha)) ?_
  refine TL_q rfl (QV_load rfl one45 (h.m.c.bval.c8 (by rw [h.m.c.nval]; exact ha))) ?_
  refine TL_q rfl (QV_assign rfl) ?_
  refine TL_nil ?_
  refine W_ret (by kernel_rfl) ?_
  exact ⟨_, rfl, rfl, rfl⟩

set_option maxRecDepth 10000 in
theorem sourceOf (w : World) (L : Lay) (n : Nat) (D : List Rl) (S : SS) (Prot : Nat → Prop) (lv qv : Value) (h : SMF w w L n D S Prot lv qv) (a : Nat) (ha : a < n) :
    CallsS Try.prog 32 #[.pointer (some ⟨L.s + 9, 0, none⟩), .int .i64 (a : Int)] w (fun v w' => w' = w ∧ v = .int .i64 (S.source.getD a 0)) := by
  refine W_fun [4] Try.func32 rfl Try.ntmps32 Try.results32 (Nat.le_of_ble_eq_true rfl) ?_
  refine W_seq (by kernel_rfl) ?_
  -- R0
  refine W_reg (l := [⟨some 4, Op.assign (Operand.const (Value.int IntKind.i64 0)), 3, none⟩]) (by kernel_rfl) (by kernel_rfl) ?_
  refine TL_q rfl (QV_assign rfl) ?_
  refine TL_nil ?_
  refine W_seq (by kernel_rfl) ?_
  -- R1
  refine W_reg (l := [⟨some 5, Op.move (Operand.tmp 0), 25, none⟩, ⟨some 6, Op.nilCheck (Operand.tmp 5), 0, none⟩, ⟨some 7, Op.fieldAddr 61 (Operand.tmp 6) 7, 0, none⟩, ⟨some 8, Op.load 27 (Operand.tmp 7), 27, none⟩, ⟨some 9, Op.move (Operand.tmp 1), 3, none⟩, ⟨some 10, Op.indexAddr 27 (Operand.tmp 8) (Operand.tmp 9), 0, none⟩, ⟨some 11, Op.load 3 (Operand.tmp 10), 3, none⟩, ⟨some 4, Op.assign (Operand.tmp 11), 3, none⟩]) (by kernel_rfl) (by kernel_rfl) ?_
  refine TL_q rfl (QV_move rfl) ?_
  refine TL_q rfl (QV_nil rfl) ?_
  refine TL_q rfl (QV_field rfl fld61_7) ?_
  refine TL_q rfl (QV_load rfl one27 (h.m.c.c7)) ?_
  refine TL_q rfl (QV_move rfl) ?_
  refine TL_q rfl (QV_idx1 rfl rfl el27 sz3 (ha)) ?_
  refine TL_q rfl (QV_load rfl one3 (h.m.c.bsource.cI (by rw [h.m.c.nsource]; exact ha))) ?_
  refine TL_q rfl (QV_assign rfl) ?_
  refine TL_nil ?_
  refine W_ret (by kernel_rfl) ?_
  exact ⟨_, rfl, rfl, rfl⟩

set_option maxRecDepth 10000 in
theorem forgetSource (w : World) (L : Lay) (n : Nat) (D : List Rl) (S : SS) (Prot : Nat → Prop) (lv qv : Value) (h : SMF w w L n D S Prot lv qv) (a : Nat) (ha : a < n) (hlo : S.lost.length ≤ 1000000000000) :
    CallsS Try.prog 30 #[.pointer (some ⟨L.s + 9, 0, none⟩), .int .i64 (a : Int)] w (fun v w' => v = .tuple #[] ∧ ∃ lv', SMF w w' L n D (loseF S a) Prot lv' qv) := by
  refine W_fun [] Try.func30 rfl Try.ntmps30 Try.results30 (Nat.le_of_ble_eq_true rfl) ?_
  refine W_seq (by kernel_rfl) ?_
  -- R0
  refine W_reg (l := [⟨some 4, Op.move (Operand.tmp 0), 25, none⟩, ⟨some 5, Op.nilCheck (Operand.tmp 4), 0, none⟩, ⟨some 6, Op.fieldAddr 61 (Operand.tmp 5) 7, 0, none⟩, ⟨some 7, Op.load 27 (Operand.tmp 6), 27, none⟩, ⟨some 8, Op.move (Operand.tmp 1), 3, none⟩, ⟨some 9, Op.indexAddr 27 (Operand.tmp 7) (Operand.tmp 8), 0, none⟩, ⟨none, Op.store 3 (Operand.tmp 9) (Operand.const (Value.int IntKind.i64 (-1))), 0, none⟩]) (by kernel_rfl) (by kernel_rfl) ?_
  refine TL_q rfl (QV_move rfl) ?_
  refine TL_q rfl (QV_nil rfl) ?_
  refine TL_q rfl (QV_field rfl fld61_7) ?_
  refine TL_q rfl (QV_load rfl one27 (h.m.c.c7)) ?_
  refine TL_q rfl (QV_move rfl) ?_
  refine TL_q rfl (QV_idx1 rfl rfl el27 sz3 (ha)) ?_
  refine TL_e (EV_store rfl rfl rfl sz3 h.m.c.bsource (by rw [ints_len, h.m.c.nsource]; exact ha) fun w1 u1 => ?_)
  have h1 := h.setSource u1
  refine TL_nil ?_
  -- R1
  refine W_reg (l := [⟨some 10, Op.move (Operand.tmp 0), 25, none⟩, ⟨some 11, Op.move (Operand.tmp 0), 25, none⟩, ⟨some 12, Op.nilCheck (Operand.tmp 11), 0, none⟩, ⟨some 13, Op.fieldAddr 61 (Operand.tmp 12) 8, 0, none⟩, ⟨some 14, Op.load 27 (Operand.tmp 13), 27, none⟩, ⟨some 15, Op.move (Operand.tmp 1), 3, none⟩, ⟨some 16, Op.buildSlice 27 1 #[(0, Operand.tmp 15)], 27, none⟩, ⟨some 17, Op.call { callee := Callee.builtin Builtin.append, args := #[Operand.tmp 14, Operand.tmp 16], argTypes := #[27, 27] }, 27, none⟩, ⟨some 18, Op.nilCheck (Operand.tmp 10), 0, none⟩, ⟨some 19, Op.fieldAddr 61 (Operand.tmp 18) 8, 0, none⟩, ⟨none, Op.store 27 (Operand.tmp 19) (Operand.tmp 17), 0, none⟩]) (by kernel_rfl) (by kernel_rfl) ?_
  refine TL_q rfl (QV_move rfl) ?_
  refine TL_q rfl (QV_move rfl) ?_
  refine TL_q rfl (QV_nil rfl) ?_
  refine TL_q rfl (QV_field rfl fld61_8) ?_
  refine TL_q rfl (QV_load rfl one27 (h1.m.c.c8)) ?_
  refine TL_q rfl (QV_move rfl) ?_
  refine TL_e (EV_lit1 rfl rfl rfl el27 in3 rfl fun w2 k2 => ?_)
  refine TL_e (EV_append rfl rfl rfl el27 in3 rfl (by decide) (h1.m.rl.fr k2.fr (fun _ _ h => h)) rfl (news1 k2.blk) (one1 rfl) (by show (S.lost.length + 1) * 8 ≤ 140737488355328; omega) (by show S.lost.length + 1 ≤ 140737488355328; omega) fun v3 w3 hrow3 h23 hat => ?_)
  obtain ⟨a3, c3, rfl, -⟩ := hrow3.form
  refine TL_q rfl (QV_nil rfl) ?_
  refine TL_q rfl (QV_field rfl fld61_8) ?_
  refine TL_e (EV_store rfl rfl rfl sz27 ((h1.m.c.sol.fr k2.fr (fun h => h)).fr h23 (fun e => by have := (h1.m.ol _ e).1; omega)) (by simp [solCells]) fun w4 u4 => ?_)
  have h4 := h1.pushL k2 hrow3 h23 hat u4
  refine TL_nil ?_
  exact ⟨_, rfl, rfl, _, h4⟩

set_option maxRecDepth 10000 in
theorem refute31 (w : World) (L : Lay) (n : Nat) (D : List Rl) (S : SS) (Prot : Nat → Prop) (lv qv : Value) (h : SMF w w L n D S Prot lv qv) (hok : Okay n D) (hl : D.length + tot (D.map Rl.rd) ≤ 1048576) (hn : n ≤ 65536) (part : Nat) (R : Bool → SS → Prop) (X : Srch D n part S R) :
    CallsS Try.prog 31 #[.pointer (some ⟨L.s + 9, 0, none⟩), .int .i64 (part : Int)] w (fun v w' => ∃ b, v = .bool b ∧ ∃ S' lv' qv', R b S' ∧ SMF w w' L n D S' Prot lv' qv') := by
  refine W_fun [4] Try.func31 rfl Try.ntmps31 Try.results31 (Nat.le_of_ble_eq_true rfl) ?_
  refine W_seq (by kernel_rfl) ?_
  -- R0
  refine W_reg (l := [⟨some 4, Op.assign (Operand.const (Value.bool false)), 4, none⟩]) (by kernel_rfl) (by kernel_rfl) ?_
  refine TL_q rfl (QV_assign rfl) ?_
  refine TL_nil ?_
  refine W_seq (by kernel_rfl) ?_
  -- R1
  refine W_reg (l := [⟨some 5, Op.move (Operand.tmp 0), 25, none⟩, ⟨some 6, Op.move (Operand.tmp 1), 3, none⟩, ⟨some 7, Op.call { callee := Callee.value (Operand.func 40), args := #[Operand.tmp 5, Operand.tmp 6], argTypes := #[25, 3] }, 4, none⟩, ⟨some 4, Op.assign (Operand.tmp 7), 4, none⟩]) (by kernel_rfl) (by kernel_rfl) ?_
  refine TL_q rfl (QV_move rfl) ?_
  refine TL_q rfl (QV_move rfl) ?_
  refine TL_e (EV_callD rfl rfl rfl call40 (refuteWalk w L n D S Prot lv qv h hok hl hn part R X) fun r1 w1 hr1 => ?_)
  obtain ⟨b, rfl, S1, lv1, qv1, hR, h1⟩ := hr1
  refine TL_q rfl (QV_assign rfl) ?_
  refine TL_nil ?_
  refine W_ret (by kernel_rfl) ?_
  exact ⟨_, rfl, b, rfl, S1, lv1, qv1, hR, h1⟩

set_option maxRecDepth 10000 in
theorem settle28 (w : World) (L : Lay) (n : Nat) (D : List Rl) (S : SS) (Prot : Nat → Prop) (lv qv : Value) (h : SMF w w L n D S Prot lv qv) (hok : Okay n D) (hl : D.length + tot (D.map Rl.rd) ≤ 1048576) (hn : n ≤ 65536) (part : Nat) (A : List Nat) (hA : ∀ x ∈ A, x < n) (hne : 0 < A.length) (hAl : A.length ≤ 1048576) (av : Value) (hav : IntsAt w.heap Prot av (casts A)) (hmq : muq S ≤ 1000000000000) (R : SS → Prop) (X : Stl D n part A S R) :
    CallsS Try.prog 28 #[.pointer (some ⟨L.s + 9, 0, none⟩), .int .i64 (part : Int), av] w (fun v w' => v = .tuple #[] ∧ ∃ S' lv' qv', R S' ∧ SMF w w' L n D S' Prot lv' qv') := by
  refine W_fun [] Try.func28 rfl Try.ntmps28 Try.results28 (Nat.le_of_ble_eq_true rfl) ?_
  -- R0
  refine W_reg (l := [⟨some 6, Op.move (Operand.tmp 0), 25, none⟩, ⟨some 7, Op.move (Operand.tmp 1), 3, none⟩, ⟨some 8, Op.move (Operand.tmp 2), 27, none⟩, ⟨some 9, Op.call { callee := Callee.value (Operand.func 39), args := #[Operand.tmp 6, Operand.tmp 7, Operand.tmp 8], argTypes := #[25, 3, 27] }, 0, none⟩]) (by kernel_rfl) (by kernel_rfl) ?_
  refine TL_q rfl (QV_move rfl) ?_
  refine TL_q rfl (QV_move rfl) ?_
  refine TL_q rfl (QV_move rfl) ?_
  refine TL_e (EV_callD rfl rfl rfl call39 (settleWalk w L n D S Prot lv qv h hok hl hn part A hA hne hAl av hav hmq R X) fun r1 w1 hr1 => ?_)
  obtain ⟨rfl, S1, lv1, qv1, hR, h1⟩ := hr1
  refine TL_nil ?_
  exact ⟨_, rfl, rfl, S1, lv1, qv1, hR, h1⟩

end Go.Proofs.Qxb6600121a
