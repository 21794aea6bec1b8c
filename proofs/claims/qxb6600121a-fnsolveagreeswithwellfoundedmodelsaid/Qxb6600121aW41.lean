/-
   Walks written by program (wip/gen).
-/
import Derived.Test.Qxb6600121aTj
namespace Go.Proofs.Qxb6600121a
open Go Go.Proofs
set_option linter.unusedVariables false
set_option linter.unusedSimpArgs false

set_option maxRecDepth 10000 in
theorem visitWalk (w : World) (own : Nat → Nat) (B : TB) (hB : B.ok) (n : Nat) (t : TJ) (sv cv av ev : Value) (m : TMem w.heap own B n t sv cv av ev) (a : Nat) (ha : a < n) (b1 : t.visited ≤ 1048576) (b2 : t.stack.length ≤ 1048576) (b3 : t.calls.length ≤ 1048576) :
    CallsS Try.prog 41 #[.int .i64 (a : Int), .pointer (some ⟨B.s + 9, 0, none⟩), .pointer (some ⟨B.bI, 0, none⟩), .pointer (some ⟨B.bL, 0, none⟩), .pointer (some ⟨B.s + 6, 0, none⟩), .pointer (some ⟨B.s + 5, 0, none⟩), .pointer (some ⟨B.s + 8, 0, none⟩)] w
      (fun r w' => r = .tuple #[] ∧ Fr (fun g => B.s ≤ g) w w' ∧ ∃ own' sv' cv', TMem w'.heap own' B n (t.visit a) sv' cv' av ev) := by
  have l := m.lt
  refine W_fun [] Try.func41 rfl Try.ntmps41 Try.results41 (Nat.le_of_ble_eq_true rfl) ?_
  refine W_seq (by kernel_rfl) ?_
  -- R0
  refine W_reg (l := [⟨some 8, Op.load 3 (Operand.tmp 1), 3, none⟩, ⟨some 9, Op.binOp BinOp.add 3 (Operand.tmp 8) (Operand.const (Value.int IntKind.i64 1)) 3, 3, none⟩, ⟨none, Op.store 3 (Operand.tmp 1) (Operand.tmp 9), 0, none⟩]) (by kernel_rfl) (by kernel_rfl) ?_
  refine TL_q rfl (QV_load rfl one3 (m.cV)) ?_
  refine TL_q rfl (QV_add (r := ((t.visited + 1 : Nat) : Int)) rfl rfl (by omega) (by omega) (by omega)) ?_
  refine TL_e (EV_store rfl rfl rfl sz3 m.boxV (by simp) fun w1 u1 => ?_)
  have m1 : TMem w1.heap own B n { t with visited := t.visited + 1 } sv cv av ev := m.setV hB u1
  refine TL_nil ?_
  refine W_seq (by kernel_rfl) ?_
  -- R1
  refine W_regH (fun h => cel h B.bI 0 = some (.slice (some ⟨B.aI, 0, none⟩) n n) ∧ cel h B.bL 0 = some (.slice (some ⟨B.aL, 0, none⟩) n n) ∧ cel h (B.s + 9) 0 = some (.int .i64 ((t.visited + 1 : Nat) : Int))) (l := [(0, true, ⟨some 10, Op.load 27 (Operand.tmp 2), 27, none⟩), (1, true, ⟨some 11, Op.move (Operand.tmp 0), 3, none⟩), (2, true, ⟨some 12, Op.load 27 (Operand.tmp 3), 27, none⟩), (3, true, ⟨some 13, Op.move (Operand.tmp 0), 3, none⟩), (4, true, ⟨some 14, Op.load 3 (Operand.tmp 1), 3, none⟩), (5, true, ⟨some 15, Op.load 3 (Operand.tmp 1), 3, none⟩), (6, true, ⟨some 16, Op.indexAddr 27 (Operand.tmp 10) (Operand.tmp 11), 0, none⟩), (7, false, ⟨none, Op.store 3 (Operand.tmp 16) (Operand.tmp 14), 0, none⟩), (8, true, ⟨some 17, Op.indexAddr 27 (Operand.tmp 12) (Operand.tmp 13), 0, none⟩), (9, false, ⟨none, Op.store 3 (Operand.tmp 17) (Operand.tmp 15), 0, none⟩)]) mix (by kernel_rfl) (by kernel_rfl) (by kernel_rfl) ⟨by kernel_rfl, by kernel_rfl, ⟨by kernel_rfl, by kernel_rfl, ⟨by kernel_rfl, by kernel_rfl, ⟨by kernel_rfl, by kernel_rfl, ⟨by kernel_rfl, by kernel_rfl, ⟨by kernel_rfl, by kernel_rfl, ⟨by kernel_rfl, by kernel_rfl, ⟨by kernel_rfl, by kernel_rfl, ⟨by kernel_rfl, by kernel_rfl, ⟨by kernel_rfl, by kernel_rfl, ordOk_nil (by kernel_rfl)⟩⟩⟩⟩⟩⟩⟩⟩⟩⟩ ⟨m1.cI, m1.cL, m1.cV⟩ ?_
  refine TH_q rfl (fun _ hS => QV_load rfl one27 (hS.1)) ?_
  refine TH_q rfl (fun _ hS => QV_move rfl) ?_
  refine TH_q rfl (fun _ hS => QV_load rfl one27 (hS.2.1)) ?_
  refine TH_q rfl (fun _ hS => QV_move rfl) ?_
  refine TH_q rfl (fun _ hS => QV_load rfl one3 (hS.2.2)) ?_
  refine TH_q rfl (fun _ hS => QV_load rfl one3 (hS.2.2)) ?_
  refine TH_q rfl (fun _ hS => QV_idx1 rfl rfl el27 sz3 (ha)) ?_
  refine TH_e rfl (EV_store rfl rfl rfl sz3 m1.arrI (by rw [nats_len, m1.nI]; exact ha) fun w2 u2 => ?_)
  have m2 : TMem w2.heap own B n { t with visited := t.visited + 1, index := t.index.set a (t.visited + 1) } sv cv av ev := m1.setIndex hB u2
  refine ⟨⟨m2.cI, m2.cL, m2.cV⟩, ?_⟩
  refine TH_q rfl (fun _ hS => QV_idx1 rfl rfl el27 sz3 (ha)) ?_
  refine TH_e rfl (EV_store rfl rfl rfl sz3 m2.arrL (by rw [nats_len, m2.nL]; exact ha) fun w3 u3 => ?_)
  have m3 : TMem w3.heap own B n { t with visited := t.visited + 1, index := t.index.set a (t.visited + 1), low := t.low.set a (t.visited + 1) } sv cv av ev := m2.setLow hB u3
  have rS : Row w3.heap 3 1 sv t.stack.length (nats t.stack.reverse) := m3.vS.row
  refine ⟨⟨m3.cI, m3.cL, m3.cV⟩, ?_⟩
  refine TH_nil ?_
  refine W_seq (by kernel_rfl) ?_
  -- R2
  refine W_reg (l := [⟨some 18, Op.load 27 (Operand.tmp 4), 27, none⟩, ⟨some 19, Op.move (Operand.tmp 0), 3, none⟩, ⟨some 20, Op.buildSlice 27 1 #[(0, Operand.tmp 19)], 27, none⟩, ⟨some 21, Op.call { callee := Callee.builtin Builtin.append, args := #[Operand.tmp 18, Operand.tmp 20], argTypes := #[27, 27] }, 27, none⟩, ⟨none, Op.store 27 (Operand.tmp 4) (Operand.tmp 21), 0, none⟩]) (by kernel_rfl) (by kernel_rfl) ?_
  refine TL_q rfl (QV_load rfl one27 (m3.cS)) ?_
  refine TL_q rfl (QV_move rfl) ?_
  refine TL_e (EV_lit1 rfl rfl rfl el27 in3 rfl fun w4 h4 => ?_)
  refine TL_e (EV_append rfl rfl rfl el27 in3 rfl (by decide) (rS.fr h4.fr (fun _ _ h => h)) rfl (news1 h4.blk) (one1 rfl) (by omega) (by omega) fun v' w5 hrow h45 hat => ?_)
  obtain ⟨a', c', rfl, -⟩ := hrow.form
  refine TL_e (EV_store rfl rfl rfl sz27 ((m3.boxS.fr h4.fr (fun h => h)).fr h45 (fun e => by have := (m3.vS.own _ e).2; omega)) (by simp) fun w6 u6 => ?_)
  have m6 : TMem w6.heap (ownP own w3.heap.size 1) B n { t with visited := t.visited + 1, index := t.index.set a (t.visited + 1), low := t.low.set a (t.visited + 1), stack := a :: t.stack } _ cv av ev := m3.pushS hB h4 hrow h45 hat u6
  refine TL_nil ?_
  refine W_seq (by kernel_rfl) ?_
  -- R3
  refine W_reg (l := [⟨some 22, Op.load 37 (Operand.tmp 5), 37, none⟩, ⟨some 23, Op.move (Operand.tmp 0), 3, none⟩, ⟨some 24, Op.indexAddr 37 (Operand.tmp 22) (Operand.tmp 23), 0, none⟩, ⟨none, Op.store 4 (Operand.tmp 24) (Operand.const (Value.bool true)), 0, none⟩]) (by kernel_rfl) (by kernel_rfl) ?_
  refine TL_q rfl (QV_load rfl one37 (m6.cO)) ?_
  refine TL_q rfl (QV_move rfl) ?_
  refine TL_q rfl (QV_idx1 rfl rfl el37 sz4 (ha)) ?_
  refine TL_e (EV_store rfl rfl rfl sz4 m6.arrO (by rw [bools_len, m6.nO]; exact ha) fun w7 u7 => ?_)
  have m7 : TMem w7.heap (ownP own w3.heap.size 1) B n { t with visited := t.visited + 1, index := t.index.set a (t.visited + 1), low := t.low.set a (t.visited + 1), stack := a :: t.stack, opn := t.opn.set a true } _ cv av ev := m6.setOpn hB u7
  have rC : Row w7.heap 68 3 cv t.calls.length (fcells t.calls.reverse) := m7.vC.row
  refine TL_nil ?_
  -- R4
  refine W_reg (l := [⟨some 25, Op.load 66 (Operand.tmp 6), 66, none⟩, ⟨some 26, Op.move (Operand.tmp 0), 3, none⟩, ⟨some 27, Op.build 68 #[(0, Operand.tmp 26)], 68, none⟩, ⟨some 28, Op.buildSlice 66 1 #[(0, Operand.tmp 27)], 66, none⟩, ⟨some 29, Op.call { callee := Callee.builtin Builtin.append, args := #[Operand.tmp 25, Operand.tmp 28], argTypes := #[66, 66] }, 66, none⟩, ⟨none, Op.store 66 (Operand.tmp 6) (Operand.tmp 29), 0, none⟩]) (by kernel_rfl) (by kernel_rfl) ?_
  refine TL_q rfl (QV_load rfl one66 (m7.cC)) ?_
  refine TL_q rfl (QV_move rfl) ?_
  refine TL_q rfl (QV_build (v := .agg #[.int .i64 (a : Int), .int .i64 0, .int .i64 0]) rfl (fun w => by kernel_rfl)) ?_
  refine TL_e (EV_lit3 rfl rfl el66 in68 fun w8 h8 => ?_)
  refine TL_e (EV_append rfl rfl rfl el66 in68 rfl (by decide) (rC.fr h8.fr (fun _ _ h => h)) rfl (by intro j u hu; rw [Nat.zero_add, h8.blk.cel]; exact hu) (by intro u hu; simp at hu; rcases hu with rfl | rfl | rfl <;> rfl) (by omega) (by omega) fun v' w9 hrow2 h89 hat2 => ?_)
  obtain ⟨a2, c2, rfl, -⟩ := hrow2.form
  refine TL_e (EV_store rfl rfl rfl sz66 ((m7.boxC.fr h8.fr (fun h => h)).fr h89 (fun e => by have := (m7.vC.own _ e).2; omega)) (by simp) fun w10 u10 => ?_)
  have m10 := m7.pushC (f := ⟨a, 0, 0⟩) hB h8 hrow2 h89 hat2 u10
  refine TL_nil ?_
  have k1 := u1.size
  have k2 := u2.size
  have k3 := u3.size
  have k4 := h4.size
  have k5 := h45.size
  have k6 := u6.size
  have k7 := u7.size
  have k8 := h8.size
  have k9 := h89.size
  have k10 := u10.size
  obtain ⟨i1, i2, i3, i4, d1, d2, d3, d4, d5, d6⟩ := hB
  refine ⟨_, rfl, rfl, ?_, _, _, _, m10⟩
  have f1 : Fr (fun g => B.s ≤ g) w w1 := u1.fr.mono (by omega)
  have f2 := f1.trans (u2.fr.mono (by omega))
  have f3 := f2.trans (u3.fr.mono (by omega))
  have f4 := f3.trans (h4.fr.mono (fun _ _ h => h.elim))
  have f5 := f4.trans (h45.mono (fun k _ e => by have := (m3.vS.own _ e).2; omega))
  have f6 := f5.trans (u6.fr.mono (by omega))
  have f7 := f6.trans (u7.fr.mono (by omega))
  have f8 := f7.trans (h8.fr.mono (fun _ _ h => h.elim))
  have f9 := f8.trans (h89.mono (fun k _ e => by have := (m7.vC.own _ e).2; omega))
  exact f9.trans (u10.fr.mono (by omega))

end Go.Proofs.Qxb6600121a
