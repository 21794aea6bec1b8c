/-
   Walks written by program (wip/gen).
-/
import Derived.Test.Qxb6600121aW15
import Derived.Test.Qxb6600121aW10
import Derived.Test.Qxb6600121aW23
import Derived.Test.Qxb6600121aW12
import Derived.Test.Qxb6600121aW13
import Derived.Test.Qxb6600121aW14
namespace Go.Proofs.Qxb6600121a
open Go Go.Proofs
set_option linter.unusedVariables false
set_option linter.unusedSimpArgs false

set_option maxRecDepth 10000 in
set_option maxHeartbeats 400000 in
theorem partitionLaw (w : World) (B : Nat → Prop) (n : Int) (v : Value) (rs : List RD) (hv : RulesAt w.heap B v rs) :
    CallsS Try.prog 3 #[.int .i64 n, v] w (fun r w' => r = .bool true ∧ Fr (fun _ => False) w w') := by
  refine W_fun [4] Try.func3 rfl Try.ntmps3 Try.results3 (Nat.le_of_ble_eq_true rfl) ?_
  refine W_seq (by kernel_rfl) ?_
  -- R0
  refine W_reg (l := [⟨some 4, Op.assign (Operand.const (Value.bool false)), 4, none⟩]) (by kernel_rfl) (by kernel_rfl) ?_
  refine TL_q rfl (QV_assign rfl) ?_
  refine TL_nil ?_
  refine W_seq (by kernel_rfl) ?_
  refine W_seq (by kernel_rfl) ?_
  -- R1
  refine W_reg (l := [⟨some 8, Op.move (Operand.tmp 0), 3, none⟩, ⟨some 9, Op.move (Operand.tmp 1), 22, none⟩, ⟨some 10, Op.call { callee := Callee.value (Operand.func 10), args := #[Operand.tmp 8, Operand.tmp 9], argTypes := #[3, 22] }, 4, none⟩, ⟨some 11, Op.unOp UnOp.not 4 (Operand.tmp 10), 4, none⟩]) (by kernel_rfl) (by kernel_rfl) ?_
  refine TL_q rfl (QV_move rfl) ?_
  refine TL_q rfl (QV_move rfl) ?_
  refine TL_e (EV_callD rfl rfl rfl call10 (bytes10 w B n v rs hv) fun r w1 hr => ?_)
  obtain ⟨hw1, b1, rfl, hb1⟩ := hr
  rw [hw1]
  clear hw1
  refine TL_q rfl (QV_not rfl) ?_
  refine TL_nil ?_
  refine W_cond (c := Operand.tmp 11) (by kernel_rfl) rfl (fun hc11 => ?_) (fun hc11 => ?_)
  ·
    refine W_seq (by kernel_rfl) ?_
    -- R2
    refine W_reg (l := [⟨some 4, Op.assign (Operand.const (Value.bool true)), 4, none⟩]) (by kernel_rfl) (by kernel_rfl) ?_
    refine TL_q rfl (QV_assign rfl) ?_
    refine TL_nil ?_
    refine W_ret (by kernel_rfl) ?_
    first | exact ⟨_, rfl, rfl, Fr.refl _ _⟩ | exact ⟨_, rfl, rfl, f3⟩ | exact ⟨_, rfl, rfl, ((((f3.trans f4).trans f5).trans f6).trans f7)⟩
  ·
    have hb1 := hb1 (by cases b1 <;> first | rfl | cases hc11)
    refine W_skip (by kernel_rfl) ?_
    refine W_seq (by kernel_rfl) ?_
    refine W_seq (by kernel_rfl) ?_
    -- R3
    refine W_reg (l := [⟨some 12, Op.move (Operand.tmp 0), 3, none⟩, ⟨some 13, Op.move (Operand.tmp 1), 22, none⟩, ⟨some 14, Op.call { callee := Callee.value (Operand.func 11), args := #[Operand.tmp 12, Operand.tmp 13], argTypes := #[3, 22] }, 4, none⟩, ⟨some 15, Op.unOp UnOp.not 4 (Operand.tmp 14), 4, none⟩]) (by kernel_rfl) (by kernel_rfl) ?_
    refine TL_q rfl (QV_move rfl) ?_
    refine TL_q rfl (QV_move rfl) ?_
    refine TL_e (EV_callD rfl rfl rfl call11 (sized w B n v rs hv) fun r w2 hr => ?_)
    obtain ⟨hw2, b2, rfl, hb2⟩ := hr
    rw [hw2]
    clear hw2
    refine TL_q rfl (QV_not rfl) ?_
    refine TL_nil ?_
    refine W_cond (c := Operand.tmp 15) (by kernel_rfl) rfl (fun hc15 => ?_) (fun hc15 => ?_)
    ·
      refine W_seq (by kernel_rfl) ?_
      -- R4
      refine W_reg (l := [⟨some 4, Op.assign (Operand.const (Value.bool true)), 4, none⟩]) (by kernel_rfl) (by kernel_rfl) ?_
      refine TL_q rfl (QV_assign rfl) ?_
      refine TL_nil ?_
      refine W_ret (by kernel_rfl) ?_
      first | exact ⟨_, rfl, rfl, Fr.refl _ _⟩ | exact ⟨_, rfl, rfl, f3⟩ | exact ⟨_, rfl, rfl, ((((f3.trans f4).trans f5).trans f6).trans f7)⟩
    ·
      have hb2 := hb2 (by cases b2 <;> first | rfl | cases hc15)
      obtain ⟨n', rfl⟩ := Int.eq_ofNat_of_zero_le hb2.1
      refine W_skip (by kernel_rfl) ?_
      refine W_seq (by kernel_rfl) ?_
      refine W_seq (by kernel_rfl) ?_
      -- R5
      refine W_reg (l := [⟨some 16, Op.move (Operand.tmp 0), 3, none⟩, ⟨some 17, Op.move (Operand.tmp 1), 22, none⟩, ⟨some 18, Op.call { callee := Callee.value (Operand.func 12), args := #[Operand.tmp 16, Operand.tmp 17], argTypes := #[3, 22] }, 4, none⟩, ⟨some 19, Op.unOp UnOp.not 4 (Operand.tmp 18), 4, none⟩]) (by kernel_rfl) (by kernel_rfl) ?_
      refine TL_q rfl (QV_move rfl) ?_
      refine TL_q rfl (QV_move rfl) ?_
      refine TL_e (EV_callD rfl rfl rfl call12 (inRange w B n' v rs hv hb1) fun r w3 hr => ?_)
      obtain ⟨f3, b3, rfl, hb3⟩ := hr
      refine TL_q rfl (QV_not rfl) ?_
      refine TL_nil ?_
      refine W_cond (c := Operand.tmp 19) (by kernel_rfl) rfl (fun hc19 => ?_) (fun hc19 => ?_)
      ·
        refine W_seq (by kernel_rfl) ?_
        -- R6
        refine W_reg (l := [⟨some 4, Op.assign (Operand.const (Value.bool true)), 4, none⟩]) (by kernel_rfl) (by kernel_rfl) ?_
        refine TL_q rfl (QV_assign rfl) ?_
        refine TL_nil ?_
        refine W_ret (by kernel_rfl) ?_
        first | exact ⟨_, rfl, rfl, Fr.refl _ _⟩ | exact ⟨_, rfl, rfl, f3⟩ | exact ⟨_, rfl, rfl, ((((f3.trans f4).trans f5).trans f6).trans f7)⟩
      ·
        have hb3 := hb3 (by cases b3 <;> first | rfl | cases hc19)
        obtain ⟨D, rfl, hok⟩ := plain_of hb3
        rw [List.length_map] at hb1
        refine W_skip (by kernel_rfl) ?_
        refine W_seq (by kernel_rfl) ?_
        -- R7
        refine W_reg (l := [⟨some 20, Op.move (Operand.tmp 1), 22, none⟩, ⟨some 21, Op.call { callee := Callee.value (Operand.func 13), args := #[Operand.tmp 20], argTypes := #[22] }, 22, none⟩, ⟨some 1, Op.assign (Operand.tmp 21), 22, none⟩]) (by kernel_rfl) (by kernel_rfl) ?_
        refine TL_q rfl (QV_move rfl) ?_
        refine TL_e (EV_callD rfl rfl rfl call13 (cloneRules w3 B v _ (hv.fr f3 (fun _ _ h => h)) (by rw [List.length_map]; exact hb1)) fun r w4 hr => ?_)
        obtain ⟨f4, hcl⟩ := hr
        refine TL_q rfl (QV_assign rfl) ?_
        refine TL_nil ?_
        refine W_seq (by kernel_rfl) ?_
        -- R8
        refine W_reg (l := [⟨some 22, Op.move (Operand.tmp 0), 3, none⟩, ⟨some 23, Op.move (Operand.tmp 1), 22, none⟩, ⟨some 24, Op.call { callee := Callee.value (Operand.func 14), args := #[Operand.tmp 22, Operand.tmp 23], argTypes := #[3, 22] }, 25, none⟩, ⟨some 5, Op.assign (Operand.tmp 24), 25, none⟩]) (by kernel_rfl) (by kernel_rfl) ?_
        refine TL_q rfl (QV_move rfl) ?_
        refine TL_q rfl (QV_move rfl) ?_
        refine TL_e (EV_callD rfl rfl rfl call14 (newSolver w4 _ (fun b hb => hb.2) n' r D hcl hok hb1 (by omega)) fun r w5 hr => ?_)
        obtain ⟨L, rfl, f5, hL1, hL2, hsol⟩ := hr
        refine TL_q rfl (QV_assign rfl) ?_
        refine TL_nil ?_
        refine W_seq (by kernel_rfl) ?_
        -- R9
        refine W_reg (l := [⟨some 26, Op.move (Operand.tmp 5), 25, none⟩, ⟨some 27, Op.call { callee := Callee.value (Operand.func 15), args := #[Operand.tmp 26], argTypes := #[25] }, 28, none⟩, ⟨some 25, Op.move (Operand.tmp 27), 28, none⟩, ⟨some 28, Op.extract (Operand.tmp 25) 0, 27, none⟩, ⟨some 29, Op.extract (Operand.tmp 25) 1, 27, none⟩, ⟨some 6, Op.assign (Operand.tmp 28), 27, none⟩, ⟨some 7, Op.assign (Operand.tmp 29), 27, none⟩]) (by kernel_rfl) (by kernel_rfl) ?_
        refine TL_q rfl (QV_move rfl) ?_
        refine TL_e (EV_callD rfl rfl rfl call15 (comps15 w5 _ (fun av ev w' => ∃ t, P1 D n' t ∧ t.calls = [] ∧ (∀ v, v < n' → t.index.getD v 0 ≠ 0) ∧ Fr (fun _ => False) w5 w' ∧ Row w'.heap 3 1 av t.atoms.length (nats t.atoms) ∧ Row w'.heap 3 1 ev t.ends.length (nats t.ends)) ((comps w5 L n' (by omega) D hok hb1 hsol.stat hsol.c0 hsol.c1 (P1 D n') (mu D n') (fun t h => h.safe) (p1_start D n') (fun t k h hc hk h0 => h.visit hk h0 (.inl (h.stack_nil hc))) (fun t h hne => h.step hok hne)).mono (fun r w' ⟨t, av, ev, h1, h2, h3, h4, h5, h6, h7, _⟩ => ⟨av, ev, h4, t, h1, h2, h3, h5, h6, h7⟩))) fun r w6 hr => ?_)
        obtain ⟨av, ev, rfl, t, hp, hc, hv6, f6, hra, hre⟩ := hr
        have hpart := hp.part hc hv6
        refine TL_q rfl (QV_move rfl) ?_
        refine TL_q rfl (QV_extract rfl rfl) ?_
        refine TL_q rfl (QV_extract rfl rfl) ?_
        refine TL_q rfl (QV_assign rfl) ?_
        refine TL_q rfl (QV_assign rfl) ?_
        refine TL_nil ?_
        refine W_seq (by kernel_rfl) ?_
        -- R10
        refine W_reg (l := [⟨some 30, Op.move (Operand.tmp 0), 3, none⟩, ⟨some 31, Op.move (Operand.tmp 6), 27, none⟩, ⟨some 32, Op.move (Operand.tmp 7), 27, none⟩, ⟨some 33, Op.call { callee := Callee.value (Operand.func 16), args := #[Operand.tmp 30, Operand.tmp 31, Operand.tmp 32], argTypes := #[3, 27, 27] }, 4, none⟩, ⟨some 4, Op.assign (Operand.tmp 33), 4, none⟩]) (by kernel_rfl) (by kernel_rfl) ?_
        refine TL_q rfl (QV_move rfl) ?_
        refine TL_q rfl (QV_move rfl) ?_
        refine TL_q rfl (QV_move rfl) ?_
        refine TL_e (EV_callD rfl rfl rfl call16 (partitionWalk w6 (fun _ => True) n' (by omega) av ev t.atoms t.ends (hra.intsAt (fun _ _ => trivial)) (hre.intsAt (fun _ _ => trivial)) hpart (by have := hp.safe.ne; omega)) fun r w7 hr => ?_)
        obtain ⟨rfl, f7⟩ := hr
        refine TL_q rfl (QV_assign rfl) ?_
        refine TL_nil ?_
        refine W_ret (by kernel_rfl) ?_
        first | exact ⟨_, rfl, rfl, Fr.refl _ _⟩ | exact ⟨_, rfl, rfl, f3⟩ | exact ⟨_, rfl, rfl, ((((f3.trans f4).trans f5).trans f6).trans f7)⟩

end Go.Proofs.Qxb6600121a
