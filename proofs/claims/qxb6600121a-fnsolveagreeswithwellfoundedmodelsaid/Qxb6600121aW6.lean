/-
   Walks written by program (wip/gen).
-/
import Derived.Test.Qxb6600121aFin
import Derived.Test.Qxb6600121aW23
import Derived.Test.Qxb6600121aW12
import Derived.Test.Qxb6600121aW13
import Derived.Test.Qxb6600121aW14
import Derived.Test.Qxb6600121aW17
import Derived.Test.Qxb6600121aW25
namespace Go.Proofs.Qxb6600121a
open Go Go.Proofs
set_option linter.unusedVariables false
set_option linter.unusedSimpArgs false

set_option maxRecDepth 10000 in
set_option maxHeartbeats 1000000 in
theorem solveLaw (w : World) (B : Nat → Prop) (n : Int) (v : Value) (rs : List RD) (hv : RulesAt w.heap B v rs) :
    CallsS Try.prog 6 #[.int .i64 n, v] w (fun r w' => r = .bool true ∧ Fr (fun _ => False) w w') := by
  refine W_fun [4] Try.func6 rfl Try.ntmps6 Try.results6 (Nat.le_of_ble_eq_true rfl) ?_
  refine W_seq (by kernel_rfl) ?_
  -- R0
  refine W_reg (l := [⟨some 4, Op.assign (Operand.const (Value.bool false)), 4, none⟩]) (by kernel_rfl) (by kernel_rfl) ?_
  refine TL_q rfl (QV_assign rfl) ?_
  refine TL_nil ?_
  refine W_seq (by kernel_rfl) ?_
  refine W_seq (by kernel_rfl) ?_
  -- R1
  refine W_reg (l := [⟨some 13, Op.move (Operand.tmp 0), 3, none⟩, ⟨some 14, Op.move (Operand.tmp 1), 22, none⟩, ⟨some 15, Op.call { callee := Callee.value (Operand.func 22), args := #[Operand.tmp 13, Operand.tmp 14], argTypes := #[3, 22] }, 4, none⟩, ⟨some 16, Op.unOp UnOp.not 4 (Operand.tmp 15), 4, none⟩]) (by kernel_rfl) (by kernel_rfl) ?_
  refine TL_q rfl (QV_move rfl) ?_
  refine TL_q rfl (QV_move rfl) ?_
  refine TL_e (EV_callD rfl rfl rfl call22 (bytes22 w B n v rs hv) fun r w1 hr => ?_)
  obtain ⟨hw1, b1, rfl, hb1⟩ := hr
  rw [hw1]
  clear hw1
  refine TL_q rfl (QV_not rfl) ?_
  refine TL_nil ?_
  refine W_cond (c := Operand.tmp 16) (by kernel_rfl) rfl (fun hc16 => ?_) (fun hc16 => ?_)
  ·
    refine W_seq (by kernel_rfl) ?_
    -- R2
    refine W_reg (l := [⟨some 4, Op.assign (Operand.const (Value.bool true)), 4, none⟩]) (by kernel_rfl) (by kernel_rfl) ?_
    refine TL_q rfl (QV_assign rfl) ?_
    refine TL_nil ?_
    refine W_ret (by kernel_rfl) ?_
    first
      | exact ⟨_, rfl, rfl, Fr.refl _ _⟩
      | exact ⟨_, rfl, rfl, f3⟩
      | exact ⟨_, rfl, rfl, ((((f3.trans f4).trans f5).step (f6.mono (Y := fun g => L.s < g) (fun _ _ e => e.1)) (by have := f3.size; have := f4.size; have := f5.size; intro i hi _ e; omega)).trans f7)⟩
  ·
    have hb1 := hb1 (by cases b1 <;> first | rfl | cases hc16)
    refine W_skip (by kernel_rfl) ?_
    refine W_seq (by kernel_rfl) ?_
    refine W_seq (by kernel_rfl) ?_
    -- R3
    refine W_reg (l := [⟨some 17, Op.move (Operand.tmp 0), 3, none⟩, ⟨some 18, Op.move (Operand.tmp 1), 22, none⟩, ⟨some 19, Op.call { callee := Callee.value (Operand.func 23), args := #[Operand.tmp 17, Operand.tmp 18, Operand.const (Value.int IntKind.i64 4096), Operand.const (Value.int IntKind.i64 65536)], argTypes := #[3, 22, 3, 3] }, 4, none⟩, ⟨some 20, Op.unOp UnOp.not 4 (Operand.tmp 19), 4, none⟩]) (by kernel_rfl) (by kernel_rfl) ?_
    refine TL_q rfl (QV_move rfl) ?_
    refine TL_q rfl (QV_move rfl) ?_
    refine TL_e (EV_callD rfl rfl rfl call23 (sizedWithin w B n v rs 4096 65536 hv (by decide) (by decide)) fun r w2 hr => ?_)
    obtain ⟨hw2, b2, rfl, hb2⟩ := hr
    rw [hw2]
    clear hw2
    refine TL_q rfl (QV_not rfl) ?_
    refine TL_nil ?_
    refine W_cond (c := Operand.tmp 20) (by kernel_rfl) rfl (fun hc20 => ?_) (fun hc20 => ?_)
    ·
      refine W_seq (by kernel_rfl) ?_
      -- R4
      refine W_reg (l := [⟨some 4, Op.assign (Operand.const (Value.bool true)), 4, none⟩]) (by kernel_rfl) (by kernel_rfl) ?_
      refine TL_q rfl (QV_assign rfl) ?_
      refine TL_nil ?_
      refine W_ret (by kernel_rfl) ?_
      first
        | exact ⟨_, rfl, rfl, Fr.refl _ _⟩
        | exact ⟨_, rfl, rfl, f3⟩
        | exact ⟨_, rfl, rfl, ((((f3.trans f4).trans f5).step (f6.mono (Y := fun g => L.s < g) (fun _ _ e => e.1)) (by have := f3.size; have := f4.size; have := f5.size; intro i hi _ e; omega)).trans f7)⟩
    ·
      have hb2 := hb2 (by cases b2 <;> first | rfl | cases hc20)
      obtain ⟨n', rfl⟩ := Int.eq_ofNat_of_zero_le hb2.1
      have hn4 : n' ≤ 4096 := by have := hb2.2.1; omega
      refine W_skip (by kernel_rfl) ?_
      refine W_seq (by kernel_rfl) ?_
      refine W_seq (by kernel_rfl) ?_
      -- R5
      refine W_reg (l := [⟨some 21, Op.move (Operand.tmp 0), 3, none⟩, ⟨some 22, Op.move (Operand.tmp 1), 22, none⟩, ⟨some 23, Op.call { callee := Callee.value (Operand.func 12), args := #[Operand.tmp 21, Operand.tmp 22], argTypes := #[3, 22] }, 4, none⟩, ⟨some 24, Op.unOp UnOp.not 4 (Operand.tmp 23), 4, none⟩]) (by kernel_rfl) (by kernel_rfl) ?_
      refine TL_q rfl (QV_move rfl) ?_
      refine TL_q rfl (QV_move rfl) ?_
      refine TL_e (EV_callD rfl rfl rfl call12 (inRange w B n' v rs hv hb1) fun r w3 hr => ?_)
      obtain ⟨f3, b3, rfl, hb3⟩ := hr
      refine TL_q rfl (QV_not rfl) ?_
      refine TL_nil ?_
      refine W_cond (c := Operand.tmp 24) (by kernel_rfl) rfl (fun hc24 => ?_) (fun hc24 => ?_)
      ·
        refine W_seq (by kernel_rfl) ?_
        -- R6
        refine W_reg (l := [⟨some 4, Op.assign (Operand.const (Value.bool true)), 4, none⟩]) (by kernel_rfl) (by kernel_rfl) ?_
        refine TL_q rfl (QV_assign rfl) ?_
        refine TL_nil ?_
        refine W_ret (by kernel_rfl) ?_
        first
          | exact ⟨_, rfl, rfl, Fr.refl _ _⟩
          | exact ⟨_, rfl, rfl, f3⟩
          | exact ⟨_, rfl, rfl, ((((f3.trans f4).trans f5).step (f6.mono (Y := fun g => L.s < g) (fun _ _ e => e.1)) (by have := f3.size; have := f4.size; have := f5.size; intro i hi _ e; omega)).trans f7)⟩
      ·
        have hb3 := hb3 (by cases b3 <;> first | rfl | cases hc24)
        obtain ⟨D, rfl, hok⟩ := plain_of hb3
        rw [List.length_map] at hb1
        refine W_skip (by kernel_rfl) ?_
        refine W_seq (by kernel_rfl) ?_
        -- R7
        refine W_reg (l := [⟨some 25, Op.move (Operand.tmp 1), 22, none⟩, ⟨some 26, Op.call { callee := Callee.value (Operand.func 13), args := #[Operand.tmp 25], argTypes := #[22] }, 22, none⟩, ⟨some 1, Op.assign (Operand.tmp 26), 22, none⟩]) (by kernel_rfl) (by kernel_rfl) ?_
        refine TL_q rfl (QV_move rfl) ?_
        refine TL_e (EV_callD rfl rfl rfl call13 (cloneRules w3 B v _ (hv.fr f3 (fun _ _ h => h)) (by rw [List.length_map]; exact hb1)) fun r w4 hr => ?_)
        obtain ⟨f4, hcl⟩ := hr
        refine TL_q rfl (QV_assign rfl) ?_
        refine TL_nil ?_
        refine W_seq (by kernel_rfl) ?_
        -- R8
        refine W_reg (l := [⟨some 27, Op.move (Operand.tmp 0), 3, none⟩, ⟨some 28, Op.move (Operand.tmp 1), 22, none⟩, ⟨some 29, Op.call { callee := Callee.value (Operand.func 14), args := #[Operand.tmp 27, Operand.tmp 28], argTypes := #[3, 22] }, 25, none⟩, ⟨some 5, Op.assign (Operand.tmp 29), 25, none⟩]) (by kernel_rfl) (by kernel_rfl) ?_
        refine TL_q rfl (QV_move rfl) ?_
        refine TL_q rfl (QV_move rfl) ?_
        refine TL_e (EV_callD rfl rfl rfl call14 (newSolver w4 _ (fun b hb => hb.2) n' r D hcl hok hb1 (by omega)) fun r2 w5 hr => ?_)
        obtain ⟨L, rfl, f5, hL1, hL2, hsol⟩ := hr
        refine TL_q rfl (QV_assign rfl) ?_
        refine TL_nil ?_
        refine W_seq (by kernel_rfl) ?_
        -- R9
        refine W_reg (l := [⟨some 31, Op.move (Operand.tmp 5), 25, none⟩, ⟨some 32, Op.move (Operand.tmp 0), 3, none⟩, ⟨some 33, Op.call { callee := Callee.value (Operand.func 24), args := #[Operand.tmp 31, Operand.tmp 32], argTypes := #[25, 3] }, 40, none⟩, ⟨some 30, Op.move (Operand.tmp 33), 40, none⟩, ⟨some 34, Op.extract (Operand.tmp 30) 0, 27, none⟩, ⟨some 35, Op.extract (Operand.tmp 30) 1, 27, none⟩, ⟨some 36, Op.extract (Operand.tmp 30) 2, 4, none⟩, ⟨some 6, Op.assign (Operand.tmp 34), 27, none⟩, ⟨some 7, Op.assign (Operand.tmp 35), 27, none⟩, ⟨some 8, Op.assign (Operand.tmp 36), 4, none⟩]) (by kernel_rfl) (by kernel_rfl) ?_
        refine TL_q rfl (QV_move rfl) ?_
        refine TL_q rfl (QV_move rfl) ?_
        refine TL_e (EV_callD rfl rfl rfl call24 (solveAll w5 L n' D _ (fun _ => False) nilS nilS (smf_start hsol) hok hb1 (by omega) _ (slvOf (tuWF D n') hok hb1 (by omega))) fun r3 w6 hr => ?_)
        obtain ⟨av, ev, rfl, atoms, ends, hfin, S6, lv6, qv6, hrk, f6, Pr, -, hIA, hIE, h6⟩ := hr
        have hrules := (hcl.fr f5 (fun _ _ h => h)).fr f6 (fun b hb e => by have := e.1; have := hb.2; omega)
        refine TL_q rfl (QV_move rfl) ?_
        refine TL_q rfl (QV_extract rfl rfl) ?_
        refine TL_q rfl (QV_extract rfl rfl) ?_
        refine TL_q rfl (QV_extract rfl rfl) ?_
        refine TL_q rfl (QV_assign rfl) ?_
        refine TL_q rfl (QV_assign rfl) ?_
        refine TL_q rfl (QV_assign rfl) ?_
        refine TL_nil ?_
        refine W_seq (by kernel_rfl) ?_
        refine W_seq (by kernel_rfl) ?_
        -- R10
        refine W_reg (l := [⟨some 37, Op.move (Operand.tmp 8), 4, none⟩, ⟨some 38, Op.unOp UnOp.not 4 (Operand.tmp 37), 4, none⟩]) (by kernel_rfl) (by kernel_rfl) ?_
        refine TL_q rfl (QV_move rfl) ?_
        refine TL_q rfl (QV_not rfl) ?_
        refine TL_nil ?_
        refine W_cond (c := Operand.tmp 38) (by kernel_rfl) rfl (fun hc38 => ?_) (fun hc38 => ?_)
        ·
          cases hc38
        ·
          refine W_skip (by kernel_rfl) ?_
          refine W_seq (by kernel_rfl) ?_
          -- R12
          refine W_reg (l := [⟨some 40, Op.move (Operand.tmp 0), 3, none⟩, ⟨some 41, Op.move (Operand.tmp 1), 22, none⟩, ⟨some 42, Op.call { callee := Callee.value (Operand.func 25), args := #[Operand.tmp 40, Operand.tmp 41], argTypes := #[3, 22] }, 42, none⟩, ⟨some 39, Op.move (Operand.tmp 42), 42, none⟩, ⟨some 43, Op.extract (Operand.tmp 39) 0, 37, none⟩, ⟨some 44, Op.extract (Operand.tmp 39) 1, 37, none⟩, ⟨some 9, Op.assign (Operand.tmp 43), 37, none⟩, ⟨some 10, Op.assign (Operand.tmp 44), 37, none⟩]) (by kernel_rfl) (by kernel_rfl) ?_
          refine TL_q rfl (QV_move rfl) ?_
          refine TL_q rfl (QV_move rfl) ?_
          refine TL_e (EV_callD rfl rfl rfl call25 (zzWellFounded w6 _ n' _ D hrules hok hb1 (by omega)) fun r7 w7 hr7 => ?_)
          obtain ⟨f7, t, u, bt, bu, rfl, hbt, hbu, htl, hul, hwf⟩ := hr7
          have h7 := h6.keep f7
          have hag : ∀ a, a < n' → (t.getD a false = true → S6.val.getD a 0 = 2) ∧ (t.getD a false = false → u.getD a false = false → S6.val.getD a 0 = 0) ∧ (t.getD a false = false → u.getD a false = true → S6.val.getD a 0 = 1) := by
            intro a ha
            obtain ⟨h1, h2⟩ := hwf a ha
            obtain ⟨k1, k2⟩ := hrk.1.agree hok hfin ha
            refine ⟨fun e => k1.2 (h1.1 e), fun e1 e2 => k2.2 (fun e => by rw [h2.2 e] at e2; cases e2), fun e1 e2 => ?_⟩
            rcases hrk.1.v3 a ha with h | h | h
            · exact absurd (h2.1 e2) (k2.1 h)
            · exact h
            · rw [h1.2 (k1.1 h)] at e1; cases e1
          refine TL_q rfl (QV_move rfl) ?_
          refine TL_q rfl (QV_extract rfl rfl) ?_
          refine TL_q rfl (QV_extract rfl rfl) ?_
          refine TL_q rfl (QV_assign rfl) ?_
          refine TL_q rfl (QV_assign rfl) ?_
          refine TL_nil ?_
          refine W_seq (by kernel_rfl) ?_
          refine W_seq (by kernel_rfl) ?_
          -- R13
          refine W_reg (l := [⟨some 11, Op.assign (Operand.const (Value.int IntKind.i64 0)), 3, none⟩]) (by kernel_rfl) (by kernel_rfl) ?_
          refine TL_q rfl (QV_assign rfl) ?_
          refine TL_nil ?_
          refine W_block 0 (by kernel_rfl) ?_
          refine W_loop (fun (a : Nat) w8 => a ≤ n' ∧ w7 = w8) (fun a => [(0, .int .i64 (n' : Int)), (5, .pointer (some ⟨L.s + 9, 0, none⟩)), (9, .slice (some ⟨bt, 0, none⟩) n' n'), (10, .slice (some ⟨bu, 0, none⟩) n' n'), (11, .int .i64 (a : Int))]) (fun a => n' - a) 0 (by kernel_rfl) ?_ ?_ ?_
          · exact ⟨Nat.zero_le _, rfl⟩
          · exact ⟨rfl, rfl, rfl, rfl, rfl, trivial⟩
          rintro a w8 ⟨ha, rfl⟩
          refine W_seq (by kernel_rfl) ?_
          refine W_seq (by kernel_rfl) ?_
          -- R14
          refine W_reg (l := [⟨some 45, Op.move (Operand.tmp 11), 3, none⟩, ⟨some 46, Op.move (Operand.tmp 0), 3, none⟩, ⟨some 47, Op.binOp BinOp.lss 3 (Operand.tmp 45) (Operand.tmp 46) 3, 4, none⟩]) (by kernel_rfl) (by kernel_rfl) ?_
          refine TL_q rfl (QV_move rfl) ?_
          refine TL_q rfl (QV_move rfl) ?_
          refine TL_q rfl (QV_lss rfl rfl) ?_
          refine TL_nil ?_
          refine W_cond (c := Operand.tmp 47) (by kernel_rfl) rfl (fun hc47 => ?_) (fun hc47 => ?_)
          ·
            have hlt : a < n' := by have := of_decide_eq_true hc47; omega
            refine W_skip (by kernel_rfl) ?_
            refine W_seq (by kernel_rfl) ?_
            refine W_block 1 (by kernel_rfl) ?_
            refine W_seq (by kernel_rfl) ?_
            -- R16
            refine W_reg (l := [⟨some 12, Op.assign (Operand.const (Value.int IntKind.i8 1)), 45, none⟩]) (by kernel_rfl) (by kernel_rfl) ?_
            refine TL_q rfl (QV_assign rfl) ?_
            refine TL_nil ?_
            refine W_seq (by kernel_rfl) ?_
            refine W_seq (by kernel_rfl) ?_
            -- R17
            refine W_reg (l := [⟨some 50, Op.move (Operand.tmp 9), 37, none⟩, ⟨some 51, Op.move (Operand.tmp 11), 3, none⟩, ⟨some 52, Op.indexAddr 37 (Operand.tmp 50) (Operand.tmp 51), 0, none⟩, ⟨some 53, Op.load 4 (Operand.tmp 52), 4, none⟩]) (by kernel_rfl) (by kernel_rfl) ?_
            refine TL_q rfl (QV_move rfl) ?_
            refine TL_q rfl (QV_move rfl) ?_
            refine TL_q rfl (QV_idx1 rfl rfl el37 sz4 (hlt)) ?_
            refine TL_q rfl (QV_load rfl one4 (hbt.cB (by rw [htl]; exact hlt))) ?_
            refine TL_nil ?_
            refine W_cond (c := Operand.tmp 53) (by kernel_rfl) rfl (fun hc53 => ?_) (fun hc53 => ?_)
            ·
              have hv6 : S6.val.getD a 0 = 2 := (hag a hlt).1 hc53
              -- R18
              refine W_reg (l := [⟨some 12, Op.assign (Operand.const (Value.int IntKind.i8 2)), 45, none⟩]) (by kernel_rfl) (by kernel_rfl) ?_
              refine TL_q rfl (QV_assign rfl) ?_
              refine TL_nil ?_
              refine W_seq (by kernel_rfl) ?_
              -- R21
              refine W_reg (l := [⟨some 59, Op.move (Operand.tmp 5), 25, none⟩, ⟨some 60, Op.move (Operand.tmp 11), 3, none⟩, ⟨some 61, Op.call { callee := Callee.value (Operand.func 26), args := #[Operand.tmp 59, Operand.tmp 60], argTypes := #[25, 3] }, 45, none⟩, ⟨some 62, Op.move (Operand.tmp 12), 45, none⟩, ⟨some 63, Op.binOp BinOp.neq 45 (Operand.tmp 61) (Operand.tmp 62) 45, 4, none⟩]) (by kernel_rfl) (by kernel_rfl) ?_
              refine TL_q rfl (QV_move rfl) ?_
              refine TL_q rfl (QV_move rfl) ?_
              refine TL_e (EV_callD rfl rfl rfl call26 (truthOf w7 L n' D S6 _ lv6 qv6 h7 a hlt) fun r9 w9 hr9 => ?_)
              obtain ⟨hw9, rfl⟩ := hr9
              rw [hw9]
              clear hw9
              refine TL_q rfl (QV_move rfl) ?_
              refine TL_q rfl (QV_neq rfl rfl) ?_
              refine TL_nil ?_
              refine W_cond (c := Operand.tmp 63) (by kernel_rfl) rfl (fun hc63 => ?_) (fun hc63 => ?_)
              ·
                exact absurd hv6 (of_decide_eq_true hc63)
              ·
                refine W_skip (by kernel_rfl) ?_
                -- R15
                refine W_reg (l := [⟨some 48, Op.move (Operand.tmp 11), 3, none⟩, ⟨some 49, Op.binOp BinOp.add 3 (Operand.tmp 48) (Operand.const (Value.int IntKind.i64 1)) 3, 3, none⟩, ⟨some 11, Op.assign (Operand.tmp 49), 3, none⟩]) (by kernel_rfl) (by kernel_rfl) ?_
                refine TL_q rfl (QV_move rfl) ?_
                refine TL_q rfl (QV_add (r := ((a + 1 : Nat) : Int)) rfl rfl (by omega) (by omega) (by omega)) ?_
                refine TL_q rfl (QV_assign rfl) ?_
                refine TL_nil ?_
                exact ⟨a + 1, ⟨by omega, rfl⟩, ⟨rfl, rfl, rfl, rfl, rfl, trivial⟩, by omega⟩
            ·
              refine W_seq (by kernel_rfl) ?_
              -- R19
              refine W_reg (l := [⟨some 54, Op.move (Operand.tmp 10), 37, none⟩, ⟨some 55, Op.move (Operand.tmp 11), 3, none⟩, ⟨some 56, Op.indexAddr 37 (Operand.tmp 54) (Operand.tmp 55), 0, none⟩, ⟨some 57, Op.load 4 (Operand.tmp 56), 4, none⟩, ⟨some 58, Op.unOp UnOp.not 4 (Operand.tmp 57), 4, none⟩]) (by kernel_rfl) (by kernel_rfl) ?_
              refine TL_q rfl (QV_move rfl) ?_
              refine TL_q rfl (QV_move rfl) ?_
              refine TL_q rfl (QV_idx1 rfl rfl el37 sz4 (hlt)) ?_
              refine TL_q rfl (QV_load rfl one4 (hbu.cB (by rw [hul]; exact hlt))) ?_
              refine TL_q rfl (QV_not rfl) ?_
              refine TL_nil ?_
              refine W_cond (c := Operand.tmp 58) (by kernel_rfl) rfl (fun hc58 => ?_) (fun hc58 => ?_)
              ·
                have hv6 : S6.val.getD a 0 = 0 := (hag a hlt).2.1 hc53 (by simpa using hc58)
                -- R20
                refine W_reg (l := [⟨some 12, Op.assign (Operand.const (Value.int IntKind.i8 0)), 45, none⟩]) (by kernel_rfl) (by kernel_rfl) ?_
                refine TL_q rfl (QV_assign rfl) ?_
                refine TL_nil ?_
                refine W_seq (by kernel_rfl) ?_
                -- R21
                refine W_reg (l := [⟨some 59, Op.move (Operand.tmp 5), 25, none⟩, ⟨some 60, Op.move (Operand.tmp 11), 3, none⟩, ⟨some 61, Op.call { callee := Callee.value (Operand.func 26), args := #[Operand.tmp 59, Operand.tmp 60], argTypes := #[25, 3] }, 45, none⟩, ⟨some 62, Op.move (Operand.tmp 12), 45, none⟩, ⟨some 63, Op.binOp BinOp.neq 45 (Operand.tmp 61) (Operand.tmp 62) 45, 4, none⟩]) (by kernel_rfl) (by kernel_rfl) ?_
                refine TL_q rfl (QV_move rfl) ?_
                refine TL_q rfl (QV_move rfl) ?_
                refine TL_e (EV_callD rfl rfl rfl call26 (truthOf w7 L n' D S6 _ lv6 qv6 h7 a hlt) fun r9 w9 hr9 => ?_)
                obtain ⟨hw9, rfl⟩ := hr9
                rw [hw9]
                clear hw9
                refine TL_q rfl (QV_move rfl) ?_
                refine TL_q rfl (QV_neq rfl rfl) ?_
                refine TL_nil ?_
                refine W_cond (c := Operand.tmp 63) (by kernel_rfl) rfl (fun hc63 => ?_) (fun hc63 => ?_)
                ·
                  exact absurd hv6 (of_decide_eq_true hc63)
                ·
                  refine W_skip (by kernel_rfl) ?_
                  -- R15
                  refine W_reg (l := [⟨some 48, Op.move (Operand.tmp 11), 3, none⟩, ⟨some 49, Op.binOp BinOp.add 3 (Operand.tmp 48) (Operand.const (Value.int IntKind.i64 1)) 3, 3, none⟩, ⟨some 11, Op.assign (Operand.tmp 49), 3, none⟩]) (by kernel_rfl) (by kernel_rfl) ?_
                  refine TL_q rfl (QV_move rfl) ?_
                  refine TL_q rfl (QV_add (r := ((a + 1 : Nat) : Int)) rfl rfl (by omega) (by omega) (by omega)) ?_
                  refine TL_q rfl (QV_assign rfl) ?_
                  refine TL_nil ?_
                  exact ⟨a + 1, ⟨by omega, rfl⟩, ⟨rfl, rfl, rfl, rfl, rfl, trivial⟩, by omega⟩
              ·
                have hv6 : S6.val.getD a 0 = 1 := (hag a hlt).2.2 hc53 (by simpa using hc58)
                refine W_skip (by kernel_rfl) ?_
                refine W_seq (by kernel_rfl) ?_
                -- R21
                refine W_reg (l := [⟨some 59, Op.move (Operand.tmp 5), 25, none⟩, ⟨some 60, Op.move (Operand.tmp 11), 3, none⟩, ⟨some 61, Op.call { callee := Callee.value (Operand.func 26), args := #[Operand.tmp 59, Operand.tmp 60], argTypes := #[25, 3] }, 45, none⟩, ⟨some 62, Op.move (Operand.tmp 12), 45, none⟩, ⟨some 63, Op.binOp BinOp.neq 45 (Operand.tmp 61) (Operand.tmp 62) 45, 4, none⟩]) (by kernel_rfl) (by kernel_rfl) ?_
                refine TL_q rfl (QV_move rfl) ?_
                refine TL_q rfl (QV_move rfl) ?_
                refine TL_e (EV_callD rfl rfl rfl call26 (truthOf w7 L n' D S6 _ lv6 qv6 h7 a hlt) fun r9 w9 hr9 => ?_)
                obtain ⟨hw9, rfl⟩ := hr9
                rw [hw9]
                clear hw9
                refine TL_q rfl (QV_move rfl) ?_
                refine TL_q rfl (QV_neq rfl rfl) ?_
                refine TL_nil ?_
                refine W_cond (c := Operand.tmp 63) (by kernel_rfl) rfl (fun hc63 => ?_) (fun hc63 => ?_)
                ·
                  exact absurd hv6 (of_decide_eq_true hc63)
                ·
                  refine W_skip (by kernel_rfl) ?_
                  -- R15
                  refine W_reg (l := [⟨some 48, Op.move (Operand.tmp 11), 3, none⟩, ⟨some 49, Op.binOp BinOp.add 3 (Operand.tmp 48) (Operand.const (Value.int IntKind.i64 1)) 3, 3, none⟩, ⟨some 11, Op.assign (Operand.tmp 49), 3, none⟩]) (by kernel_rfl) (by kernel_rfl) ?_
                  refine TL_q rfl (QV_move rfl) ?_
                  refine TL_q rfl (QV_add (r := ((a + 1 : Nat) : Int)) rfl rfl (by omega) (by omega) (by omega)) ?_
                  refine TL_q rfl (QV_assign rfl) ?_
                  refine TL_nil ?_
                  exact ⟨a + 1, ⟨by omega, rfl⟩, ⟨rfl, rfl, rfl, rfl, rfl, trivial⟩, by omega⟩
          ·
            refine W_exit 0 (by kernel_rfl) ?_
            show T Try.prog 64 (C Try.f6 [1, 1, 1, 1, 1, 1, 1, 1, 1, 1]) _ _ _
            refine W_seq (by kernel_rfl) ?_
            -- R23
            refine W_reg (l := [⟨some 4, Op.assign (Operand.const (Value.bool true)), 4, none⟩]) (by kernel_rfl) (by kernel_rfl) ?_
            refine TL_q rfl (QV_assign rfl) ?_
            refine TL_nil ?_
            refine W_ret (by kernel_rfl) ?_
            first
              | exact ⟨_, rfl, rfl, Fr.refl _ _⟩
              | exact ⟨_, rfl, rfl, f3⟩
              | exact ⟨_, rfl, rfl, ((((f3.trans f4).trans f5).step (f6.mono (Y := fun g => L.s < g) (fun _ _ e => e.1)) (by have := f3.size; have := f4.size; have := f5.size; intro i hi _ e; omega)).trans f7)⟩

end Go.Proofs.Qxb6600121a
